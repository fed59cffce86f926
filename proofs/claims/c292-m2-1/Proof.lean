import JvmDerived
import JvmDerived.Pilot.@@N@@Statement
import JvmDerived.Pilot.@@N@@Code
set_option linter.unusedVariables false
set_option linter.unusedSimpArgs false
namespace Jvm.Pilot.@@N@@
open Jvm Jvm.ClassFile Sem Op Lib Jvm.Free Jvm.Stand Jvm.LawKit Jvm.RoadKit Bundle Jvm.Pilot.@@N@@.Jvm.D
/-- the run from F ends, with an outcome and a state that Φ takes -/
def own_Goes (p : Program) (e : Env) (below : List Frame) (Φ : Outcome → State → Prop) (F : State) : Prop :=
  ∃ s₂ o, Steps p.tables e below F s₂ ∧ s₂.status = .running ∧ Ended s₂ below o ∧ Φ o s₂
theorem own_go {p : Program} {e : Env} {below : List Frame} {Φ : Outcome → State → Prop} {F G : State}
    (k : ∀ t, Steps p.tables e below G t → Steps p.tables e below F t) (h : own_Goes p e below Φ G) : own_Goes p e below Φ F := by
  obtain ⟨s₂, o, h1, h2⟩ := h
  exact ⟨s₂, o, k _ h1, h2⟩
/-- what a contract says of the end -/
def own_End (s : State) (Q : Option Value → Heap → List Loc → Prop) (k n : Nat) (o : Outcome) (U' : State) : Prop :=
  ∃ v L, o = .returned v ∧ Q v U'.heap L ∧ FrameEnd s o U' L k n
/-- a value is returned, the heap is as it was -/
def own_Same (w : Value) (h0 : Heap) (n0 : Nat) (v : Option Value) (h : Heap) (L : List Loc) : Prop := v = some w ∧ Fr n0 L ∧ h = h0
/-- nothing is returned, the heap is as it was -/
def own_SameV (h0 : Heap) (n0 : Nat) (v : Option Value) (h : Heap) (L : List Loc) : Prop := v = none ∧ Fr n0 L ∧ h = h0
section Own
variable {p : Program} {l : Launch} {e : Env} {R : Room} {s : State} {m : MethodId} {args : Array Value} {below : List Frame} {meth : Method} {c : Code} {T : State} {locs : List Loc} {cells slots : Nat}
theorem own_ret (X : Stand p l e R s m args below meth c T locs cells slots) (hx : p.tables.exec = Jvm.exec) {pc : Nat} {Ls : Array Slot} {w : Value} {t : FieldType} {i : Instr} {rest : List Value} (hret : meth.sig.returnType = some t) (hn : narrow t w = w)
    (hi : (i = .ireturn ∧ (t = .int ∨ t = .boolean ∨ t = .byte ∨ t = .char ∨ t = .short) ∧ ∃ z, w = .int z) ∨ (i = .lreturn ∧ t = .long ∧ ∃ z, w = .long z) ∨ (i = .dreturn ∧ t = .double ∧ ∃ z, w = .double z) ∨ (i = .freturn ∧ t = .float ∧ ∃ z, w = .float z) ∨ (i = .areturn ∧ t.isReference = true ∧ w.isRef = true))
    (hd : decode c.code pc = .ok (i, 1)) (hlk : meth.locks = false) {Q : Option Value → Heap → List Loc → Prop} {k n : Nat} (h1 : cells ≤ k) (h2 : slots ≤ n) (hQ : Q (some w) T.heap locs) :
    own_Goes p e below (own_End s Q k n) (T.setTop (mkF m pc Ls (w :: rest))) := by
  obtain ⟨fs, hr, hrun, hended, hW, hsame⟩ := X.leave (v := some w) (fun h => by rw [hret] at h; cases h) hlk
  exact ⟨_, _, retOut X hx hret hn hi hd hr, hrun, hended, _, _, rfl, hQ, ⟨_, rfl⟩, hW, hsame.mono h1 h2⟩
theorem own_retI (X : Stand p l e R s m args below meth c T locs cells slots) (hx : p.tables.exec = Jvm.exec) {pc : Nat} {Ls : Array Slot} {z : Int32} {rest : List Value} (hret : meth.sig.returnType = some .int)
    (hd : decode c.code pc = .ok (.ireturn, 1)) (hlk : meth.locks = false) {Q : Option Value → Heap → List Loc → Prop} {k n : Nat} (h1 : cells ≤ k) (h2 : slots ≤ n) (hQ : Q (some (.int z)) T.heap locs) :
    own_Goes p e below (own_End s Q k n) (T.setTop (mkF m pc Ls (.int z :: rest))) := own_ret X hx hret rfl (Or.inl ⟨rfl, Or.inl rfl, z, rfl⟩) hd hlk h1 h2 hQ
theorem own_retJ (X : Stand p l e R s m args below meth c T locs cells slots) (hx : p.tables.exec = Jvm.exec) {pc : Nat} {Ls : Array Slot} {z : Int64} {rest : List Value} (hret : meth.sig.returnType = some .long)
    (hd : decode c.code pc = .ok (.lreturn, 1)) (hlk : meth.locks = false) {Q : Option Value → Heap → List Loc → Prop} {k n : Nat} (h1 : cells ≤ k) (h2 : slots ≤ n) (hQ : Q (some (.long z)) T.heap locs) :
    own_Goes p e below (own_End s Q k n) (T.setTop (mkF m pc Ls (.long z :: rest))) := own_ret X hx hret rfl (Or.inr (Or.inl ⟨rfl, rfl, z, rfl⟩)) hd hlk h1 h2 hQ
theorem own_retB (X : Stand p l e R s m args below meth c T locs cells slots) (hx : p.tables.exec = Jvm.exec) {pc : Nat} {Ls : Array Slot} {z : Int32} {rest : List Value} (hret : meth.sig.returnType = some .boolean) (hz : z = 0 ∨ z = 1)
    (hd : decode c.code pc = .ok (.ireturn, 1)) (hlk : meth.locks = false) {Q : Option Value → Heap → List Loc → Prop} {k n : Nat} (h1 : cells ≤ k) (h2 : slots ≤ n) (hQ : Q (some (.int z)) T.heap locs) :
    own_Goes p e below (own_End s Q k n) (T.setTop (mkF m pc Ls (.int z :: rest))) := own_ret X hx hret (by rcases hz with rfl | rfl <;> rfl) (Or.inl ⟨rfl, Or.inr (Or.inl rfl), z, rfl⟩) hd hlk h1 h2 hQ
theorem own_ret1 (X : Stand p l e R s m args below meth c T locs cells slots) (hx : p.tables.exec = Jvm.exec) {pc : Nat} {Ls : Array Slot} {rest : List Value} (hret : meth.sig.returnType = some .boolean)
    (hd : decode c.code pc = .ok (.ireturn, 1)) (hlk : meth.locks = false) {Q : Option Value → Heap → List Loc → Prop} {k n : Nat} (h1 : cells ≤ k) (h2 : slots ≤ n) (hQ : Q (some (.int 1)) T.heap locs) :
    own_Goes p e below (own_End s Q k n) (T.setTop (mkF m pc Ls (.int 1 :: rest))) := own_retB X hx hret (Or.inr rfl) hd hlk h1 h2 hQ
theorem own_ret0 (X : Stand p l e R s m args below meth c T locs cells slots) (hx : p.tables.exec = Jvm.exec) {pc : Nat} {Ls : Array Slot} {rest : List Value} (hret : meth.sig.returnType = some .boolean)
    (hd : decode c.code pc = .ok (.ireturn, 1)) (hlk : meth.locks = false) {Q : Option Value → Heap → List Loc → Prop} {k n : Nat} (h1 : cells ≤ k) (h2 : slots ≤ n) (hQ : Q (some (.int 0)) T.heap locs) :
    own_Goes p e below (own_End s Q k n) (T.setTop (mkF m pc Ls (.int 0 :: rest))) := own_retB X hx hret (Or.inl rfl) hd hlk h1 h2 hQ
theorem own_retN (X : Stand p l e R s m args below meth c T locs cells slots) (hx : p.tables.exec = Jvm.exec) {pc : Nat} {Ls : Array Slot} {z : Int32} {t : FieldType} {rest : List Value} (hret : meth.sig.returnType = some t) (ht : t = .boolean ∨ t = .byte ∨ t = .char ∨ t = .short)
    (hd : decode c.code pc = .ok (.ireturn, 1)) (hlk : meth.locks = false) {Q : Option Value → Heap → List Loc → Prop} {k n : Nat} (h1 : cells ≤ k) (h2 : slots ≤ n) (hQ : Q (some (.int (nar t z))) T.heap locs) :
    own_Goes p e below (own_End s Q k n) (T.setTop (mkF m pc Ls (.int z :: rest))) := by
  obtain ⟨fs, hr, hrun, hended, hW, hsame⟩ := X.leave (v := some (.int (nar t z))) (fun h => by rw [hret] at h; cases h) hlk
  exact ⟨_, _, retN X hx hret ht hd hr, hrun, hended, _, _, rfl, hQ, ⟨_, rfl⟩, hW, hsame.mono h1 h2⟩
theorem own_retA (X : Stand p l e R s m args below meth c T locs cells slots) (hx : p.tables.exec = Jvm.exec) {pc : Nat} {Ls : Array Slot} {w : Value} {t : FieldType} {rest : List Value} (hret : meth.sig.returnType = some t) (ht : t.isReference = true) (hw : w.isRef = true)
    (hd : decode c.code pc = .ok (.areturn, 1)) (hlk : meth.locks = false) {Q : Option Value → Heap → List Loc → Prop} {k n : Nat} (h1 : cells ≤ k) (h2 : slots ≤ n) (hQ : Q (some w) T.heap locs) :
    own_Goes p e below (own_End s Q k n) (T.setTop (mkF m pc Ls (w :: rest))) := own_ret X hx hret (by cases t <;> first | rfl | cases ht) (Or.inr (Or.inr (Or.inr (Or.inr ⟨rfl, ht, hw⟩)))) hd hlk h1 h2 hQ
theorem own_retV (X : Stand p l e R s m args below meth c T locs cells slots) (hx : p.tables.exec = Jvm.exec) {pc : Nat} {Ls : Array Slot} (hret : meth.sig.returnType = none)
    (hd : decode c.code pc = .ok (.return_, 1)) (hlk : meth.locks = false) {Q : Option Value → Heap → List Loc → Prop} {k n : Nat} (h1 : cells ≤ k) (h2 : slots ≤ n) (hQ : Q none T.heap locs) :
    own_Goes p e below (own_End s Q k n) (T.setTop (mkF m pc Ls [])) := by
  obtain ⟨fs, hr, hrun, hended, hW, hsame⟩ := X.leave (v := none) (fun _ => rfl) hlk
  exact ⟨_, _, X.returnOut hx hret hd hr, hrun, hended, _, _, rfl, hQ, ⟨_, rfl⟩, hW, hsame.mono h1 h2⟩
end Own
/-- the law says true; nothing old is written -/
def own_True (n0 : Nat) (v : Option Value) (h : Heap) (L : List Loc) : Prop := v = some (.int 1) ∧ Fr n0 L
theorem own_i (x y : Int32) : (x = y ↔ x.toInt = y.toInt) ∧ (x < y ↔ x.toInt < y.toInt) ∧ (x ≤ y ↔ x.toInt ≤ y.toInt) := ⟨Int32.toInt_inj.symm, Int32.lt_iff_toInt_lt, Int32.le_iff_toInt_le⟩
theorem own_ie (x y : Int32) : x = y ↔ x.toInt = y.toInt := Int32.toInt_inj.symm
theorem own_le (x y : Int64) : x = y ↔ x.toInt = y.toInt := Int64.toInt_inj.symm
/-- an array of which the kind and the length alone are told -/
def own_A (Z : State) (h : Heap) (a : Addr) (ty : FieldType) (n : Int32) : Prop := ∃ c : Cell, Arr Z h a c ty ∧ c.slots.size = n.toNatClampNeg ∧ ¬ n < 0
section OwnA
variable {Z : State} {h h' : Heap} {a b : Addr} {ty : FieldType} {n : Int32} {sl : Nat} {v : Value} {ws : List Addr}
theorem own_A.lt (F : own_A Z h a ty n) : a < h.size := by obtain ⟨c, A, -⟩ := F; exact A.lt
theorem own_A.ext (F : own_A Z h a ty n) (E : Ext h h') : own_A Z h' a ty n := by obtain ⟨c, A, r⟩ := F; exact ⟨c, A.ext E, r⟩
theorem own_A.other (F : own_A Z h b ty n) (W : Wr h h' a sl v) (q : b ≠ a) : own_A Z h' b ty n := by obtain ⟨c, A, r⟩ := F; exact ⟨c, A.other W q, r⟩
theorem own_A.same (F : own_A Z h a ty n) (W : Wr h h' a sl v) : own_A Z h' a ty n := by
  obtain ⟨c, A, r1, r2⟩ := F
  exact ⟨_, A.same W, by rw [← r1]; simp [Cell.setSlot], r2⟩
theorem own_A.keep (F : own_A Z h a ty n) (K : Keep h h' ws) (q : a ∉ ws) : own_A Z h' a ty n := by obtain ⟨c, A, r⟩ := F; exact ⟨c, ⟨K.2.1 a c A.1 q, A.2⟩, r⟩
theorem own_A.of {k : ClassId} {vs : List Value} {d : Value} (F : Arv Z h a k ty n vs d) : own_A Z h a ty n := by obtain ⟨c, A, -, r1, r2, -⟩ := F; exact ⟨c, A, r1, r2⟩
end OwnA
theorem own_staKeep {Z : State} {h h' : Heap} {C n d : String} {v : Value} (F : Sta Z h C n d v) (K : Keep h h' []) : Sta Z h' C n d v := by
  obtain ⟨cf, i, k, f, st, cell, h1, h2, h3, h4, h5, r⟩ := F
  exact ⟨cf, i, k, f, st, cell, h1, h2, h3, h4, K.2.1 _ _ h5 nin0, r⟩
def own_B (x0 x1 x2 : Int32) : List Value := (.int x0) :: (.int x1) :: (.int x2) :: List.replicate 61 (.int (0 : Int32))
theorem own_selPriv {Z : State} {a0 : Array Value} {y w : MethodName} (h1 : (Cond.instanceMethod y).before a0 Z = true) (h2 : (Cond.privateMethod y).before a0 Z = true) (h3 : (Cond.selects y.cls w w).before a0 Z = true) (hw : w.cls = y.cls) (hy : y.cls ≠ "java/lang/invoke/MethodHandle" ∧ y.cls ≠ "java/lang/invoke/VarHandle") : (Cond.selects y.cls y y).before a0 Z = true := by
  obtain ⟨mk, methM, hnamed, hmethM, hstM, habM⟩ := Cond.instanceMethod_spec h1
  obtain ⟨c, r, m, q1, q2, q3, q4, kk, q5, q6⟩ := Cond.selects_spec h3
  have e1 := findClass_of_methodNamed hnamed
  have e2 := findClass_of_methodNamed q3
  rw [hw] at e2
  have e3 : m.cls = mk.cls := Option.some.inj (e2.symm.trans e1)
  have e4 := State.methodFound?_of_named hnamed hy
  have e5 : selectMethod {} Z.vm mk.cls mk = .method mk := selectMethod_private hmethM (Cond.privateMethod_at h2 mk methM hnamed hmethM)
  rw [e3] at q5
  simp [Cond.before, Cond.holds, Cond.value, e1, e4, hnamed, e5, q5, q6]
def own_N (Z : State) (h : Heap) (n0 : Nat) (t : Addr) (len x0 x1 x2 : Int32) (nb : Addr) : Prop := n0 ≤ t ∧ Exa Z h t "com/example/xrefloom/xrefloom/tree/CompactText" ∧ Fld Z h t "com/example/xrefloom/xrefloom/tree/CompactText" "length" "I" (.int len) ∧ ∃ (na wa : Addr) (kn kw kb : ClassId), n0 ≤ na ∧ n0 ≤ wa ∧ n0 ≤ nb ∧ t ≠ na ∧ t ≠ wa ∧ t ≠ nb ∧ na ≠ wa ∧ na ≠ nb ∧ wa ≠ nb ∧ Fld Z h t "com/example/xrefloom/xrefloom/tree/CompactText" "narrow" "[[B" (.ref na) ∧ Fld Z h t "com/example/xrefloom/xrefloom/tree/CompactText" "wide" "[[C" (.ref wa) ∧ OvrA Z kw .char "[C" ∧ Arv Z h na kn (.array .byte) (1 : Int32) [(.ref nb)] .null ∧ Arv Z h wa kw (.array .char) (1 : Int32) [.null] .null ∧ Arv Z h nb kb .byte (64 : Int32) (own_B x0 x1 x2) (.int (0 : Int32))
def own_W (Z : State) (h : Heap) (n0 : Nat) (t : Addr) (len x0 x1 x2 : Int32) (wc : Addr) : Prop := n0 ≤ t ∧ Exa Z h t "com/example/xrefloom/xrefloom/tree/CompactText" ∧ Fld Z h t "com/example/xrefloom/xrefloom/tree/CompactText" "length" "I" (.int len) ∧ ∃ (na wa : Addr) (kn kw kb : ClassId), n0 ≤ na ∧ n0 ≤ wa ∧ n0 ≤ wc ∧ t ≠ na ∧ t ≠ wa ∧ t ≠ wc ∧ na ≠ wa ∧ na ≠ wc ∧ wa ≠ wc ∧ Fld Z h t "com/example/xrefloom/xrefloom/tree/CompactText" "narrow" "[[B" (.ref na) ∧ Fld Z h t "com/example/xrefloom/xrefloom/tree/CompactText" "wide" "[[C" (.ref wa) ∧ OvrA Z kw .char "[C" ∧ Arv Z h na kn (.array .byte) (1 : Int32) [.null] .null ∧ Arv Z h wa kw (.array .char) (1 : Int32) [(.ref wc)] .null ∧ Arv Z h wc kb .char (64 : Int32) (own_B x0 x1 x2) (.int (0 : Int32))
def own_Q (P : Heap → Prop) (w : Option Value) (n0 : Nat) (v : Option Value) (h : Heap) (L : List Loc) : Prop := v = w ∧ Fr n0 L ∧ n0 ≤ h.size ∧ P h
def own_QR (P : Heap → Addr → Prop) (n0 : Nat) (v : Option Value) (h : Heap) (L : List Loc) : Prop := ∃ a : Addr, v = some (.ref a) ∧ Fr n0 L ∧ n0 ≤ h.size ∧ P h a
def own_QE (P : Heap → Addr → Prop) (w : Option Value) (n0 : Nat) (v : Option Value) (h : Heap) (L : List Loc) : Prop := v = w ∧ Fr n0 L ∧ n0 ≤ h.size ∧ ∃ a : Addr, P h a
theorem d1_0 : decode method_2_code 0 = .ok (.iload_n 0, 1) := by decide +kernel
theorem d1_1 : decode method_2_code 1 = .ok (.iload_n 1, 1) := by decide +kernel
theorem d1_2 : decode method_2_code 2 = .ok (.ifCond .eq 9, 3) := by decide +kernel
theorem d1_5 : decode method_2_code 5 = .ok (.sipush 255, 3) := by decide +kernel
theorem d1_8 : decode method_2_code 8 = .ok (.goto 5, 3) := by decide +kernel
theorem d1_11 : decode method_2_code 11 = .ok (.ldc 7, 2) := by decide +kernel
theorem d1_13 : decode method_2_code 13 = .ok (.iand, 1) := by decide +kernel
theorem d1_14 : decode method_2_code 14 = .ok (.i2c, 1) := by decide +kernel
theorem d1_15 : decode method_2_code 15 = .ok (.ireturn, 1) := by decide +kernel
theorem pn1 : plainName "com/example/xrefloom/xrefloom/tree/CompactTextCharAtPinLaw" = true := by first | (simp [plainName, overriddenIn]; done) | decide +kernel
theorem ef_rm1 (m : MethodId) (p0 : Int32) (p1 : Int32) : entryFrame m #[(.int p0), (.int p1)] 2 = mkF m 0 #[.val (.int p0), .val (.int p1)] [] := by first | (simp [entryFrame, mkF, argsToLocals, Value.category]; done) | rfl
def F1_13 (p0 : Int32) (p1 : Int32) (s0 : Int32) : Int32 := (nar .char ((p0 &&& s0).toUInt32.toUInt16.toUInt32.toInt32))
def F1 (p0 : Int32) (p1 : Int32) : Int32 := (if p1 = (0 : Int32) then (F1_13 p0 p1 (65535 : Int32)) else (F1_13 p0 p1 (255 : Int32)))
set_option maxRecDepth 65536 in
set_option maxHeartbeats 40000000 in
theorem rm1 (l : Launch) (Z : State) (a0 : Array Value) (hw : ∀ d ∈ tables_1, d.before a0 Z = true) (ws : List Jvm.Cond) (p0 : Int32) (p1 : Int32) (h0 : Heap) (n0 : Nat) (Z0 : n0 ≤ h0.size) :
    MetFree l (⟨"com/example/xrefloom/xrefloom/tree/CompactTextCharAtPinLaw", "draw", "(IZ)C"⟩ : MethodName) (head1 (Jvm.Cond.code (⟨"com/example/xrefloom/xrefloom/tree/CompactTextCharAtPinLaw", "draw", "(IZ)C"⟩ : MethodName) method_2_code 2 (some .char) :: ws) ({ frames := 0, cells := 0, slots := 0, locals := 0 } : Room)) (fun a U => a = #[(.int p0), (.int p1)] ∧ Z.Warmed39 U.vm ∧ U.heap = h0) (fun _ _ _ _ _ => True) (fun _ U o U' => ∃ v L, o = .returned v ∧ (own_Same (.int (F1 p0 p1)) h0 n0) v U'.heap L ∧ FrameEnd U o U' L 0 0) := by
  refine MetFree.of_bodySF (plainFor_of_name pn1) hisR ?_
  intro p e s m args below meth c s₁ Bd hml0 hP hK
  obtain ⟨rfl, hZ, hh⟩ := hP
  have hx := Bd.exec
  have hby := Bd.bytes
  have hml : c.maxLocals = 2 := hml0
  have hown : s.vm.findClass "com/example/xrefloom/xrefloom/tree/CompactTextCharAtPinLaw" = some m.cls := findClass_of_methodNamed Bd.named
  have hnm := (name_of_methodNamed Bd.named Bd.method).1
  have X0 : Stand p l e ({ frames := 0, cells := 0, slots := 0, locals := 0 } : Room) s m #[(.int p0), (.int p1)] below meth c s₁ [] 0 0 := Stand.of_body Bd
  have e0 : s₁.heap = h0 := by rw [← hh, Bd.state]; rfl
  have N0 := Fr.nil n0
  have j13 : ∀ (s0 : Int32) (T : State) (locs : List Loc) (X : Stand p l e ({ frames := 0, cells := 0, slots := 0, locals := 0 } : Room) s m #[(.int p0), (.int p1)] below meth c T locs 0 0) (eT : T.heap = h0) (N : Fr n0 locs), own_Goes p e below (own_End s (own_Same (.int (F1_13 p0 p1 s0)) h0 n0) 0 0) (T.setTop (mkF m 13 #[.val (.int p0), .val (.int p1)] [(.int s0), (.int p0)])) := by
    intro s0 T locs X eT N
    refine own_go (G := T.setTop (mkF m 14 #[.val (.int p0), .val (.int p1)] [(.int (p0 &&& s0))])) (fun _ k => XS.iand X.here hx rfl (hb hby d1_13) rfl k) ?_
    refine own_go (G := T.setTop (mkF m 15 #[.val (.int p0), .val (.int p1)] [(.int ((p0 &&& s0).toUInt32.toUInt16.toUInt32.toInt32))])) (fun _ k => XS.i2c X.here hx rfl (hb hby d1_14) rfl k) ?_
    exact own_retN X hx Bd.returns (by simp) (hb hby d1_15) Bd.notSynchronized (by decide) (by decide) ⟨rfl, N, eT⟩
  show own_Goes p e below (own_End s (own_Same (.int (F1 p0 p1)) h0 n0) 0 0) _
  refine own_go (G := s₁.setTop (mkF m 0 #[.val (.int p0), .val (.int p1)] [])) (fun t k => castTop (ef_rm1 m p0 p1) k) ?_
  refine own_go (G := s₁.setTop (mkF m 1 #[.val (.int p0), .val (.int p1)] [(.int p0)])) (fun _ k => XS.iloadN X0.here hx rfl (hb hby d1_0) rfl k) ?_
  refine own_go (G := s₁.setTop (mkF m 2 #[.val (.int p0), .val (.int p1)] [(.int p1), (.int p0)])) (fun _ k => XS.iloadN X0.here hx rfl (hb hby d1_1) rfl k) ?_
  show own_Goes p e below (own_End s (own_Same (.int (if p1 = (0 : Int32) then (F1_13 p0 p1 (65535 : Int32)) else (F1_13 p0 p1 (255 : Int32)))) h0 n0) 0 0) _
  by_cases hc2 : p1 = (0 : Int32)
  · rw [if_pos hc2]
    refine own_go (G := s₁.setTop (mkF m 11 #[.val (.int p0), .val (.int p1)] [(.int p0)])) (fun _ k => XS.ifYes X0.here hx rfl (pc0 := 2) (pc' := 11) rfl (hb hby d1_2) rfl ((if0 _ _).trans (teq hc2).1) (by decide) (by decide) k) ?_
    refine own_go (G := s₁.setTop (mkF m 13 #[.val (.int p0), .val (.int p1)] [(.int (65535 : Int32)), (.int p0)])) (X0.ldcInt hx hown (mvT hZ (hw _ (List.mem_of_getElem? (i := 4) rfl))) (g := (mkF m 11 #[.val (.int p0), .val (.int p1)] [(.int p0)])) rfl (hb hby d1_11)) ?_
    exact j13 (65535 : Int32) _ _ X0 e0 N0
  · rw [if_neg hc2]
    refine own_go (G := s₁.setTop (mkF m 5 #[.val (.int p0), .val (.int p1)] [(.int p0)])) (fun _ k => XS.ifNo X0.here hx rfl (hb hby d1_2) rfl ((if0 _ _).trans (feq hc2).1) k) ?_
    refine own_go (G := s₁.setTop (mkF m 8 #[.val (.int p0), .val (.int p1)] [(.int (255 : Int32)), (.int p0)])) (fun _ k => XS.sipush X0.here hx rfl (hb hby d1_5) k) ?_
    refine own_go (G := s₁.setTop (mkF m 13 #[.val (.int p0), .val (.int p1)] [(.int (255 : Int32)), (.int p0)])) (fun _ k => XS.goto X0.here hx rfl (pc0 := 8) (pc' := 13) rfl (hb hby d1_8) (by decide) (by decide) k) ?_
    exact j13 (255 : Int32) _ _ X0 e0 N0
theorem d2_0 : decode prog_30_method_1_code 0 = .ok (.aload_n 0, 1) := by decide +kernel
theorem d2_1 : decode prog_30_method_1_code 1 = .ok (.invokespecial 3, 3) := by decide +kernel
theorem d2_4 : decode prog_30_method_1_code 4 = .ok (.aload_n 0, 1) := by decide +kernel
theorem d2_5 : decode prog_30_method_1_code 5 = .ok (.iconst 1, 1) := by decide +kernel
theorem d2_6 : decode prog_30_method_1_code 6 = .ok (.anewarray 9, 3) := by decide +kernel
theorem d2_9 : decode prog_30_method_1_code 9 = .ok (.dup, 1) := by decide +kernel
theorem d2_10 : decode prog_30_method_1_code 10 = .ok (.iconst 0, 1) := by decide +kernel
theorem d2_11 : decode prog_30_method_1_code 11 = .ok (.bipush 64, 2) := by decide +kernel
theorem d2_13 : decode prog_30_method_1_code 13 = .ok (.newarray .byte, 2) := by decide +kernel
theorem d2_15 : decode prog_30_method_1_code 15 = .ok (.aastore, 1) := by decide +kernel
theorem d2_16 : decode prog_30_method_1_code 16 = .ok (.putfield 11, 3) := by decide +kernel
theorem d2_19 : decode prog_30_method_1_code 19 = .ok (.aload_n 0, 1) := by decide +kernel
theorem d2_20 : decode prog_30_method_1_code 20 = .ok (.iconst 1, 1) := by decide +kernel
theorem d2_21 : decode prog_30_method_1_code 21 = .ok (.anewarray 15, 3) := by decide +kernel
theorem d2_24 : decode prog_30_method_1_code 24 = .ok (.dup, 1) := by decide +kernel
theorem d2_25 : decode prog_30_method_1_code 25 = .ok (.iconst 0, 1) := by decide +kernel
theorem d2_26 : decode prog_30_method_1_code 26 = .ok (.aconst_null, 1) := by decide +kernel
theorem d2_27 : decode prog_30_method_1_code 27 = .ok (.aastore, 1) := by decide +kernel
theorem d2_28 : decode prog_30_method_1_code 28 = .ok (.putfield 17, 3) := by decide +kernel
theorem d2_31 : decode prog_30_method_1_code 31 = .ok (.return_, 1) := by decide +kernel
theorem pn2 : plainName "com/example/xrefloom/xrefloom/tree/CompactText" = true := by first | (simp [plainName, overriddenIn]; done) | decide +kernel
theorem ef_rm2 (m : MethodId) (r0 : Addr) : entryFrame m #[(.ref r0)] 1 = mkF m 0 #[.val (.ref r0)] [] := by first | (simp [entryFrame, mkF, argsToLocals, Value.category]; done) | rfl
set_option maxRecDepth 65536 in
set_option maxHeartbeats 40000000 in
theorem rm2 (l : Launch) (Z : State) (a0 : Array Value) (hw : ∀ d ∈ tables_1, d.before a0 Z = true) (ws : List Jvm.Cond) (r0 : Addr) (h0 : Heap) (n0 : Nat) (Z0 : n0 ≤ h0.size) (F_length_r0 : Fld Z h0 r0 "com/example/xrefloom/xrefloom/tree/CompactText" "length" "I" (.int (0 : Int32))) (F_narrow_r0 : Fld Z h0 r0 "com/example/xrefloom/xrefloom/tree/CompactText" "narrow" "[[B" .null) (F_wide_r0 : Fld Z h0 r0 "com/example/xrefloom/xrefloom/tree/CompactText" "wide" "[[C" .null) (E_r0 : Exa Z h0 r0 "com/example/xrefloom/xrefloom/tree/CompactText") (gn_r0 : n0 ≤ r0) :
    MetFree l (⟨"com/example/xrefloom/xrefloom/tree/CompactText", "<init>", "()V"⟩ : MethodName) (head1 (Jvm.Cond.code (⟨"com/example/xrefloom/xrefloom/tree/CompactText", "<init>", "()V"⟩ : MethodName) prog_30_method_1_code 1 none :: ws) ({ frames := 1, cells := 3, slots := 66, locals := 12 } : Room)) (fun a U => a = #[(.ref r0)] ∧ Z.Warmed39 U.vm ∧ U.heap = h0) (fun _ _ _ _ _ => True) (fun _ U o U' => ∃ v L, o = .returned v ∧ (own_QE (fun h a => own_N Z h n0 r0 (0 : Int32) (0 : Int32) (0 : Int32) (0 : Int32) a) none n0) v U'.heap L ∧ FrameEnd U o U' L 3 66) := by
  refine MetFree.of_bodySF (plainFor_of_name pn2) hisR ?_
  intro p e s m args below meth c s₁ Bd hml0 hP hK
  obtain ⟨rfl, hZ, hh⟩ := hP
  have hx := Bd.exec
  have hby := Bd.bytes
  have hml : c.maxLocals = 1 := hml0
  have hown : s.vm.findClass "com/example/xrefloom/xrefloom/tree/CompactText" = some m.cls := findClass_of_methodNamed Bd.named
  have hnm := (name_of_methodNamed Bd.named Bd.method).1
  have X0 : Stand p l e ({ frames := 1, cells := 3, slots := 66, locals := 12 } : Room) s m #[(.ref r0)] below meth c s₁ [] 0 0 := Stand.of_body Bd
  have e0 : s₁.heap = h0 := by rw [← hh, Bd.state]; rfl
  have N0 := Fr.nil n0
  show own_Goes p e below (own_End s (own_QE (fun h a => own_N Z h n0 r0 (0 : Int32) (0 : Int32) (0 : Int32) (0 : Int32) a) none n0) 3 66) _
  refine own_go (G := s₁.setTop (mkF m 0 #[.val (.ref r0)] [])) (fun t k => castTop (ef_rm2 m r0) k) ?_
  refine own_go (G := s₁.setTop (mkF m 1 #[.val (.ref r0)] [(.ref r0)])) (fun _ k => XS.aloadN X0.here hx rfl (hb hby d2_0) rfl rfl k) ?_
  obtain ⟨T1, X1, e1, st1⟩ := initO X0 hx hZ hown (hw _ (List.mem_of_getElem? (i := 11) rfl)) (hw _ (List.mem_of_getElem? (i := 12) rfl)) (hw _ (List.mem_of_getElem? (i := 13) rfl)) e0 (g := (mkF m 1 #[.val (.ref r0)] [(.ref r0)])) rfl (by rw [hml]; rfl) rfl (hb hby d2_1) (by decide) (W := 0) (by show 2 * 0 + _ ≤ _; exact Nat.le_of_eq rfl) (by decide)
  refine own_go (G := T1.setTop (mkF m 4 #[.val (.ref r0)] [])) (st1) ?_
  refine own_go (G := T1.setTop (mkF m 5 #[.val (.ref r0)] [(.ref r0)])) (fun _ k => XS.aloadN X1.here hx rfl (hb hby d2_4) rfl rfl k) ?_
  refine own_go (G := T1.setTop (mkF m 6 #[.val (.ref r0)] [(.int (1 : Int32)), (.ref r0)])) (fun _ k => XS.iconst X1.here hx rfl (hb hby d2_5) k) ?_
  obtain ⟨T2, h2, k2, X2, e2, E2, A2, Ea2, O2, st2⟩ := newRA X1 hx hZ hown (by decide : (FieldType.array .byte).toString = "[B") (hw _ (List.mem_of_getElem? (i := 14) rfl)) (hw _ (List.mem_of_getElem? (i := 15) rfl)) e1 (g := (mkF m 6 #[.val (.ref r0)] [(.int (1 : Int32)), (.ref r0)])) rfl (hb hby d2_6) rfl (by decide) (cap := 1) (by decide) (by decide) (by decide) (by decide) (by decide : "[" ++ "[B" = "[[B")
  obtain ⟨b2, g2⟩ : ∃ z, z = h0.size := ⟨_, rfl⟩
  rw [← g2] at A2 Ea2 st2
  have gn_b2 : n0 ≤ b2 := Nat.le_trans Z0 (Nat.le_of_eq g2.symm)
  have ne_r0_b2 : r0 ≠ b2 := Nat.ne_of_lt (Nat.lt_of_lt_of_le F_length_r0.lt (Nat.le_of_eq g2.symm))
  have F_length_r0_c2 : Fld Z h2 r0 "com/example/xrefloom/xrefloom/tree/CompactText" "length" "I" (.int (0 : Int32)) := F_length_r0.ext E2
  have F_narrow_r0_c2 : Fld Z h2 r0 "com/example/xrefloom/xrefloom/tree/CompactText" "narrow" "[[B" .null := F_narrow_r0.ext E2
  have F_wide_r0_c2 : Fld Z h2 r0 "com/example/xrefloom/xrefloom/tree/CompactText" "wide" "[[C" .null := F_wide_r0.ext E2
  have E_r0_c2 : Exa Z h2 r0 "com/example/xrefloom/xrefloom/tree/CompactText" := E_r0.ext E2
  have Z2 : n0 ≤ h2.size := Nat.le_trans Z0 E2.1
  have V_b2 : Arv Z h2 b2 k2 (.array .byte) (1 : Int32) [.null] .null := (Arv.new A2 (by decide)).pad (pad_rep [] .null 1)
  refine own_go (G := T2.setTop (mkF m 9 #[.val (.ref r0)] [(.ref b2), (.ref r0)])) (st2) ?_
  refine own_go (G := T2.setTop (mkF m 10 #[.val (.ref r0)] [(.ref b2), (.ref b2), (.ref r0)])) (fun _ k => XS.dup X2.here hx rfl (hb hby d2_9) rfl rfl k) ?_
  refine own_go (G := T2.setTop (mkF m 11 #[.val (.ref r0)] [(.int (0 : Int32)), (.ref b2), (.ref b2), (.ref r0)])) (fun _ k => XS.iconst X2.here hx rfl (hb hby d2_10) k) ?_
  refine own_go (G := T2.setTop (mkF m 13 #[.val (.ref r0)] [(.int (64 : Int32)), (.int (0 : Int32)), (.ref b2), (.ref b2), (.ref r0)])) (fun _ k => XS.bipush X2.here hx rfl (hb hby d2_11) k) ?_
  obtain ⟨T3, h3, k3, X3, e3, E3, A3, Ea3, st3⟩ := newPE X2 hx hZ (hw _ (List.mem_of_getElem? (i := 16) rfl)) e2 (g := (mkF m 13 #[.val (.ref r0)] [(.int (64 : Int32)), (.int (0 : Int32)), (.ref b2), (.ref b2), (.ref r0)])) rfl (hb hby d2_13) rfl (by decide) (cap := 64) (by decide) (by decide) (by decide) (by decide) (by decide : "[" ++ (newarray.typeOf .byte).toString = "[B")
  obtain ⟨b3, g3⟩ : ∃ z, z = h2.size := ⟨_, rfl⟩
  rw [← g3] at A3 Ea3 st3
  have gn_b3 : n0 ≤ b3 := Nat.le_trans Z2 (Nat.le_of_eq g3.symm)
  have ne_r0_b3 : r0 ≠ b3 := Nat.ne_of_lt (Nat.lt_of_lt_of_le F_length_r0_c2.lt (Nat.le_of_eq g3.symm))
  have ne_b2_b3 : b2 ≠ b3 := Nat.ne_of_lt (Nat.lt_of_lt_of_le V_b2.lt (Nat.le_of_eq g3.symm))
  have F_length_r0_c3 : Fld Z h3 r0 "com/example/xrefloom/xrefloom/tree/CompactText" "length" "I" (.int (0 : Int32)) := F_length_r0_c2.ext E3
  have F_narrow_r0_c3 : Fld Z h3 r0 "com/example/xrefloom/xrefloom/tree/CompactText" "narrow" "[[B" .null := F_narrow_r0_c2.ext E3
  have F_wide_r0_c3 : Fld Z h3 r0 "com/example/xrefloom/xrefloom/tree/CompactText" "wide" "[[C" .null := F_wide_r0_c2.ext E3
  have E_r0_c3 : Exa Z h3 r0 "com/example/xrefloom/xrefloom/tree/CompactText" := E_r0_c2.ext E3
  have V_b2_c3 : Arv Z h3 b2 k2 (.array .byte) (1 : Int32) [.null] .null := V_b2.ext E3
  have Z3 : n0 ≤ h3.size := Nat.le_trans Z2 E3.1
  have V_b3 : Arv Z h3 b3 k3 .byte (64 : Int32) (own_B (0 : Int32) (0 : Int32) (0 : Int32)) (.int (0 : Int32)) := (Arv.new A3 (by decide)).pad (pad_rep [] (.int (0 : Int32)) 64)
  refine own_go (G := T3.setTop (mkF m 15 #[.val (.ref r0)] [(.ref b3), (.int (0 : Int32)), (.ref b2), (.ref b2), (.ref r0)])) (st3) ?_
  obtain ⟨cl4, Ar4, qk4, S4, N4_, Ha4, G4⟩ := id V_b2_c3
  have hin4 : ¬ ((0 : Int32) < 0 ∨ cl4.slots.size ≤ ((0 : Int32)).toNatClampNeg) := inb_of S4 ⟨by decide, by decide⟩
  obtain ⟨T4, h4, X4, e4, W4, st4⟩ := stR X3 hx hZ e3 Ar4 (j := (0 : Int32)) hin4 rfl (Sto.ofVA Ar4 qk4 O2 (Ins.self Ea3)) (g := (mkF m 15 #[.val (.ref r0)] [(.ref b3), (.int (0 : Int32)), (.ref b2), (.ref b2), (.ref r0)])) rfl rfl (hb hby d2_15)
  have V4_b2 : Arv Z h4 b2 k2 (.array .byte) (1 : Int32) [(.ref b3)] .null := Arv.set Ar4 qk4 S4 N4_ Ha4 G4 rfl W4 0 rfl (Nat.le_of_ble_eq_true rfl)
  have F_length_r0_c4 : Fld Z h4 r0 "com/example/xrefloom/xrefloom/tree/CompactText" "length" "I" (.int (0 : Int32)) := F_length_r0_c3.other W4 (Or.inl ne_r0_b2)
  have F_narrow_r0_c4 : Fld Z h4 r0 "com/example/xrefloom/xrefloom/tree/CompactText" "narrow" "[[B" .null := F_narrow_r0_c3.other W4 (Or.inl ne_r0_b2)
  have F_wide_r0_c4 : Fld Z h4 r0 "com/example/xrefloom/xrefloom/tree/CompactText" "wide" "[[C" .null := F_wide_r0_c3.other W4 (Or.inl ne_r0_b2)
  have E_r0_c4 : Exa Z h4 r0 "com/example/xrefloom/xrefloom/tree/CompactText" := E_r0_c3.wr W4
  have V_b3_c4 : Arv Z h4 b3 k3 .byte (64 : Int32) (own_B (0 : Int32) (0 : Int32) (0 : Int32)) (.int (0 : Int32)) := V_b3.other W4 (Ne.symm ne_b2_b3)
  have Ea3_c4 : Exa Z h4 b3 "[B" := Ea3.wr W4
  have N4 := Fr.snoc X4 N0 gn_b2
  have Z4 : n0 ≤ h4.size := Nat.le_trans Z3 (Keep.of_wr W4).1
  refine own_go (G := T4.setTop (mkF m 16 #[.val (.ref r0)] [(.ref b2), (.ref r0)])) (st4) ?_
  obtain ⟨T5, h5, X5, e5, W5, st5⟩ := putF X4 hx hZ hown (host := "") (Or.inl (hw _ (List.mem_of_getElem? (i := 18) rfl))) Via.refl e4 F_narrow_r0_c4 E_r0_c4 (Or.inl (hw _ (List.mem_of_getElem? (i := 19) rfl))) (hw _ (List.mem_of_getElem? (i := 6) rfl)) (ty := (.array (.array .byte))) (by decide) rfl rfl (g := (mkF m 16 #[.val (.ref r0)] [(.ref b2), (.ref r0)])) rfl rfl (hb hby d2_16)
  have F_length_r0_c5 : Fld Z h5 r0 "com/example/xrefloom/xrefloom/tree/CompactText" "length" "I" (.int (0 : Int32)) := F_length_r0_c4.other W5 (Or.inr (slot_ne (Or.inl (hw _ (List.mem_of_getElem? (i := 30) rfl))) (Or.inl (hw _ (List.mem_of_getElem? (i := 19) rfl))) (by decide) (t := .int) (t' := (.array (.array .byte))) (by decide) (by decide)))
  have F_wide_r0_c5 : Fld Z h5 r0 "com/example/xrefloom/xrefloom/tree/CompactText" "wide" "[[C" .null := F_wide_r0_c4.other W5 (Or.inr (slot_ne (Or.inl (hw _ (List.mem_of_getElem? (i := 23) rfl))) (Or.inl (hw _ (List.mem_of_getElem? (i := 19) rfl))) (by decide) (t := (.array (.array .char))) (t' := (.array (.array .byte))) (by decide) (by decide)))
  have E_r0_c5 : Exa Z h5 r0 "com/example/xrefloom/xrefloom/tree/CompactText" := E_r0_c4.wr W5
  have V4_b2_c5 : Arv Z h5 b2 k2 (.array .byte) (1 : Int32) [(.ref b3)] .null := V4_b2.other W5 (Ne.symm ne_r0_b2)
  have V_b3_c5 : Arv Z h5 b3 k3 .byte (64 : Int32) (own_B (0 : Int32) (0 : Int32) (0 : Int32)) (.int (0 : Int32)) := V_b3_c4.other W5 (Ne.symm ne_r0_b3)
  have Ea3_c5 : Exa Z h5 b3 "[B" := Ea3_c4.wr W5
  have Fw5_narrow : Fld Z h5 r0 "com/example/xrefloom/xrefloom/tree/CompactText" "narrow" "[[B" (.ref b2) := F_narrow_r0_c4.same W5
  have N5 := Fr.snoc X5 N4 gn_r0
  have Z5 : n0 ≤ h5.size := Nat.le_trans Z4 (Keep.of_wr W5).1
  refine own_go (G := T5.setTop (mkF m 19 #[.val (.ref r0)] [])) (st5) ?_
  refine own_go (G := T5.setTop (mkF m 20 #[.val (.ref r0)] [(.ref r0)])) (fun _ k => XS.aloadN X5.here hx rfl (hb hby d2_19) rfl rfl k) ?_
  refine own_go (G := T5.setTop (mkF m 21 #[.val (.ref r0)] [(.int (1 : Int32)), (.ref r0)])) (fun _ k => XS.iconst X5.here hx rfl (hb hby d2_20) k) ?_
  obtain ⟨T6, h6, k6, X6, e6, E6, A6, Ea6, O6, st6⟩ := newRA X5 hx hZ hown (by decide : (FieldType.array .char).toString = "[C") (hw _ (List.mem_of_getElem? (i := 20) rfl)) (hw _ (List.mem_of_getElem? (i := 21) rfl)) e5 (g := (mkF m 21 #[.val (.ref r0)] [(.int (1 : Int32)), (.ref r0)])) rfl (hb hby d2_21) rfl (by decide) (cap := 1) (by decide) (by decide) (by decide) (by decide) (by decide : "[" ++ "[C" = "[[C")
  obtain ⟨b6, g6⟩ : ∃ z, z = h5.size := ⟨_, rfl⟩
  rw [← g6] at A6 Ea6 st6
  have gn_b6 : n0 ≤ b6 := Nat.le_trans Z5 (Nat.le_of_eq g6.symm)
  have ne_r0_b6 : r0 ≠ b6 := Nat.ne_of_lt (Nat.lt_of_lt_of_le F_length_r0_c5.lt (Nat.le_of_eq g6.symm))
  have ne_b2_b6 : b2 ≠ b6 := Nat.ne_of_lt (Nat.lt_of_lt_of_le V4_b2_c5.lt (Nat.le_of_eq g6.symm))
  have ne_b3_b6 : b3 ≠ b6 := Nat.ne_of_lt (Nat.lt_of_lt_of_le V_b3_c5.lt (Nat.le_of_eq g6.symm))
  have F_length_r0_c6 : Fld Z h6 r0 "com/example/xrefloom/xrefloom/tree/CompactText" "length" "I" (.int (0 : Int32)) := F_length_r0_c5.ext E6
  have Fw5_narrow_c6 : Fld Z h6 r0 "com/example/xrefloom/xrefloom/tree/CompactText" "narrow" "[[B" (.ref b2) := Fw5_narrow.ext E6
  have F_wide_r0_c6 : Fld Z h6 r0 "com/example/xrefloom/xrefloom/tree/CompactText" "wide" "[[C" .null := F_wide_r0_c5.ext E6
  have E_r0_c6 : Exa Z h6 r0 "com/example/xrefloom/xrefloom/tree/CompactText" := E_r0_c5.ext E6
  have V4_b2_c6 : Arv Z h6 b2 k2 (.array .byte) (1 : Int32) [(.ref b3)] .null := V4_b2_c5.ext E6
  have V_b3_c6 : Arv Z h6 b3 k3 .byte (64 : Int32) (own_B (0 : Int32) (0 : Int32) (0 : Int32)) (.int (0 : Int32)) := V_b3_c5.ext E6
  have Ea3_c6 : Exa Z h6 b3 "[B" := Ea3_c5.ext E6
  have Z6 : n0 ≤ h6.size := Nat.le_trans Z5 E6.1
  have V_b6 : Arv Z h6 b6 k6 (.array .char) (1 : Int32) [.null] .null := (Arv.new A6 (by decide)).pad (pad_rep [] .null 1)
  refine own_go (G := T6.setTop (mkF m 24 #[.val (.ref r0)] [(.ref b6), (.ref r0)])) (st6) ?_
  refine own_go (G := T6.setTop (mkF m 25 #[.val (.ref r0)] [(.ref b6), (.ref b6), (.ref r0)])) (fun _ k => XS.dup X6.here hx rfl (hb hby d2_24) rfl rfl k) ?_
  refine own_go (G := T6.setTop (mkF m 26 #[.val (.ref r0)] [(.int (0 : Int32)), (.ref b6), (.ref b6), (.ref r0)])) (fun _ k => XS.iconst X6.here hx rfl (hb hby d2_25) k) ?_
  refine own_go (G := T6.setTop (mkF m 27 #[.val (.ref r0)] [.null, (.int (0 : Int32)), (.ref b6), (.ref b6), (.ref r0)])) (fun _ k => XS.aconstNull X6.here hx rfl (hb hby d2_26) k) ?_
  obtain ⟨cl7, Ar7, qk7, S7, N7_, Ha7, G7⟩ := id V_b6
  have hin7 : ¬ ((0 : Int32) < 0 ∨ cl7.slots.size ≤ ((0 : Int32)).toNatClampNeg) := inb_of S7 ⟨by decide, by decide⟩
  obtain ⟨T7, h7, X7, e7, W7, st7⟩ := stR X6 hx hZ e6 Ar7 (j := (0 : Int32)) hin7 rfl (Or.inl rfl) (g := (mkF m 27 #[.val (.ref r0)] [.null, (.int (0 : Int32)), (.ref b6), (.ref b6), (.ref r0)])) rfl rfl (hb hby d2_27)
  have V7_b6 : Arv Z h7 b6 k6 (.array .char) (1 : Int32) [.null] .null := Arv.set Ar7 qk7 S7 N7_ Ha7 G7 rfl W7 0 rfl (Nat.le_of_ble_eq_true rfl)
  have F_length_r0_c7 : Fld Z h7 r0 "com/example/xrefloom/xrefloom/tree/CompactText" "length" "I" (.int (0 : Int32)) := F_length_r0_c6.other W7 (Or.inl ne_r0_b6)
  have Fw5_narrow_c7 : Fld Z h7 r0 "com/example/xrefloom/xrefloom/tree/CompactText" "narrow" "[[B" (.ref b2) := Fw5_narrow_c6.other W7 (Or.inl ne_r0_b6)
  have F_wide_r0_c7 : Fld Z h7 r0 "com/example/xrefloom/xrefloom/tree/CompactText" "wide" "[[C" .null := F_wide_r0_c6.other W7 (Or.inl ne_r0_b6)
  have E_r0_c7 : Exa Z h7 r0 "com/example/xrefloom/xrefloom/tree/CompactText" := E_r0_c6.wr W7
  have V4_b2_c7 : Arv Z h7 b2 k2 (.array .byte) (1 : Int32) [(.ref b3)] .null := V4_b2_c6.other W7 ne_b2_b6
  have V_b3_c7 : Arv Z h7 b3 k3 .byte (64 : Int32) (own_B (0 : Int32) (0 : Int32) (0 : Int32)) (.int (0 : Int32)) := V_b3_c6.other W7 ne_b3_b6
  have Ea3_c7 : Exa Z h7 b3 "[B" := Ea3_c6.wr W7
  have N7 := Fr.snoc X7 N5 gn_b6
  have Z7 : n0 ≤ h7.size := Nat.le_trans Z6 (Keep.of_wr W7).1
  refine own_go (G := T7.setTop (mkF m 28 #[.val (.ref r0)] [(.ref b6), (.ref r0)])) (st7) ?_
  obtain ⟨T8, h8, X8, e8, W8, st8⟩ := putF X7 hx hZ hown (host := "") (Or.inl (hw _ (List.mem_of_getElem? (i := 22) rfl))) Via.refl e7 F_wide_r0_c7 E_r0_c7 (Or.inl (hw _ (List.mem_of_getElem? (i := 23) rfl))) (hw _ (List.mem_of_getElem? (i := 6) rfl)) (ty := (.array (.array .char))) (by decide) rfl rfl (g := (mkF m 28 #[.val (.ref r0)] [(.ref b6), (.ref r0)])) rfl rfl (hb hby d2_28)
  have F_length_r0_c8 : Fld Z h8 r0 "com/example/xrefloom/xrefloom/tree/CompactText" "length" "I" (.int (0 : Int32)) := F_length_r0_c7.other W8 (Or.inr (slot_ne (Or.inl (hw _ (List.mem_of_getElem? (i := 30) rfl))) (Or.inl (hw _ (List.mem_of_getElem? (i := 23) rfl))) (by decide) (t := .int) (t' := (.array (.array .char))) (by decide) (by decide)))
  have Fw5_narrow_c8 : Fld Z h8 r0 "com/example/xrefloom/xrefloom/tree/CompactText" "narrow" "[[B" (.ref b2) := Fw5_narrow_c7.other W8 (Or.inr (slot_ne (Or.inl (hw _ (List.mem_of_getElem? (i := 19) rfl))) (Or.inl (hw _ (List.mem_of_getElem? (i := 23) rfl))) (by decide) (t := (.array (.array .byte))) (t' := (.array (.array .char))) (by decide) (by decide)))
  have E_r0_c8 : Exa Z h8 r0 "com/example/xrefloom/xrefloom/tree/CompactText" := E_r0_c7.wr W8
  have V4_b2_c8 : Arv Z h8 b2 k2 (.array .byte) (1 : Int32) [(.ref b3)] .null := V4_b2_c7.other W8 (Ne.symm ne_r0_b2)
  have V_b3_c8 : Arv Z h8 b3 k3 .byte (64 : Int32) (own_B (0 : Int32) (0 : Int32) (0 : Int32)) (.int (0 : Int32)) := V_b3_c7.other W8 (Ne.symm ne_r0_b3)
  have Ea3_c8 : Exa Z h8 b3 "[B" := Ea3_c7.wr W8
  have V7_b6_c8 : Arv Z h8 b6 k6 (.array .char) (1 : Int32) [.null] .null := V7_b6.other W8 (Ne.symm ne_r0_b6)
  have Fw8_wide : Fld Z h8 r0 "com/example/xrefloom/xrefloom/tree/CompactText" "wide" "[[C" (.ref b6) := F_wide_r0_c7.same W8
  have N8 := Fr.snoc X8 N7 gn_r0
  have Z8 : n0 ≤ h8.size := Nat.le_trans Z7 (Keep.of_wr W8).1
  refine own_go (G := T8.setTop (mkF m 31 #[.val (.ref r0)] [])) (st8) ?_
  exact own_retV X8 hx Bd.returns (hb hby d2_31) Bd.notSynchronized (by decide) (by decide) (by rw [e8]; exact ⟨rfl, N8, Z8, b3, ⟨gn_r0, E_r0_c8, F_length_r0_c8, b2, b6, k2, k6, k3, gn_b2, gn_b6, gn_b3, ne_r0_b2, ne_r0_b6, ne_r0_b3, ne_b2_b6, ne_b2_b3, (Ne.symm ne_b3_b6), Fw5_narrow_c8, Fw8_wide, O6, V4_b2_c8, V7_b6_c8, V_b3_c8⟩⟩)
theorem d5_0 : decode prog_30_method_9_code 0 = .ok (.iload_n 1, 1) := by decide +kernel
theorem d5_1 : decode prog_30_method_9_code 1 = .ok (.aload_n 0, 1) := by decide +kernel
theorem d5_2 : decode prog_30_method_9_code 2 = .ok (.getfield 11, 3) := by decide +kernel
theorem d5_5 : decode prog_30_method_9_code 5 = .ok (.arraylength, 1) := by decide +kernel
theorem d5_6 : decode prog_30_method_9_code 6 = .ok (.if_icmp .ne 37, 3) := by decide +kernel
theorem d5_43 : decode prog_30_method_9_code 43 = .ok (.aload_n 0, 1) := by decide +kernel
theorem d5_44 : decode prog_30_method_9_code 44 = .ok (.getfield 11, 3) := by decide +kernel
theorem d5_47 : decode prog_30_method_9_code 47 = .ok (.iload_n 1, 1) := by decide +kernel
theorem d5_48 : decode prog_30_method_9_code 48 = .ok (.aaload, 1) := by decide +kernel
theorem d5_49 : decode prog_30_method_9_code 49 = .ok (.ifnonnull 25, 3) := by decide +kernel
theorem d5_74 : decode prog_30_method_9_code 74 = .ok (.aload_n 0, 1) := by decide +kernel
theorem d5_75 : decode prog_30_method_9_code 75 = .ok (.getfield 11, 3) := by decide +kernel
theorem d5_78 : decode prog_30_method_9_code 78 = .ok (.iload_n 1, 1) := by decide +kernel
theorem d5_79 : decode prog_30_method_9_code 79 = .ok (.aaload, 1) := by decide +kernel
theorem d5_80 : decode prog_30_method_9_code 80 = .ok (.ifnull 35, 3) := by decide +kernel
theorem d5_83 : decode prog_30_method_9_code 83 = .ok (.iload_n 2, 1) := by decide +kernel
theorem d5_84 : decode prog_30_method_9_code 84 = .ok (.aload_n 0, 1) := by decide +kernel
theorem d5_85 : decode prog_30_method_9_code 85 = .ok (.getfield 11, 3) := by decide +kernel
theorem d5_88 : decode prog_30_method_9_code 88 = .ok (.iload_n 1, 1) := by decide +kernel
theorem d5_89 : decode prog_30_method_9_code 89 = .ok (.aaload, 1) := by decide +kernel
theorem d5_90 : decode prog_30_method_9_code 90 = .ok (.arraylength, 1) := by decide +kernel
theorem d5_91 : decode prog_30_method_9_code 91 = .ok (.if_icmp .ne 24, 3) := by decide +kernel
theorem d5_115 : decode prog_30_method_9_code 115 = .ok (.aload_n 0, 1) := by decide +kernel
theorem d5_116 : decode prog_30_method_9_code 116 = .ok (.getfield 17, 3) := by decide +kernel
theorem d5_119 : decode prog_30_method_9_code 119 = .ok (.iload_n 1, 1) := by decide +kernel
theorem d5_120 : decode prog_30_method_9_code 120 = .ok (.aaload, 1) := by decide +kernel
theorem d5_121 : decode prog_30_method_9_code 121 = .ok (.ifnull 32, 3) := by decide +kernel
theorem d5_153 : decode prog_30_method_9_code 153 = .ok (.return_, 1) := by decide +kernel
theorem pn5 : plainName "com/example/xrefloom/xrefloom/tree/CompactText" = true := by first | (simp [plainName, overriddenIn]; done) | decide +kernel
theorem ef_mrN0 (m : MethodId) (r0 : Addr) : entryFrame m #[(.ref r0), (.int (0 : Int32)), (.int (0 : Int32))] 3 = mkF m 0 #[.val (.ref r0), .val (.int (0 : Int32)), .val (.int (0 : Int32))] [] := by first | (simp [entryFrame, mkF, argsToLocals, Value.category]; done) | rfl
set_option maxRecDepth 65536 in
set_option maxHeartbeats 40000000 in
theorem mrN0 (l : Launch) (Z : State) (a0 : Array Value) (hw : ∀ d ∈ tables_1, d.before a0 Z = true) (ws : List Jvm.Cond) (r0 : Addr) (x0 : Int32) (x1 : Int32) (x2 : Int32) (nb : Addr) (h0 : Heap) (n0 : Nat) (Z0 : n0 ≤ h0.size) (G : own_N Z h0 n0 r0 (0 : Int32) x0 x1 x2 nb) :
    MetFree l (⟨"com/example/xrefloom/xrefloom/tree/CompactText", "makeRoom", "(II)V"⟩ : MethodName) (head1 (Jvm.Cond.code (⟨"com/example/xrefloom/xrefloom/tree/CompactText", "makeRoom", "(II)V"⟩ : MethodName) prog_30_method_9_code 3 none :: ws) ({ frames := 0, cells := 0, slots := 0, locals := 0 } : Room)) (fun a U => a = #[(.ref r0), (.int (0 : Int32)), (.int (0 : Int32))] ∧ Z.Warmed39 U.vm ∧ U.heap = h0) (fun _ _ _ _ _ => True) (fun _ U o U' => ∃ v L, o = .returned v ∧ (own_SameV h0 n0) v U'.heap L ∧ FrameEnd U o U' L 0 0) := by
  refine MetFree.of_bodySF (plainFor_of_name pn5) hisR ?_
  intro p e s m args below meth c s₁ Bd hml0 hP hK
  obtain ⟨rfl, hZ, hh⟩ := hP
  have hx := Bd.exec
  have hby := Bd.bytes
  have hml : c.maxLocals = 3 := hml0
  have hown : s.vm.findClass "com/example/xrefloom/xrefloom/tree/CompactText" = some m.cls := findClass_of_methodNamed Bd.named
  have hnm := (name_of_methodNamed Bd.named Bd.method).1
  have X0 : Stand p l e ({ frames := 0, cells := 0, slots := 0, locals := 0 } : Room) s m #[(.ref r0), (.int (0 : Int32)), (.int (0 : Int32))] below meth c s₁ [] 0 0 := Stand.of_body Bd
  have e0 : s₁.heap = h0 := by rw [← hh, Bd.state]; rfl
  have N0 := Fr.nil n0
  obtain ⟨gn_r0, E_r0, F_length, na, wa, kn, kw, kb, gn_na, gn_wa, gn_nb, ne_r0_na, ne_r0_wa, ne_r0_nb, ne_na_wa, ne_na_nb, ne_wa_nb, F_narrow, F_wide, Ov, V_na, V_wa, V_nb⟩ := G
  show own_Goes p e below (own_End s (own_SameV h0 n0) 0 0) _
  refine own_go (G := s₁.setTop (mkF m 0 #[.val (.ref r0), .val (.int (0 : Int32)), .val (.int (0 : Int32))] [])) (fun t k => castTop (ef_mrN0 m r0) k) ?_
  refine own_go (G := s₁.setTop (mkF m 1 #[.val (.ref r0), .val (.int (0 : Int32)), .val (.int (0 : Int32))] [(.int (0 : Int32))])) (fun _ k => XS.iloadN X0.here hx rfl (hb hby d5_0) rfl k) ?_
  refine own_go (G := s₁.setTop (mkF m 2 #[.val (.ref r0), .val (.int (0 : Int32)), .val (.int (0 : Int32))] [(.ref r0), (.int (0 : Int32))])) (fun _ k => XS.aloadN X0.here hx rfl (hb hby d5_1) rfl rfl k) ?_
  obtain ⟨T1, X1, e1, st1⟩ := getF X0 hx hZ hown (host := "") (Or.inl (hw _ (List.mem_of_getElem? (i := 18) rfl))) Via.refl e0 F_narrow (g := (mkF m 2 #[.val (.ref r0), .val (.int (0 : Int32)), .val (.int (0 : Int32))] [(.ref r0), (.int (0 : Int32))])) rfl rfl (hb hby d5_2)
  refine own_go (G := T1.setTop (mkF m 5 #[.val (.ref r0), .val (.int (0 : Int32)), .val (.int (0 : Int32))] [(.ref na), (.int (0 : Int32))])) (st1) ?_
  obtain ⟨cl2, Ar2, -, S2, N2_, -, -⟩ := id V_na
  refine own_go (G := T1.setTop (mkF m 6 #[.val (.ref r0), .val (.int (0 : Int32)), .val (.int (0 : Int32))] [(.int (1 : Int32)), (.int (0 : Int32))])) (fun t k => X1.arraylength hx (by rw [e1]; exact Ar2.1) (State.isArrayOf_alike hZ.alike Ar2.2.1) (g := (mkF m 5 #[.val (.ref r0), .val (.int (0 : Int32)), .val (.int (0 : Int32))] [(.ref na), (.int (0 : Int32))])) rfl rfl (hb hby d5_5) t (by rw [len_of S2 N2_]; exact k)) ?_
  refine own_go (G := T1.setTop (mkF m 43 #[.val (.ref r0), .val (.int (0 : Int32)), .val (.int (0 : Int32))] [])) (fun _ k => XS.icmpYes X1.here hx rfl (pc0 := 6) (pc' := 43) rfl (hb hby d5_6) rfl (feq (by decide : ¬ ((0 : Int32) = (1 : Int32)))).2 (by decide) (by decide) k) ?_
  refine own_go (G := T1.setTop (mkF m 44 #[.val (.ref r0), .val (.int (0 : Int32)), .val (.int (0 : Int32))] [(.ref r0)])) (fun _ k => XS.aloadN X1.here hx rfl (hb hby d5_43) rfl rfl k) ?_
  obtain ⟨T3, X3, e3, st3⟩ := getF X1 hx hZ hown (host := "") (Or.inl (hw _ (List.mem_of_getElem? (i := 18) rfl))) Via.refl e1 F_narrow (g := (mkF m 44 #[.val (.ref r0), .val (.int (0 : Int32)), .val (.int (0 : Int32))] [(.ref r0)])) rfl rfl (hb hby d5_44)
  refine own_go (G := T3.setTop (mkF m 47 #[.val (.ref r0), .val (.int (0 : Int32)), .val (.int (0 : Int32))] [(.ref na)])) (st3) ?_
  refine own_go (G := T3.setTop (mkF m 48 #[.val (.ref r0), .val (.int (0 : Int32)), .val (.int (0 : Int32))] [(.int (0 : Int32)), (.ref na)])) (fun _ k => XS.iloadN X3.here hx rfl (hb hby d5_47) rfl k) ?_
  obtain ⟨cl4, Ar4, qk4, S4, N4_, Ha4, G4⟩ := id V_na
  have hin4 : ¬ ((0 : Int32) < 0 ∨ cl4.slots.size ≤ ((0 : Int32)).toNatClampNeg) := inb_of S4 ⟨by decide, by decide⟩
  have hat4 : cl4.slots[((0 : Int32)).toNatClampNeg]? = some (.ref nb) := Ha4.at hin4 rfl
  refine own_go (G := T3.setTop (mkF m 49 #[.val (.ref r0), .val (.int (0 : Int32)), .val (.int (0 : Int32))] [(.ref nb)])) (X3.aaload hx (j := (0 : Int32)) (v := (.ref nb)) (by rw [e3]; exact Ar4.1) (State.isArrayOf_alike hZ.alike Ar4.2.1) rfl Ar4.2.2 hin4 hat4 (g := (mkF m 48 #[.val (.ref r0), .val (.int (0 : Int32)), .val (.int (0 : Int32))] [(.int (0 : Int32)), (.ref na)])) rfl rfl (hb hby d5_48)) ?_
  refine own_go (G := T3.setTop (mkF m 74 #[.val (.ref r0), .val (.int (0 : Int32)), .val (.int (0 : Int32))] [])) (fun _ k => XS.ifnonnullYes X3.here hx rfl (pc0 := 49) (pc' := 74) rfl (hb hby d5_49) rfl (by decide) (by decide) k) ?_
  refine own_go (G := T3.setTop (mkF m 75 #[.val (.ref r0), .val (.int (0 : Int32)), .val (.int (0 : Int32))] [(.ref r0)])) (fun _ k => XS.aloadN X3.here hx rfl (hb hby d5_74) rfl rfl k) ?_
  obtain ⟨T5, X5, e5, st5⟩ := getF X3 hx hZ hown (host := "") (Or.inl (hw _ (List.mem_of_getElem? (i := 18) rfl))) Via.refl e3 F_narrow (g := (mkF m 75 #[.val (.ref r0), .val (.int (0 : Int32)), .val (.int (0 : Int32))] [(.ref r0)])) rfl rfl (hb hby d5_75)
  refine own_go (G := T5.setTop (mkF m 78 #[.val (.ref r0), .val (.int (0 : Int32)), .val (.int (0 : Int32))] [(.ref na)])) (st5) ?_
  refine own_go (G := T5.setTop (mkF m 79 #[.val (.ref r0), .val (.int (0 : Int32)), .val (.int (0 : Int32))] [(.int (0 : Int32)), (.ref na)])) (fun _ k => XS.iloadN X5.here hx rfl (hb hby d5_78) rfl k) ?_
  obtain ⟨cl6, Ar6, qk6, S6, N6_, Ha6, G6⟩ := id V_na
  have hin6 : ¬ ((0 : Int32) < 0 ∨ cl6.slots.size ≤ ((0 : Int32)).toNatClampNeg) := inb_of S6 ⟨by decide, by decide⟩
  have hat6 : cl6.slots[((0 : Int32)).toNatClampNeg]? = some (.ref nb) := Ha6.at hin6 rfl
  refine own_go (G := T5.setTop (mkF m 80 #[.val (.ref r0), .val (.int (0 : Int32)), .val (.int (0 : Int32))] [(.ref nb)])) (X5.aaload hx (j := (0 : Int32)) (v := (.ref nb)) (by rw [e5]; exact Ar6.1) (State.isArrayOf_alike hZ.alike Ar6.2.1) rfl Ar6.2.2 hin6 hat6 (g := (mkF m 79 #[.val (.ref r0), .val (.int (0 : Int32)), .val (.int (0 : Int32))] [(.int (0 : Int32)), (.ref na)])) rfl rfl (hb hby d5_79)) ?_
  refine own_go (G := T5.setTop (mkF m 83 #[.val (.ref r0), .val (.int (0 : Int32)), .val (.int (0 : Int32))] [])) (fun _ k => XS.ifnullNo X5.here hx rfl (hb hby d5_80) rfl k) ?_
  refine own_go (G := T5.setTop (mkF m 84 #[.val (.ref r0), .val (.int (0 : Int32)), .val (.int (0 : Int32))] [(.int (0 : Int32))])) (fun _ k => XS.iloadN X5.here hx rfl (hb hby d5_83) rfl k) ?_
  refine own_go (G := T5.setTop (mkF m 85 #[.val (.ref r0), .val (.int (0 : Int32)), .val (.int (0 : Int32))] [(.ref r0), (.int (0 : Int32))])) (fun _ k => XS.aloadN X5.here hx rfl (hb hby d5_84) rfl rfl k) ?_
  obtain ⟨T7, X7, e7, st7⟩ := getF X5 hx hZ hown (host := "") (Or.inl (hw _ (List.mem_of_getElem? (i := 18) rfl))) Via.refl e5 F_narrow (g := (mkF m 85 #[.val (.ref r0), .val (.int (0 : Int32)), .val (.int (0 : Int32))] [(.ref r0), (.int (0 : Int32))])) rfl rfl (hb hby d5_85)
  refine own_go (G := T7.setTop (mkF m 88 #[.val (.ref r0), .val (.int (0 : Int32)), .val (.int (0 : Int32))] [(.ref na), (.int (0 : Int32))])) (st7) ?_
  refine own_go (G := T7.setTop (mkF m 89 #[.val (.ref r0), .val (.int (0 : Int32)), .val (.int (0 : Int32))] [(.int (0 : Int32)), (.ref na), (.int (0 : Int32))])) (fun _ k => XS.iloadN X7.here hx rfl (hb hby d5_88) rfl k) ?_
  obtain ⟨cl8, Ar8, qk8, S8, N8_, Ha8, G8⟩ := id V_na
  have hin8 : ¬ ((0 : Int32) < 0 ∨ cl8.slots.size ≤ ((0 : Int32)).toNatClampNeg) := inb_of S8 ⟨by decide, by decide⟩
  have hat8 : cl8.slots[((0 : Int32)).toNatClampNeg]? = some (.ref nb) := Ha8.at hin8 rfl
  refine own_go (G := T7.setTop (mkF m 90 #[.val (.ref r0), .val (.int (0 : Int32)), .val (.int (0 : Int32))] [(.ref nb), (.int (0 : Int32))])) (X7.aaload hx (j := (0 : Int32)) (v := (.ref nb)) (by rw [e7]; exact Ar8.1) (State.isArrayOf_alike hZ.alike Ar8.2.1) rfl Ar8.2.2 hin8 hat8 (g := (mkF m 89 #[.val (.ref r0), .val (.int (0 : Int32)), .val (.int (0 : Int32))] [(.int (0 : Int32)), (.ref na), (.int (0 : Int32))])) rfl rfl (hb hby d5_89)) ?_
  obtain ⟨cl9, Ar9, -, S9, N9_, -, -⟩ := id V_nb
  refine own_go (G := T7.setTop (mkF m 91 #[.val (.ref r0), .val (.int (0 : Int32)), .val (.int (0 : Int32))] [(.int (64 : Int32)), (.int (0 : Int32))])) (fun t k => X7.arraylength hx (by rw [e7]; exact Ar9.1) (State.isArrayOf_alike hZ.alike Ar9.2.1) (g := (mkF m 90 #[.val (.ref r0), .val (.int (0 : Int32)), .val (.int (0 : Int32))] [(.ref nb), (.int (0 : Int32))])) rfl rfl (hb hby d5_90) t (by rw [len_of S9 N9_]; exact k)) ?_
  refine own_go (G := T7.setTop (mkF m 115 #[.val (.ref r0), .val (.int (0 : Int32)), .val (.int (0 : Int32))] [])) (fun _ k => XS.icmpYes X7.here hx rfl (pc0 := 91) (pc' := 115) rfl (hb hby d5_91) rfl (feq (by decide : ¬ ((0 : Int32) = (64 : Int32)))).2 (by decide) (by decide) k) ?_
  refine own_go (G := T7.setTop (mkF m 116 #[.val (.ref r0), .val (.int (0 : Int32)), .val (.int (0 : Int32))] [(.ref r0)])) (fun _ k => XS.aloadN X7.here hx rfl (hb hby d5_115) rfl rfl k) ?_
  obtain ⟨T10, X10, e10, st10⟩ := getF X7 hx hZ hown (host := "") (Or.inl (hw _ (List.mem_of_getElem? (i := 22) rfl))) Via.refl e7 F_wide (g := (mkF m 116 #[.val (.ref r0), .val (.int (0 : Int32)), .val (.int (0 : Int32))] [(.ref r0)])) rfl rfl (hb hby d5_116)
  refine own_go (G := T10.setTop (mkF m 119 #[.val (.ref r0), .val (.int (0 : Int32)), .val (.int (0 : Int32))] [(.ref wa)])) (st10) ?_
  refine own_go (G := T10.setTop (mkF m 120 #[.val (.ref r0), .val (.int (0 : Int32)), .val (.int (0 : Int32))] [(.int (0 : Int32)), (.ref wa)])) (fun _ k => XS.iloadN X10.here hx rfl (hb hby d5_119) rfl k) ?_
  obtain ⟨cl11, Ar11, qk11, S11, N11_, Ha11, G11⟩ := id V_wa
  have hin11 : ¬ ((0 : Int32) < 0 ∨ cl11.slots.size ≤ ((0 : Int32)).toNatClampNeg) := inb_of S11 ⟨by decide, by decide⟩
  have hat11 : cl11.slots[((0 : Int32)).toNatClampNeg]? = some .null := Ha11.at hin11 rfl
  refine own_go (G := T10.setTop (mkF m 121 #[.val (.ref r0), .val (.int (0 : Int32)), .val (.int (0 : Int32))] [.null])) (X10.aaload hx (j := (0 : Int32)) (v := .null) (by rw [e10]; exact Ar11.1) (State.isArrayOf_alike hZ.alike Ar11.2.1) rfl Ar11.2.2 hin11 hat11 (g := (mkF m 120 #[.val (.ref r0), .val (.int (0 : Int32)), .val (.int (0 : Int32))] [(.int (0 : Int32)), (.ref wa)])) rfl rfl (hb hby d5_120)) ?_
  refine own_go (G := T10.setTop (mkF m 153 #[.val (.ref r0), .val (.int (0 : Int32)), .val (.int (0 : Int32))] [])) (fun _ k => XS.ifnullYes X10.here hx rfl (pc0 := 121) (pc' := 153) rfl (hb hby d5_121) rfl (by decide) (by decide) k) ?_
  exact own_retV X10 hx Bd.returns (hb hby d5_153) Bd.notSynchronized (by decide) (by decide) ⟨rfl, N0, e10⟩
theorem ef_mrN1 (m : MethodId) (r0 : Addr) : entryFrame m #[(.ref r0), (.int (0 : Int32)), (.int (1 : Int32))] 3 = mkF m 0 #[.val (.ref r0), .val (.int (0 : Int32)), .val (.int (1 : Int32))] [] := by first | (simp [entryFrame, mkF, argsToLocals, Value.category]; done) | rfl
set_option maxRecDepth 65536 in
set_option maxHeartbeats 40000000 in
theorem mrN1 (l : Launch) (Z : State) (a0 : Array Value) (hw : ∀ d ∈ tables_1, d.before a0 Z = true) (ws : List Jvm.Cond) (r0 : Addr) (x0 : Int32) (x1 : Int32) (x2 : Int32) (nb : Addr) (h0 : Heap) (n0 : Nat) (Z0 : n0 ≤ h0.size) (G : own_N Z h0 n0 r0 (1 : Int32) x0 x1 x2 nb) :
    MetFree l (⟨"com/example/xrefloom/xrefloom/tree/CompactText", "makeRoom", "(II)V"⟩ : MethodName) (head1 (Jvm.Cond.code (⟨"com/example/xrefloom/xrefloom/tree/CompactText", "makeRoom", "(II)V"⟩ : MethodName) prog_30_method_9_code 3 none :: ws) ({ frames := 0, cells := 0, slots := 0, locals := 0 } : Room)) (fun a U => a = #[(.ref r0), (.int (0 : Int32)), (.int (1 : Int32))] ∧ Z.Warmed39 U.vm ∧ U.heap = h0) (fun _ _ _ _ _ => True) (fun _ U o U' => ∃ v L, o = .returned v ∧ (own_SameV h0 n0) v U'.heap L ∧ FrameEnd U o U' L 0 0) := by
  refine MetFree.of_bodySF (plainFor_of_name pn5) hisR ?_
  intro p e s m args below meth c s₁ Bd hml0 hP hK
  obtain ⟨rfl, hZ, hh⟩ := hP
  have hx := Bd.exec
  have hby := Bd.bytes
  have hml : c.maxLocals = 3 := hml0
  have hown : s.vm.findClass "com/example/xrefloom/xrefloom/tree/CompactText" = some m.cls := findClass_of_methodNamed Bd.named
  have hnm := (name_of_methodNamed Bd.named Bd.method).1
  have X0 : Stand p l e ({ frames := 0, cells := 0, slots := 0, locals := 0 } : Room) s m #[(.ref r0), (.int (0 : Int32)), (.int (1 : Int32))] below meth c s₁ [] 0 0 := Stand.of_body Bd
  have e0 : s₁.heap = h0 := by rw [← hh, Bd.state]; rfl
  have N0 := Fr.nil n0
  obtain ⟨gn_r0, E_r0, F_length, na, wa, kn, kw, kb, gn_na, gn_wa, gn_nb, ne_r0_na, ne_r0_wa, ne_r0_nb, ne_na_wa, ne_na_nb, ne_wa_nb, F_narrow, F_wide, Ov, V_na, V_wa, V_nb⟩ := G
  show own_Goes p e below (own_End s (own_SameV h0 n0) 0 0) _
  refine own_go (G := s₁.setTop (mkF m 0 #[.val (.ref r0), .val (.int (0 : Int32)), .val (.int (1 : Int32))] [])) (fun t k => castTop (ef_mrN1 m r0) k) ?_
  refine own_go (G := s₁.setTop (mkF m 1 #[.val (.ref r0), .val (.int (0 : Int32)), .val (.int (1 : Int32))] [(.int (0 : Int32))])) (fun _ k => XS.iloadN X0.here hx rfl (hb hby d5_0) rfl k) ?_
  refine own_go (G := s₁.setTop (mkF m 2 #[.val (.ref r0), .val (.int (0 : Int32)), .val (.int (1 : Int32))] [(.ref r0), (.int (0 : Int32))])) (fun _ k => XS.aloadN X0.here hx rfl (hb hby d5_1) rfl rfl k) ?_
  obtain ⟨T1, X1, e1, st1⟩ := getF X0 hx hZ hown (host := "") (Or.inl (hw _ (List.mem_of_getElem? (i := 18) rfl))) Via.refl e0 F_narrow (g := (mkF m 2 #[.val (.ref r0), .val (.int (0 : Int32)), .val (.int (1 : Int32))] [(.ref r0), (.int (0 : Int32))])) rfl rfl (hb hby d5_2)
  refine own_go (G := T1.setTop (mkF m 5 #[.val (.ref r0), .val (.int (0 : Int32)), .val (.int (1 : Int32))] [(.ref na), (.int (0 : Int32))])) (st1) ?_
  obtain ⟨cl2, Ar2, -, S2, N2_, -, -⟩ := id V_na
  refine own_go (G := T1.setTop (mkF m 6 #[.val (.ref r0), .val (.int (0 : Int32)), .val (.int (1 : Int32))] [(.int (1 : Int32)), (.int (0 : Int32))])) (fun t k => X1.arraylength hx (by rw [e1]; exact Ar2.1) (State.isArrayOf_alike hZ.alike Ar2.2.1) (g := (mkF m 5 #[.val (.ref r0), .val (.int (0 : Int32)), .val (.int (1 : Int32))] [(.ref na), (.int (0 : Int32))])) rfl rfl (hb hby d5_5) t (by rw [len_of S2 N2_]; exact k)) ?_
  refine own_go (G := T1.setTop (mkF m 43 #[.val (.ref r0), .val (.int (0 : Int32)), .val (.int (1 : Int32))] [])) (fun _ k => XS.icmpYes X1.here hx rfl (pc0 := 6) (pc' := 43) rfl (hb hby d5_6) rfl (feq (by decide : ¬ ((0 : Int32) = (1 : Int32)))).2 (by decide) (by decide) k) ?_
  refine own_go (G := T1.setTop (mkF m 44 #[.val (.ref r0), .val (.int (0 : Int32)), .val (.int (1 : Int32))] [(.ref r0)])) (fun _ k => XS.aloadN X1.here hx rfl (hb hby d5_43) rfl rfl k) ?_
  obtain ⟨T3, X3, e3, st3⟩ := getF X1 hx hZ hown (host := "") (Or.inl (hw _ (List.mem_of_getElem? (i := 18) rfl))) Via.refl e1 F_narrow (g := (mkF m 44 #[.val (.ref r0), .val (.int (0 : Int32)), .val (.int (1 : Int32))] [(.ref r0)])) rfl rfl (hb hby d5_44)
  refine own_go (G := T3.setTop (mkF m 47 #[.val (.ref r0), .val (.int (0 : Int32)), .val (.int (1 : Int32))] [(.ref na)])) (st3) ?_
  refine own_go (G := T3.setTop (mkF m 48 #[.val (.ref r0), .val (.int (0 : Int32)), .val (.int (1 : Int32))] [(.int (0 : Int32)), (.ref na)])) (fun _ k => XS.iloadN X3.here hx rfl (hb hby d5_47) rfl k) ?_
  obtain ⟨cl4, Ar4, qk4, S4, N4_, Ha4, G4⟩ := id V_na
  have hin4 : ¬ ((0 : Int32) < 0 ∨ cl4.slots.size ≤ ((0 : Int32)).toNatClampNeg) := inb_of S4 ⟨by decide, by decide⟩
  have hat4 : cl4.slots[((0 : Int32)).toNatClampNeg]? = some (.ref nb) := Ha4.at hin4 rfl
  refine own_go (G := T3.setTop (mkF m 49 #[.val (.ref r0), .val (.int (0 : Int32)), .val (.int (1 : Int32))] [(.ref nb)])) (X3.aaload hx (j := (0 : Int32)) (v := (.ref nb)) (by rw [e3]; exact Ar4.1) (State.isArrayOf_alike hZ.alike Ar4.2.1) rfl Ar4.2.2 hin4 hat4 (g := (mkF m 48 #[.val (.ref r0), .val (.int (0 : Int32)), .val (.int (1 : Int32))] [(.int (0 : Int32)), (.ref na)])) rfl rfl (hb hby d5_48)) ?_
  refine own_go (G := T3.setTop (mkF m 74 #[.val (.ref r0), .val (.int (0 : Int32)), .val (.int (1 : Int32))] [])) (fun _ k => XS.ifnonnullYes X3.here hx rfl (pc0 := 49) (pc' := 74) rfl (hb hby d5_49) rfl (by decide) (by decide) k) ?_
  refine own_go (G := T3.setTop (mkF m 75 #[.val (.ref r0), .val (.int (0 : Int32)), .val (.int (1 : Int32))] [(.ref r0)])) (fun _ k => XS.aloadN X3.here hx rfl (hb hby d5_74) rfl rfl k) ?_
  obtain ⟨T5, X5, e5, st5⟩ := getF X3 hx hZ hown (host := "") (Or.inl (hw _ (List.mem_of_getElem? (i := 18) rfl))) Via.refl e3 F_narrow (g := (mkF m 75 #[.val (.ref r0), .val (.int (0 : Int32)), .val (.int (1 : Int32))] [(.ref r0)])) rfl rfl (hb hby d5_75)
  refine own_go (G := T5.setTop (mkF m 78 #[.val (.ref r0), .val (.int (0 : Int32)), .val (.int (1 : Int32))] [(.ref na)])) (st5) ?_
  refine own_go (G := T5.setTop (mkF m 79 #[.val (.ref r0), .val (.int (0 : Int32)), .val (.int (1 : Int32))] [(.int (0 : Int32)), (.ref na)])) (fun _ k => XS.iloadN X5.here hx rfl (hb hby d5_78) rfl k) ?_
  obtain ⟨cl6, Ar6, qk6, S6, N6_, Ha6, G6⟩ := id V_na
  have hin6 : ¬ ((0 : Int32) < 0 ∨ cl6.slots.size ≤ ((0 : Int32)).toNatClampNeg) := inb_of S6 ⟨by decide, by decide⟩
  have hat6 : cl6.slots[((0 : Int32)).toNatClampNeg]? = some (.ref nb) := Ha6.at hin6 rfl
  refine own_go (G := T5.setTop (mkF m 80 #[.val (.ref r0), .val (.int (0 : Int32)), .val (.int (1 : Int32))] [(.ref nb)])) (X5.aaload hx (j := (0 : Int32)) (v := (.ref nb)) (by rw [e5]; exact Ar6.1) (State.isArrayOf_alike hZ.alike Ar6.2.1) rfl Ar6.2.2 hin6 hat6 (g := (mkF m 79 #[.val (.ref r0), .val (.int (0 : Int32)), .val (.int (1 : Int32))] [(.int (0 : Int32)), (.ref na)])) rfl rfl (hb hby d5_79)) ?_
  refine own_go (G := T5.setTop (mkF m 83 #[.val (.ref r0), .val (.int (0 : Int32)), .val (.int (1 : Int32))] [])) (fun _ k => XS.ifnullNo X5.here hx rfl (hb hby d5_80) rfl k) ?_
  refine own_go (G := T5.setTop (mkF m 84 #[.val (.ref r0), .val (.int (0 : Int32)), .val (.int (1 : Int32))] [(.int (1 : Int32))])) (fun _ k => XS.iloadN X5.here hx rfl (hb hby d5_83) rfl k) ?_
  refine own_go (G := T5.setTop (mkF m 85 #[.val (.ref r0), .val (.int (0 : Int32)), .val (.int (1 : Int32))] [(.ref r0), (.int (1 : Int32))])) (fun _ k => XS.aloadN X5.here hx rfl (hb hby d5_84) rfl rfl k) ?_
  obtain ⟨T7, X7, e7, st7⟩ := getF X5 hx hZ hown (host := "") (Or.inl (hw _ (List.mem_of_getElem? (i := 18) rfl))) Via.refl e5 F_narrow (g := (mkF m 85 #[.val (.ref r0), .val (.int (0 : Int32)), .val (.int (1 : Int32))] [(.ref r0), (.int (1 : Int32))])) rfl rfl (hb hby d5_85)
  refine own_go (G := T7.setTop (mkF m 88 #[.val (.ref r0), .val (.int (0 : Int32)), .val (.int (1 : Int32))] [(.ref na), (.int (1 : Int32))])) (st7) ?_
  refine own_go (G := T7.setTop (mkF m 89 #[.val (.ref r0), .val (.int (0 : Int32)), .val (.int (1 : Int32))] [(.int (0 : Int32)), (.ref na), (.int (1 : Int32))])) (fun _ k => XS.iloadN X7.here hx rfl (hb hby d5_88) rfl k) ?_
  obtain ⟨cl8, Ar8, qk8, S8, N8_, Ha8, G8⟩ := id V_na
  have hin8 : ¬ ((0 : Int32) < 0 ∨ cl8.slots.size ≤ ((0 : Int32)).toNatClampNeg) := inb_of S8 ⟨by decide, by decide⟩
  have hat8 : cl8.slots[((0 : Int32)).toNatClampNeg]? = some (.ref nb) := Ha8.at hin8 rfl
  refine own_go (G := T7.setTop (mkF m 90 #[.val (.ref r0), .val (.int (0 : Int32)), .val (.int (1 : Int32))] [(.ref nb), (.int (1 : Int32))])) (X7.aaload hx (j := (0 : Int32)) (v := (.ref nb)) (by rw [e7]; exact Ar8.1) (State.isArrayOf_alike hZ.alike Ar8.2.1) rfl Ar8.2.2 hin8 hat8 (g := (mkF m 89 #[.val (.ref r0), .val (.int (0 : Int32)), .val (.int (1 : Int32))] [(.int (0 : Int32)), (.ref na), (.int (1 : Int32))])) rfl rfl (hb hby d5_89)) ?_
  obtain ⟨cl9, Ar9, -, S9, N9_, -, -⟩ := id V_nb
  refine own_go (G := T7.setTop (mkF m 91 #[.val (.ref r0), .val (.int (0 : Int32)), .val (.int (1 : Int32))] [(.int (64 : Int32)), (.int (1 : Int32))])) (fun t k => X7.arraylength hx (by rw [e7]; exact Ar9.1) (State.isArrayOf_alike hZ.alike Ar9.2.1) (g := (mkF m 90 #[.val (.ref r0), .val (.int (0 : Int32)), .val (.int (1 : Int32))] [(.ref nb), (.int (1 : Int32))])) rfl rfl (hb hby d5_90) t (by rw [len_of S9 N9_]; exact k)) ?_
  refine own_go (G := T7.setTop (mkF m 115 #[.val (.ref r0), .val (.int (0 : Int32)), .val (.int (1 : Int32))] [])) (fun _ k => XS.icmpYes X7.here hx rfl (pc0 := 91) (pc' := 115) rfl (hb hby d5_91) rfl (feq (by decide : ¬ ((1 : Int32) = (64 : Int32)))).2 (by decide) (by decide) k) ?_
  refine own_go (G := T7.setTop (mkF m 116 #[.val (.ref r0), .val (.int (0 : Int32)), .val (.int (1 : Int32))] [(.ref r0)])) (fun _ k => XS.aloadN X7.here hx rfl (hb hby d5_115) rfl rfl k) ?_
  obtain ⟨T10, X10, e10, st10⟩ := getF X7 hx hZ hown (host := "") (Or.inl (hw _ (List.mem_of_getElem? (i := 22) rfl))) Via.refl e7 F_wide (g := (mkF m 116 #[.val (.ref r0), .val (.int (0 : Int32)), .val (.int (1 : Int32))] [(.ref r0)])) rfl rfl (hb hby d5_116)
  refine own_go (G := T10.setTop (mkF m 119 #[.val (.ref r0), .val (.int (0 : Int32)), .val (.int (1 : Int32))] [(.ref wa)])) (st10) ?_
  refine own_go (G := T10.setTop (mkF m 120 #[.val (.ref r0), .val (.int (0 : Int32)), .val (.int (1 : Int32))] [(.int (0 : Int32)), (.ref wa)])) (fun _ k => XS.iloadN X10.here hx rfl (hb hby d5_119) rfl k) ?_
  obtain ⟨cl11, Ar11, qk11, S11, N11_, Ha11, G11⟩ := id V_wa
  have hin11 : ¬ ((0 : Int32) < 0 ∨ cl11.slots.size ≤ ((0 : Int32)).toNatClampNeg) := inb_of S11 ⟨by decide, by decide⟩
  have hat11 : cl11.slots[((0 : Int32)).toNatClampNeg]? = some .null := Ha11.at hin11 rfl
  refine own_go (G := T10.setTop (mkF m 121 #[.val (.ref r0), .val (.int (0 : Int32)), .val (.int (1 : Int32))] [.null])) (X10.aaload hx (j := (0 : Int32)) (v := .null) (by rw [e10]; exact Ar11.1) (State.isArrayOf_alike hZ.alike Ar11.2.1) rfl Ar11.2.2 hin11 hat11 (g := (mkF m 120 #[.val (.ref r0), .val (.int (0 : Int32)), .val (.int (1 : Int32))] [(.int (0 : Int32)), (.ref wa)])) rfl rfl (hb hby d5_120)) ?_
  refine own_go (G := T10.setTop (mkF m 153 #[.val (.ref r0), .val (.int (0 : Int32)), .val (.int (1 : Int32))] [])) (fun _ k => XS.ifnullYes X10.here hx rfl (pc0 := 121) (pc' := 153) rfl (hb hby d5_121) rfl (by decide) (by decide) k) ?_
  exact own_retV X10 hx Bd.returns (hb hby d5_153) Bd.notSynchronized (by decide) (by decide) ⟨rfl, N0, e10⟩
theorem ef_mrN2 (m : MethodId) (r0 : Addr) : entryFrame m #[(.ref r0), (.int (0 : Int32)), (.int (2 : Int32))] 3 = mkF m 0 #[.val (.ref r0), .val (.int (0 : Int32)), .val (.int (2 : Int32))] [] := by first | (simp [entryFrame, mkF, argsToLocals, Value.category]; done) | rfl
set_option maxRecDepth 65536 in
set_option maxHeartbeats 40000000 in
theorem mrN2 (l : Launch) (Z : State) (a0 : Array Value) (hw : ∀ d ∈ tables_1, d.before a0 Z = true) (ws : List Jvm.Cond) (r0 : Addr) (x0 : Int32) (x1 : Int32) (x2 : Int32) (nb : Addr) (h0 : Heap) (n0 : Nat) (Z0 : n0 ≤ h0.size) (G : own_N Z h0 n0 r0 (2 : Int32) x0 x1 x2 nb) :
    MetFree l (⟨"com/example/xrefloom/xrefloom/tree/CompactText", "makeRoom", "(II)V"⟩ : MethodName) (head1 (Jvm.Cond.code (⟨"com/example/xrefloom/xrefloom/tree/CompactText", "makeRoom", "(II)V"⟩ : MethodName) prog_30_method_9_code 3 none :: ws) ({ frames := 0, cells := 0, slots := 0, locals := 0 } : Room)) (fun a U => a = #[(.ref r0), (.int (0 : Int32)), (.int (2 : Int32))] ∧ Z.Warmed39 U.vm ∧ U.heap = h0) (fun _ _ _ _ _ => True) (fun _ U o U' => ∃ v L, o = .returned v ∧ (own_SameV h0 n0) v U'.heap L ∧ FrameEnd U o U' L 0 0) := by
  refine MetFree.of_bodySF (plainFor_of_name pn5) hisR ?_
  intro p e s m args below meth c s₁ Bd hml0 hP hK
  obtain ⟨rfl, hZ, hh⟩ := hP
  have hx := Bd.exec
  have hby := Bd.bytes
  have hml : c.maxLocals = 3 := hml0
  have hown : s.vm.findClass "com/example/xrefloom/xrefloom/tree/CompactText" = some m.cls := findClass_of_methodNamed Bd.named
  have hnm := (name_of_methodNamed Bd.named Bd.method).1
  have X0 : Stand p l e ({ frames := 0, cells := 0, slots := 0, locals := 0 } : Room) s m #[(.ref r0), (.int (0 : Int32)), (.int (2 : Int32))] below meth c s₁ [] 0 0 := Stand.of_body Bd
  have e0 : s₁.heap = h0 := by rw [← hh, Bd.state]; rfl
  have N0 := Fr.nil n0
  obtain ⟨gn_r0, E_r0, F_length, na, wa, kn, kw, kb, gn_na, gn_wa, gn_nb, ne_r0_na, ne_r0_wa, ne_r0_nb, ne_na_wa, ne_na_nb, ne_wa_nb, F_narrow, F_wide, Ov, V_na, V_wa, V_nb⟩ := G
  show own_Goes p e below (own_End s (own_SameV h0 n0) 0 0) _
  refine own_go (G := s₁.setTop (mkF m 0 #[.val (.ref r0), .val (.int (0 : Int32)), .val (.int (2 : Int32))] [])) (fun t k => castTop (ef_mrN2 m r0) k) ?_
  refine own_go (G := s₁.setTop (mkF m 1 #[.val (.ref r0), .val (.int (0 : Int32)), .val (.int (2 : Int32))] [(.int (0 : Int32))])) (fun _ k => XS.iloadN X0.here hx rfl (hb hby d5_0) rfl k) ?_
  refine own_go (G := s₁.setTop (mkF m 2 #[.val (.ref r0), .val (.int (0 : Int32)), .val (.int (2 : Int32))] [(.ref r0), (.int (0 : Int32))])) (fun _ k => XS.aloadN X0.here hx rfl (hb hby d5_1) rfl rfl k) ?_
  obtain ⟨T1, X1, e1, st1⟩ := getF X0 hx hZ hown (host := "") (Or.inl (hw _ (List.mem_of_getElem? (i := 18) rfl))) Via.refl e0 F_narrow (g := (mkF m 2 #[.val (.ref r0), .val (.int (0 : Int32)), .val (.int (2 : Int32))] [(.ref r0), (.int (0 : Int32))])) rfl rfl (hb hby d5_2)
  refine own_go (G := T1.setTop (mkF m 5 #[.val (.ref r0), .val (.int (0 : Int32)), .val (.int (2 : Int32))] [(.ref na), (.int (0 : Int32))])) (st1) ?_
  obtain ⟨cl2, Ar2, -, S2, N2_, -, -⟩ := id V_na
  refine own_go (G := T1.setTop (mkF m 6 #[.val (.ref r0), .val (.int (0 : Int32)), .val (.int (2 : Int32))] [(.int (1 : Int32)), (.int (0 : Int32))])) (fun t k => X1.arraylength hx (by rw [e1]; exact Ar2.1) (State.isArrayOf_alike hZ.alike Ar2.2.1) (g := (mkF m 5 #[.val (.ref r0), .val (.int (0 : Int32)), .val (.int (2 : Int32))] [(.ref na), (.int (0 : Int32))])) rfl rfl (hb hby d5_5) t (by rw [len_of S2 N2_]; exact k)) ?_
  refine own_go (G := T1.setTop (mkF m 43 #[.val (.ref r0), .val (.int (0 : Int32)), .val (.int (2 : Int32))] [])) (fun _ k => XS.icmpYes X1.here hx rfl (pc0 := 6) (pc' := 43) rfl (hb hby d5_6) rfl (feq (by decide : ¬ ((0 : Int32) = (1 : Int32)))).2 (by decide) (by decide) k) ?_
  refine own_go (G := T1.setTop (mkF m 44 #[.val (.ref r0), .val (.int (0 : Int32)), .val (.int (2 : Int32))] [(.ref r0)])) (fun _ k => XS.aloadN X1.here hx rfl (hb hby d5_43) rfl rfl k) ?_
  obtain ⟨T3, X3, e3, st3⟩ := getF X1 hx hZ hown (host := "") (Or.inl (hw _ (List.mem_of_getElem? (i := 18) rfl))) Via.refl e1 F_narrow (g := (mkF m 44 #[.val (.ref r0), .val (.int (0 : Int32)), .val (.int (2 : Int32))] [(.ref r0)])) rfl rfl (hb hby d5_44)
  refine own_go (G := T3.setTop (mkF m 47 #[.val (.ref r0), .val (.int (0 : Int32)), .val (.int (2 : Int32))] [(.ref na)])) (st3) ?_
  refine own_go (G := T3.setTop (mkF m 48 #[.val (.ref r0), .val (.int (0 : Int32)), .val (.int (2 : Int32))] [(.int (0 : Int32)), (.ref na)])) (fun _ k => XS.iloadN X3.here hx rfl (hb hby d5_47) rfl k) ?_
  obtain ⟨cl4, Ar4, qk4, S4, N4_, Ha4, G4⟩ := id V_na
  have hin4 : ¬ ((0 : Int32) < 0 ∨ cl4.slots.size ≤ ((0 : Int32)).toNatClampNeg) := inb_of S4 ⟨by decide, by decide⟩
  have hat4 : cl4.slots[((0 : Int32)).toNatClampNeg]? = some (.ref nb) := Ha4.at hin4 rfl
  refine own_go (G := T3.setTop (mkF m 49 #[.val (.ref r0), .val (.int (0 : Int32)), .val (.int (2 : Int32))] [(.ref nb)])) (X3.aaload hx (j := (0 : Int32)) (v := (.ref nb)) (by rw [e3]; exact Ar4.1) (State.isArrayOf_alike hZ.alike Ar4.2.1) rfl Ar4.2.2 hin4 hat4 (g := (mkF m 48 #[.val (.ref r0), .val (.int (0 : Int32)), .val (.int (2 : Int32))] [(.int (0 : Int32)), (.ref na)])) rfl rfl (hb hby d5_48)) ?_
  refine own_go (G := T3.setTop (mkF m 74 #[.val (.ref r0), .val (.int (0 : Int32)), .val (.int (2 : Int32))] [])) (fun _ k => XS.ifnonnullYes X3.here hx rfl (pc0 := 49) (pc' := 74) rfl (hb hby d5_49) rfl (by decide) (by decide) k) ?_
  refine own_go (G := T3.setTop (mkF m 75 #[.val (.ref r0), .val (.int (0 : Int32)), .val (.int (2 : Int32))] [(.ref r0)])) (fun _ k => XS.aloadN X3.here hx rfl (hb hby d5_74) rfl rfl k) ?_
  obtain ⟨T5, X5, e5, st5⟩ := getF X3 hx hZ hown (host := "") (Or.inl (hw _ (List.mem_of_getElem? (i := 18) rfl))) Via.refl e3 F_narrow (g := (mkF m 75 #[.val (.ref r0), .val (.int (0 : Int32)), .val (.int (2 : Int32))] [(.ref r0)])) rfl rfl (hb hby d5_75)
  refine own_go (G := T5.setTop (mkF m 78 #[.val (.ref r0), .val (.int (0 : Int32)), .val (.int (2 : Int32))] [(.ref na)])) (st5) ?_
  refine own_go (G := T5.setTop (mkF m 79 #[.val (.ref r0), .val (.int (0 : Int32)), .val (.int (2 : Int32))] [(.int (0 : Int32)), (.ref na)])) (fun _ k => XS.iloadN X5.here hx rfl (hb hby d5_78) rfl k) ?_
  obtain ⟨cl6, Ar6, qk6, S6, N6_, Ha6, G6⟩ := id V_na
  have hin6 : ¬ ((0 : Int32) < 0 ∨ cl6.slots.size ≤ ((0 : Int32)).toNatClampNeg) := inb_of S6 ⟨by decide, by decide⟩
  have hat6 : cl6.slots[((0 : Int32)).toNatClampNeg]? = some (.ref nb) := Ha6.at hin6 rfl
  refine own_go (G := T5.setTop (mkF m 80 #[.val (.ref r0), .val (.int (0 : Int32)), .val (.int (2 : Int32))] [(.ref nb)])) (X5.aaload hx (j := (0 : Int32)) (v := (.ref nb)) (by rw [e5]; exact Ar6.1) (State.isArrayOf_alike hZ.alike Ar6.2.1) rfl Ar6.2.2 hin6 hat6 (g := (mkF m 79 #[.val (.ref r0), .val (.int (0 : Int32)), .val (.int (2 : Int32))] [(.int (0 : Int32)), (.ref na)])) rfl rfl (hb hby d5_79)) ?_
  refine own_go (G := T5.setTop (mkF m 83 #[.val (.ref r0), .val (.int (0 : Int32)), .val (.int (2 : Int32))] [])) (fun _ k => XS.ifnullNo X5.here hx rfl (hb hby d5_80) rfl k) ?_
  refine own_go (G := T5.setTop (mkF m 84 #[.val (.ref r0), .val (.int (0 : Int32)), .val (.int (2 : Int32))] [(.int (2 : Int32))])) (fun _ k => XS.iloadN X5.here hx rfl (hb hby d5_83) rfl k) ?_
  refine own_go (G := T5.setTop (mkF m 85 #[.val (.ref r0), .val (.int (0 : Int32)), .val (.int (2 : Int32))] [(.ref r0), (.int (2 : Int32))])) (fun _ k => XS.aloadN X5.here hx rfl (hb hby d5_84) rfl rfl k) ?_
  obtain ⟨T7, X7, e7, st7⟩ := getF X5 hx hZ hown (host := "") (Or.inl (hw _ (List.mem_of_getElem? (i := 18) rfl))) Via.refl e5 F_narrow (g := (mkF m 85 #[.val (.ref r0), .val (.int (0 : Int32)), .val (.int (2 : Int32))] [(.ref r0), (.int (2 : Int32))])) rfl rfl (hb hby d5_85)
  refine own_go (G := T7.setTop (mkF m 88 #[.val (.ref r0), .val (.int (0 : Int32)), .val (.int (2 : Int32))] [(.ref na), (.int (2 : Int32))])) (st7) ?_
  refine own_go (G := T7.setTop (mkF m 89 #[.val (.ref r0), .val (.int (0 : Int32)), .val (.int (2 : Int32))] [(.int (0 : Int32)), (.ref na), (.int (2 : Int32))])) (fun _ k => XS.iloadN X7.here hx rfl (hb hby d5_88) rfl k) ?_
  obtain ⟨cl8, Ar8, qk8, S8, N8_, Ha8, G8⟩ := id V_na
  have hin8 : ¬ ((0 : Int32) < 0 ∨ cl8.slots.size ≤ ((0 : Int32)).toNatClampNeg) := inb_of S8 ⟨by decide, by decide⟩
  have hat8 : cl8.slots[((0 : Int32)).toNatClampNeg]? = some (.ref nb) := Ha8.at hin8 rfl
  refine own_go (G := T7.setTop (mkF m 90 #[.val (.ref r0), .val (.int (0 : Int32)), .val (.int (2 : Int32))] [(.ref nb), (.int (2 : Int32))])) (X7.aaload hx (j := (0 : Int32)) (v := (.ref nb)) (by rw [e7]; exact Ar8.1) (State.isArrayOf_alike hZ.alike Ar8.2.1) rfl Ar8.2.2 hin8 hat8 (g := (mkF m 89 #[.val (.ref r0), .val (.int (0 : Int32)), .val (.int (2 : Int32))] [(.int (0 : Int32)), (.ref na), (.int (2 : Int32))])) rfl rfl (hb hby d5_89)) ?_
  obtain ⟨cl9, Ar9, -, S9, N9_, -, -⟩ := id V_nb
  refine own_go (G := T7.setTop (mkF m 91 #[.val (.ref r0), .val (.int (0 : Int32)), .val (.int (2 : Int32))] [(.int (64 : Int32)), (.int (2 : Int32))])) (fun t k => X7.arraylength hx (by rw [e7]; exact Ar9.1) (State.isArrayOf_alike hZ.alike Ar9.2.1) (g := (mkF m 90 #[.val (.ref r0), .val (.int (0 : Int32)), .val (.int (2 : Int32))] [(.ref nb), (.int (2 : Int32))])) rfl rfl (hb hby d5_90) t (by rw [len_of S9 N9_]; exact k)) ?_
  refine own_go (G := T7.setTop (mkF m 115 #[.val (.ref r0), .val (.int (0 : Int32)), .val (.int (2 : Int32))] [])) (fun _ k => XS.icmpYes X7.here hx rfl (pc0 := 91) (pc' := 115) rfl (hb hby d5_91) rfl (feq (by decide : ¬ ((2 : Int32) = (64 : Int32)))).2 (by decide) (by decide) k) ?_
  refine own_go (G := T7.setTop (mkF m 116 #[.val (.ref r0), .val (.int (0 : Int32)), .val (.int (2 : Int32))] [(.ref r0)])) (fun _ k => XS.aloadN X7.here hx rfl (hb hby d5_115) rfl rfl k) ?_
  obtain ⟨T10, X10, e10, st10⟩ := getF X7 hx hZ hown (host := "") (Or.inl (hw _ (List.mem_of_getElem? (i := 22) rfl))) Via.refl e7 F_wide (g := (mkF m 116 #[.val (.ref r0), .val (.int (0 : Int32)), .val (.int (2 : Int32))] [(.ref r0)])) rfl rfl (hb hby d5_116)
  refine own_go (G := T10.setTop (mkF m 119 #[.val (.ref r0), .val (.int (0 : Int32)), .val (.int (2 : Int32))] [(.ref wa)])) (st10) ?_
  refine own_go (G := T10.setTop (mkF m 120 #[.val (.ref r0), .val (.int (0 : Int32)), .val (.int (2 : Int32))] [(.int (0 : Int32)), (.ref wa)])) (fun _ k => XS.iloadN X10.here hx rfl (hb hby d5_119) rfl k) ?_
  obtain ⟨cl11, Ar11, qk11, S11, N11_, Ha11, G11⟩ := id V_wa
  have hin11 : ¬ ((0 : Int32) < 0 ∨ cl11.slots.size ≤ ((0 : Int32)).toNatClampNeg) := inb_of S11 ⟨by decide, by decide⟩
  have hat11 : cl11.slots[((0 : Int32)).toNatClampNeg]? = some .null := Ha11.at hin11 rfl
  refine own_go (G := T10.setTop (mkF m 121 #[.val (.ref r0), .val (.int (0 : Int32)), .val (.int (2 : Int32))] [.null])) (X10.aaload hx (j := (0 : Int32)) (v := .null) (by rw [e10]; exact Ar11.1) (State.isArrayOf_alike hZ.alike Ar11.2.1) rfl Ar11.2.2 hin11 hat11 (g := (mkF m 120 #[.val (.ref r0), .val (.int (0 : Int32)), .val (.int (2 : Int32))] [(.int (0 : Int32)), (.ref wa)])) rfl rfl (hb hby d5_120)) ?_
  refine own_go (G := T10.setTop (mkF m 153 #[.val (.ref r0), .val (.int (0 : Int32)), .val (.int (2 : Int32))] [])) (fun _ k => XS.ifnullYes X10.here hx rfl (pc0 := 121) (pc' := 153) rfl (hb hby d5_121) rfl (by decide) (by decide) k) ?_
  exact own_retV X10 hx Bd.returns (hb hby d5_153) Bd.notSynchronized (by decide) (by decide) ⟨rfl, N0, e10⟩
theorem d5_52 : decode prog_30_method_9_code 52 = .ok (.aload_n 0, 1) := by decide +kernel
theorem d5_53 : decode prog_30_method_9_code 53 = .ok (.getfield 17, 3) := by decide +kernel
theorem d5_56 : decode prog_30_method_9_code 56 = .ok (.iload_n 1, 1) := by decide +kernel
theorem d5_57 : decode prog_30_method_9_code 57 = .ok (.aaload, 1) := by decide +kernel
theorem d5_58 : decode prog_30_method_9_code 58 = .ok (.ifnonnull 16, 3) := by decide +kernel
theorem d5_124 : decode prog_30_method_9_code 124 = .ok (.iload_n 2, 1) := by decide +kernel
theorem d5_125 : decode prog_30_method_9_code 125 = .ok (.aload_n 0, 1) := by decide +kernel
theorem d5_126 : decode prog_30_method_9_code 126 = .ok (.getfield 17, 3) := by decide +kernel
theorem d5_129 : decode prog_30_method_9_code 129 = .ok (.iload_n 1, 1) := by decide +kernel
theorem d5_130 : decode prog_30_method_9_code 130 = .ok (.aaload, 1) := by decide +kernel
theorem d5_131 : decode prog_30_method_9_code 131 = .ok (.arraylength, 1) := by decide +kernel
theorem d5_132 : decode prog_30_method_9_code 132 = .ok (.if_icmp .ne 21, 3) := by decide +kernel
theorem ef_mrW0 (m : MethodId) (r0 : Addr) : entryFrame m #[(.ref r0), (.int (0 : Int32)), (.int (0 : Int32))] 3 = mkF m 0 #[.val (.ref r0), .val (.int (0 : Int32)), .val (.int (0 : Int32))] [] := by first | (simp [entryFrame, mkF, argsToLocals, Value.category]; done) | rfl
set_option maxRecDepth 65536 in
set_option maxHeartbeats 40000000 in
theorem mrW0 (l : Launch) (Z : State) (a0 : Array Value) (hw : ∀ d ∈ tables_1, d.before a0 Z = true) (ws : List Jvm.Cond) (r0 : Addr) (x0 : Int32) (x1 : Int32) (x2 : Int32) (wc : Addr) (h0 : Heap) (n0 : Nat) (Z0 : n0 ≤ h0.size) (G : own_W Z h0 n0 r0 (0 : Int32) x0 x1 x2 wc) :
    MetFree l (⟨"com/example/xrefloom/xrefloom/tree/CompactText", "makeRoom", "(II)V"⟩ : MethodName) (head1 (Jvm.Cond.code (⟨"com/example/xrefloom/xrefloom/tree/CompactText", "makeRoom", "(II)V"⟩ : MethodName) prog_30_method_9_code 3 none :: ws) ({ frames := 0, cells := 0, slots := 0, locals := 0 } : Room)) (fun a U => a = #[(.ref r0), (.int (0 : Int32)), (.int (0 : Int32))] ∧ Z.Warmed39 U.vm ∧ U.heap = h0) (fun _ _ _ _ _ => True) (fun _ U o U' => ∃ v L, o = .returned v ∧ (own_SameV h0 n0) v U'.heap L ∧ FrameEnd U o U' L 0 0) := by
  refine MetFree.of_bodySF (plainFor_of_name pn5) hisR ?_
  intro p e s m args below meth c s₁ Bd hml0 hP hK
  obtain ⟨rfl, hZ, hh⟩ := hP
  have hx := Bd.exec
  have hby := Bd.bytes
  have hml : c.maxLocals = 3 := hml0
  have hown : s.vm.findClass "com/example/xrefloom/xrefloom/tree/CompactText" = some m.cls := findClass_of_methodNamed Bd.named
  have hnm := (name_of_methodNamed Bd.named Bd.method).1
  have X0 : Stand p l e ({ frames := 0, cells := 0, slots := 0, locals := 0 } : Room) s m #[(.ref r0), (.int (0 : Int32)), (.int (0 : Int32))] below meth c s₁ [] 0 0 := Stand.of_body Bd
  have e0 : s₁.heap = h0 := by rw [← hh, Bd.state]; rfl
  have N0 := Fr.nil n0
  obtain ⟨gn_r0, E_r0, F_length, na, wa, kn, kw, kb, gn_na, gn_wa, gn_wc, ne_r0_na, ne_r0_wa, ne_r0_wc, ne_na_wa, ne_na_wc, ne_wa_wc, F_narrow, F_wide, Ov, V_na, V_wa, V_wc⟩ := G
  show own_Goes p e below (own_End s (own_SameV h0 n0) 0 0) _
  refine own_go (G := s₁.setTop (mkF m 0 #[.val (.ref r0), .val (.int (0 : Int32)), .val (.int (0 : Int32))] [])) (fun t k => castTop (ef_mrW0 m r0) k) ?_
  refine own_go (G := s₁.setTop (mkF m 1 #[.val (.ref r0), .val (.int (0 : Int32)), .val (.int (0 : Int32))] [(.int (0 : Int32))])) (fun _ k => XS.iloadN X0.here hx rfl (hb hby d5_0) rfl k) ?_
  refine own_go (G := s₁.setTop (mkF m 2 #[.val (.ref r0), .val (.int (0 : Int32)), .val (.int (0 : Int32))] [(.ref r0), (.int (0 : Int32))])) (fun _ k => XS.aloadN X0.here hx rfl (hb hby d5_1) rfl rfl k) ?_
  obtain ⟨T1, X1, e1, st1⟩ := getF X0 hx hZ hown (host := "") (Or.inl (hw _ (List.mem_of_getElem? (i := 18) rfl))) Via.refl e0 F_narrow (g := (mkF m 2 #[.val (.ref r0), .val (.int (0 : Int32)), .val (.int (0 : Int32))] [(.ref r0), (.int (0 : Int32))])) rfl rfl (hb hby d5_2)
  refine own_go (G := T1.setTop (mkF m 5 #[.val (.ref r0), .val (.int (0 : Int32)), .val (.int (0 : Int32))] [(.ref na), (.int (0 : Int32))])) (st1) ?_
  obtain ⟨cl2, Ar2, -, S2, N2_, -, -⟩ := id V_na
  refine own_go (G := T1.setTop (mkF m 6 #[.val (.ref r0), .val (.int (0 : Int32)), .val (.int (0 : Int32))] [(.int (1 : Int32)), (.int (0 : Int32))])) (fun t k => X1.arraylength hx (by rw [e1]; exact Ar2.1) (State.isArrayOf_alike hZ.alike Ar2.2.1) (g := (mkF m 5 #[.val (.ref r0), .val (.int (0 : Int32)), .val (.int (0 : Int32))] [(.ref na), (.int (0 : Int32))])) rfl rfl (hb hby d5_5) t (by rw [len_of S2 N2_]; exact k)) ?_
  refine own_go (G := T1.setTop (mkF m 43 #[.val (.ref r0), .val (.int (0 : Int32)), .val (.int (0 : Int32))] [])) (fun _ k => XS.icmpYes X1.here hx rfl (pc0 := 6) (pc' := 43) rfl (hb hby d5_6) rfl (feq (by decide : ¬ ((0 : Int32) = (1 : Int32)))).2 (by decide) (by decide) k) ?_
  refine own_go (G := T1.setTop (mkF m 44 #[.val (.ref r0), .val (.int (0 : Int32)), .val (.int (0 : Int32))] [(.ref r0)])) (fun _ k => XS.aloadN X1.here hx rfl (hb hby d5_43) rfl rfl k) ?_
  obtain ⟨T3, X3, e3, st3⟩ := getF X1 hx hZ hown (host := "") (Or.inl (hw _ (List.mem_of_getElem? (i := 18) rfl))) Via.refl e1 F_narrow (g := (mkF m 44 #[.val (.ref r0), .val (.int (0 : Int32)), .val (.int (0 : Int32))] [(.ref r0)])) rfl rfl (hb hby d5_44)
  refine own_go (G := T3.setTop (mkF m 47 #[.val (.ref r0), .val (.int (0 : Int32)), .val (.int (0 : Int32))] [(.ref na)])) (st3) ?_
  refine own_go (G := T3.setTop (mkF m 48 #[.val (.ref r0), .val (.int (0 : Int32)), .val (.int (0 : Int32))] [(.int (0 : Int32)), (.ref na)])) (fun _ k => XS.iloadN X3.here hx rfl (hb hby d5_47) rfl k) ?_
  obtain ⟨cl4, Ar4, qk4, S4, N4_, Ha4, G4⟩ := id V_na
  have hin4 : ¬ ((0 : Int32) < 0 ∨ cl4.slots.size ≤ ((0 : Int32)).toNatClampNeg) := inb_of S4 ⟨by decide, by decide⟩
  have hat4 : cl4.slots[((0 : Int32)).toNatClampNeg]? = some .null := Ha4.at hin4 rfl
  refine own_go (G := T3.setTop (mkF m 49 #[.val (.ref r0), .val (.int (0 : Int32)), .val (.int (0 : Int32))] [.null])) (X3.aaload hx (j := (0 : Int32)) (v := .null) (by rw [e3]; exact Ar4.1) (State.isArrayOf_alike hZ.alike Ar4.2.1) rfl Ar4.2.2 hin4 hat4 (g := (mkF m 48 #[.val (.ref r0), .val (.int (0 : Int32)), .val (.int (0 : Int32))] [(.int (0 : Int32)), (.ref na)])) rfl rfl (hb hby d5_48)) ?_
  refine own_go (G := T3.setTop (mkF m 52 #[.val (.ref r0), .val (.int (0 : Int32)), .val (.int (0 : Int32))] [])) (fun _ k => XS.ifnonnullNo X3.here hx rfl (hb hby d5_49) rfl k) ?_
  refine own_go (G := T3.setTop (mkF m 53 #[.val (.ref r0), .val (.int (0 : Int32)), .val (.int (0 : Int32))] [(.ref r0)])) (fun _ k => XS.aloadN X3.here hx rfl (hb hby d5_52) rfl rfl k) ?_
  obtain ⟨T5, X5, e5, st5⟩ := getF X3 hx hZ hown (host := "") (Or.inl (hw _ (List.mem_of_getElem? (i := 22) rfl))) Via.refl e3 F_wide (g := (mkF m 53 #[.val (.ref r0), .val (.int (0 : Int32)), .val (.int (0 : Int32))] [(.ref r0)])) rfl rfl (hb hby d5_53)
  refine own_go (G := T5.setTop (mkF m 56 #[.val (.ref r0), .val (.int (0 : Int32)), .val (.int (0 : Int32))] [(.ref wa)])) (st5) ?_
  refine own_go (G := T5.setTop (mkF m 57 #[.val (.ref r0), .val (.int (0 : Int32)), .val (.int (0 : Int32))] [(.int (0 : Int32)), (.ref wa)])) (fun _ k => XS.iloadN X5.here hx rfl (hb hby d5_56) rfl k) ?_
  obtain ⟨cl6, Ar6, qk6, S6, N6_, Ha6, G6⟩ := id V_wa
  have hin6 : ¬ ((0 : Int32) < 0 ∨ cl6.slots.size ≤ ((0 : Int32)).toNatClampNeg) := inb_of S6 ⟨by decide, by decide⟩
  have hat6 : cl6.slots[((0 : Int32)).toNatClampNeg]? = some (.ref wc) := Ha6.at hin6 rfl
  refine own_go (G := T5.setTop (mkF m 58 #[.val (.ref r0), .val (.int (0 : Int32)), .val (.int (0 : Int32))] [(.ref wc)])) (X5.aaload hx (j := (0 : Int32)) (v := (.ref wc)) (by rw [e5]; exact Ar6.1) (State.isArrayOf_alike hZ.alike Ar6.2.1) rfl Ar6.2.2 hin6 hat6 (g := (mkF m 57 #[.val (.ref r0), .val (.int (0 : Int32)), .val (.int (0 : Int32))] [(.int (0 : Int32)), (.ref wa)])) rfl rfl (hb hby d5_57)) ?_
  refine own_go (G := T5.setTop (mkF m 74 #[.val (.ref r0), .val (.int (0 : Int32)), .val (.int (0 : Int32))] [])) (fun _ k => XS.ifnonnullYes X5.here hx rfl (pc0 := 58) (pc' := 74) rfl (hb hby d5_58) rfl (by decide) (by decide) k) ?_
  refine own_go (G := T5.setTop (mkF m 75 #[.val (.ref r0), .val (.int (0 : Int32)), .val (.int (0 : Int32))] [(.ref r0)])) (fun _ k => XS.aloadN X5.here hx rfl (hb hby d5_74) rfl rfl k) ?_
  obtain ⟨T7, X7, e7, st7⟩ := getF X5 hx hZ hown (host := "") (Or.inl (hw _ (List.mem_of_getElem? (i := 18) rfl))) Via.refl e5 F_narrow (g := (mkF m 75 #[.val (.ref r0), .val (.int (0 : Int32)), .val (.int (0 : Int32))] [(.ref r0)])) rfl rfl (hb hby d5_75)
  refine own_go (G := T7.setTop (mkF m 78 #[.val (.ref r0), .val (.int (0 : Int32)), .val (.int (0 : Int32))] [(.ref na)])) (st7) ?_
  refine own_go (G := T7.setTop (mkF m 79 #[.val (.ref r0), .val (.int (0 : Int32)), .val (.int (0 : Int32))] [(.int (0 : Int32)), (.ref na)])) (fun _ k => XS.iloadN X7.here hx rfl (hb hby d5_78) rfl k) ?_
  obtain ⟨cl8, Ar8, qk8, S8, N8_, Ha8, G8⟩ := id V_na
  have hin8 : ¬ ((0 : Int32) < 0 ∨ cl8.slots.size ≤ ((0 : Int32)).toNatClampNeg) := inb_of S8 ⟨by decide, by decide⟩
  have hat8 : cl8.slots[((0 : Int32)).toNatClampNeg]? = some .null := Ha8.at hin8 rfl
  refine own_go (G := T7.setTop (mkF m 80 #[.val (.ref r0), .val (.int (0 : Int32)), .val (.int (0 : Int32))] [.null])) (X7.aaload hx (j := (0 : Int32)) (v := .null) (by rw [e7]; exact Ar8.1) (State.isArrayOf_alike hZ.alike Ar8.2.1) rfl Ar8.2.2 hin8 hat8 (g := (mkF m 79 #[.val (.ref r0), .val (.int (0 : Int32)), .val (.int (0 : Int32))] [(.int (0 : Int32)), (.ref na)])) rfl rfl (hb hby d5_79)) ?_
  refine own_go (G := T7.setTop (mkF m 115 #[.val (.ref r0), .val (.int (0 : Int32)), .val (.int (0 : Int32))] [])) (fun _ k => XS.ifnullYes X7.here hx rfl (pc0 := 80) (pc' := 115) rfl (hb hby d5_80) rfl (by decide) (by decide) k) ?_
  refine own_go (G := T7.setTop (mkF m 116 #[.val (.ref r0), .val (.int (0 : Int32)), .val (.int (0 : Int32))] [(.ref r0)])) (fun _ k => XS.aloadN X7.here hx rfl (hb hby d5_115) rfl rfl k) ?_
  obtain ⟨T9, X9, e9, st9⟩ := getF X7 hx hZ hown (host := "") (Or.inl (hw _ (List.mem_of_getElem? (i := 22) rfl))) Via.refl e7 F_wide (g := (mkF m 116 #[.val (.ref r0), .val (.int (0 : Int32)), .val (.int (0 : Int32))] [(.ref r0)])) rfl rfl (hb hby d5_116)
  refine own_go (G := T9.setTop (mkF m 119 #[.val (.ref r0), .val (.int (0 : Int32)), .val (.int (0 : Int32))] [(.ref wa)])) (st9) ?_
  refine own_go (G := T9.setTop (mkF m 120 #[.val (.ref r0), .val (.int (0 : Int32)), .val (.int (0 : Int32))] [(.int (0 : Int32)), (.ref wa)])) (fun _ k => XS.iloadN X9.here hx rfl (hb hby d5_119) rfl k) ?_
  obtain ⟨cl10, Ar10, qk10, S10, N10_, Ha10, G10⟩ := id V_wa
  have hin10 : ¬ ((0 : Int32) < 0 ∨ cl10.slots.size ≤ ((0 : Int32)).toNatClampNeg) := inb_of S10 ⟨by decide, by decide⟩
  have hat10 : cl10.slots[((0 : Int32)).toNatClampNeg]? = some (.ref wc) := Ha10.at hin10 rfl
  refine own_go (G := T9.setTop (mkF m 121 #[.val (.ref r0), .val (.int (0 : Int32)), .val (.int (0 : Int32))] [(.ref wc)])) (X9.aaload hx (j := (0 : Int32)) (v := (.ref wc)) (by rw [e9]; exact Ar10.1) (State.isArrayOf_alike hZ.alike Ar10.2.1) rfl Ar10.2.2 hin10 hat10 (g := (mkF m 120 #[.val (.ref r0), .val (.int (0 : Int32)), .val (.int (0 : Int32))] [(.int (0 : Int32)), (.ref wa)])) rfl rfl (hb hby d5_120)) ?_
  refine own_go (G := T9.setTop (mkF m 124 #[.val (.ref r0), .val (.int (0 : Int32)), .val (.int (0 : Int32))] [])) (fun _ k => XS.ifnullNo X9.here hx rfl (hb hby d5_121) rfl k) ?_
  refine own_go (G := T9.setTop (mkF m 125 #[.val (.ref r0), .val (.int (0 : Int32)), .val (.int (0 : Int32))] [(.int (0 : Int32))])) (fun _ k => XS.iloadN X9.here hx rfl (hb hby d5_124) rfl k) ?_
  refine own_go (G := T9.setTop (mkF m 126 #[.val (.ref r0), .val (.int (0 : Int32)), .val (.int (0 : Int32))] [(.ref r0), (.int (0 : Int32))])) (fun _ k => XS.aloadN X9.here hx rfl (hb hby d5_125) rfl rfl k) ?_
  obtain ⟨T11, X11, e11, st11⟩ := getF X9 hx hZ hown (host := "") (Or.inl (hw _ (List.mem_of_getElem? (i := 22) rfl))) Via.refl e9 F_wide (g := (mkF m 126 #[.val (.ref r0), .val (.int (0 : Int32)), .val (.int (0 : Int32))] [(.ref r0), (.int (0 : Int32))])) rfl rfl (hb hby d5_126)
  refine own_go (G := T11.setTop (mkF m 129 #[.val (.ref r0), .val (.int (0 : Int32)), .val (.int (0 : Int32))] [(.ref wa), (.int (0 : Int32))])) (st11) ?_
  refine own_go (G := T11.setTop (mkF m 130 #[.val (.ref r0), .val (.int (0 : Int32)), .val (.int (0 : Int32))] [(.int (0 : Int32)), (.ref wa), (.int (0 : Int32))])) (fun _ k => XS.iloadN X11.here hx rfl (hb hby d5_129) rfl k) ?_
  obtain ⟨cl12, Ar12, qk12, S12, N12_, Ha12, G12⟩ := id V_wa
  have hin12 : ¬ ((0 : Int32) < 0 ∨ cl12.slots.size ≤ ((0 : Int32)).toNatClampNeg) := inb_of S12 ⟨by decide, by decide⟩
  have hat12 : cl12.slots[((0 : Int32)).toNatClampNeg]? = some (.ref wc) := Ha12.at hin12 rfl
  refine own_go (G := T11.setTop (mkF m 131 #[.val (.ref r0), .val (.int (0 : Int32)), .val (.int (0 : Int32))] [(.ref wc), (.int (0 : Int32))])) (X11.aaload hx (j := (0 : Int32)) (v := (.ref wc)) (by rw [e11]; exact Ar12.1) (State.isArrayOf_alike hZ.alike Ar12.2.1) rfl Ar12.2.2 hin12 hat12 (g := (mkF m 130 #[.val (.ref r0), .val (.int (0 : Int32)), .val (.int (0 : Int32))] [(.int (0 : Int32)), (.ref wa), (.int (0 : Int32))])) rfl rfl (hb hby d5_130)) ?_
  obtain ⟨cl13, Ar13, -, S13, N13_, -, -⟩ := id V_wc
  refine own_go (G := T11.setTop (mkF m 132 #[.val (.ref r0), .val (.int (0 : Int32)), .val (.int (0 : Int32))] [(.int (64 : Int32)), (.int (0 : Int32))])) (fun t k => X11.arraylength hx (by rw [e11]; exact Ar13.1) (State.isArrayOf_alike hZ.alike Ar13.2.1) (g := (mkF m 131 #[.val (.ref r0), .val (.int (0 : Int32)), .val (.int (0 : Int32))] [(.ref wc), (.int (0 : Int32))])) rfl rfl (hb hby d5_131) t (by rw [len_of S13 N13_]; exact k)) ?_
  refine own_go (G := T11.setTop (mkF m 153 #[.val (.ref r0), .val (.int (0 : Int32)), .val (.int (0 : Int32))] [])) (fun _ k => XS.icmpYes X11.here hx rfl (pc0 := 132) (pc' := 153) rfl (hb hby d5_132) rfl (feq (by decide : ¬ ((0 : Int32) = (64 : Int32)))).2 (by decide) (by decide) k) ?_
  exact own_retV X11 hx Bd.returns (hb hby d5_153) Bd.notSynchronized (by decide) (by decide) ⟨rfl, N0, e11⟩
theorem ef_mrW1 (m : MethodId) (r0 : Addr) : entryFrame m #[(.ref r0), (.int (0 : Int32)), (.int (1 : Int32))] 3 = mkF m 0 #[.val (.ref r0), .val (.int (0 : Int32)), .val (.int (1 : Int32))] [] := by first | (simp [entryFrame, mkF, argsToLocals, Value.category]; done) | rfl
set_option maxRecDepth 65536 in
set_option maxHeartbeats 40000000 in
theorem mrW1 (l : Launch) (Z : State) (a0 : Array Value) (hw : ∀ d ∈ tables_1, d.before a0 Z = true) (ws : List Jvm.Cond) (r0 : Addr) (x0 : Int32) (x1 : Int32) (x2 : Int32) (wc : Addr) (h0 : Heap) (n0 : Nat) (Z0 : n0 ≤ h0.size) (G : own_W Z h0 n0 r0 (1 : Int32) x0 x1 x2 wc) :
    MetFree l (⟨"com/example/xrefloom/xrefloom/tree/CompactText", "makeRoom", "(II)V"⟩ : MethodName) (head1 (Jvm.Cond.code (⟨"com/example/xrefloom/xrefloom/tree/CompactText", "makeRoom", "(II)V"⟩ : MethodName) prog_30_method_9_code 3 none :: ws) ({ frames := 0, cells := 0, slots := 0, locals := 0 } : Room)) (fun a U => a = #[(.ref r0), (.int (0 : Int32)), (.int (1 : Int32))] ∧ Z.Warmed39 U.vm ∧ U.heap = h0) (fun _ _ _ _ _ => True) (fun _ U o U' => ∃ v L, o = .returned v ∧ (own_SameV h0 n0) v U'.heap L ∧ FrameEnd U o U' L 0 0) := by
  refine MetFree.of_bodySF (plainFor_of_name pn5) hisR ?_
  intro p e s m args below meth c s₁ Bd hml0 hP hK
  obtain ⟨rfl, hZ, hh⟩ := hP
  have hx := Bd.exec
  have hby := Bd.bytes
  have hml : c.maxLocals = 3 := hml0
  have hown : s.vm.findClass "com/example/xrefloom/xrefloom/tree/CompactText" = some m.cls := findClass_of_methodNamed Bd.named
  have hnm := (name_of_methodNamed Bd.named Bd.method).1
  have X0 : Stand p l e ({ frames := 0, cells := 0, slots := 0, locals := 0 } : Room) s m #[(.ref r0), (.int (0 : Int32)), (.int (1 : Int32))] below meth c s₁ [] 0 0 := Stand.of_body Bd
  have e0 : s₁.heap = h0 := by rw [← hh, Bd.state]; rfl
  have N0 := Fr.nil n0
  obtain ⟨gn_r0, E_r0, F_length, na, wa, kn, kw, kb, gn_na, gn_wa, gn_wc, ne_r0_na, ne_r0_wa, ne_r0_wc, ne_na_wa, ne_na_wc, ne_wa_wc, F_narrow, F_wide, Ov, V_na, V_wa, V_wc⟩ := G
  show own_Goes p e below (own_End s (own_SameV h0 n0) 0 0) _
  refine own_go (G := s₁.setTop (mkF m 0 #[.val (.ref r0), .val (.int (0 : Int32)), .val (.int (1 : Int32))] [])) (fun t k => castTop (ef_mrW1 m r0) k) ?_
  refine own_go (G := s₁.setTop (mkF m 1 #[.val (.ref r0), .val (.int (0 : Int32)), .val (.int (1 : Int32))] [(.int (0 : Int32))])) (fun _ k => XS.iloadN X0.here hx rfl (hb hby d5_0) rfl k) ?_
  refine own_go (G := s₁.setTop (mkF m 2 #[.val (.ref r0), .val (.int (0 : Int32)), .val (.int (1 : Int32))] [(.ref r0), (.int (0 : Int32))])) (fun _ k => XS.aloadN X0.here hx rfl (hb hby d5_1) rfl rfl k) ?_
  obtain ⟨T1, X1, e1, st1⟩ := getF X0 hx hZ hown (host := "") (Or.inl (hw _ (List.mem_of_getElem? (i := 18) rfl))) Via.refl e0 F_narrow (g := (mkF m 2 #[.val (.ref r0), .val (.int (0 : Int32)), .val (.int (1 : Int32))] [(.ref r0), (.int (0 : Int32))])) rfl rfl (hb hby d5_2)
  refine own_go (G := T1.setTop (mkF m 5 #[.val (.ref r0), .val (.int (0 : Int32)), .val (.int (1 : Int32))] [(.ref na), (.int (0 : Int32))])) (st1) ?_
  obtain ⟨cl2, Ar2, -, S2, N2_, -, -⟩ := id V_na
  refine own_go (G := T1.setTop (mkF m 6 #[.val (.ref r0), .val (.int (0 : Int32)), .val (.int (1 : Int32))] [(.int (1 : Int32)), (.int (0 : Int32))])) (fun t k => X1.arraylength hx (by rw [e1]; exact Ar2.1) (State.isArrayOf_alike hZ.alike Ar2.2.1) (g := (mkF m 5 #[.val (.ref r0), .val (.int (0 : Int32)), .val (.int (1 : Int32))] [(.ref na), (.int (0 : Int32))])) rfl rfl (hb hby d5_5) t (by rw [len_of S2 N2_]; exact k)) ?_
  refine own_go (G := T1.setTop (mkF m 43 #[.val (.ref r0), .val (.int (0 : Int32)), .val (.int (1 : Int32))] [])) (fun _ k => XS.icmpYes X1.here hx rfl (pc0 := 6) (pc' := 43) rfl (hb hby d5_6) rfl (feq (by decide : ¬ ((0 : Int32) = (1 : Int32)))).2 (by decide) (by decide) k) ?_
  refine own_go (G := T1.setTop (mkF m 44 #[.val (.ref r0), .val (.int (0 : Int32)), .val (.int (1 : Int32))] [(.ref r0)])) (fun _ k => XS.aloadN X1.here hx rfl (hb hby d5_43) rfl rfl k) ?_
  obtain ⟨T3, X3, e3, st3⟩ := getF X1 hx hZ hown (host := "") (Or.inl (hw _ (List.mem_of_getElem? (i := 18) rfl))) Via.refl e1 F_narrow (g := (mkF m 44 #[.val (.ref r0), .val (.int (0 : Int32)), .val (.int (1 : Int32))] [(.ref r0)])) rfl rfl (hb hby d5_44)
  refine own_go (G := T3.setTop (mkF m 47 #[.val (.ref r0), .val (.int (0 : Int32)), .val (.int (1 : Int32))] [(.ref na)])) (st3) ?_
  refine own_go (G := T3.setTop (mkF m 48 #[.val (.ref r0), .val (.int (0 : Int32)), .val (.int (1 : Int32))] [(.int (0 : Int32)), (.ref na)])) (fun _ k => XS.iloadN X3.here hx rfl (hb hby d5_47) rfl k) ?_
  obtain ⟨cl4, Ar4, qk4, S4, N4_, Ha4, G4⟩ := id V_na
  have hin4 : ¬ ((0 : Int32) < 0 ∨ cl4.slots.size ≤ ((0 : Int32)).toNatClampNeg) := inb_of S4 ⟨by decide, by decide⟩
  have hat4 : cl4.slots[((0 : Int32)).toNatClampNeg]? = some .null := Ha4.at hin4 rfl
  refine own_go (G := T3.setTop (mkF m 49 #[.val (.ref r0), .val (.int (0 : Int32)), .val (.int (1 : Int32))] [.null])) (X3.aaload hx (j := (0 : Int32)) (v := .null) (by rw [e3]; exact Ar4.1) (State.isArrayOf_alike hZ.alike Ar4.2.1) rfl Ar4.2.2 hin4 hat4 (g := (mkF m 48 #[.val (.ref r0), .val (.int (0 : Int32)), .val (.int (1 : Int32))] [(.int (0 : Int32)), (.ref na)])) rfl rfl (hb hby d5_48)) ?_
  refine own_go (G := T3.setTop (mkF m 52 #[.val (.ref r0), .val (.int (0 : Int32)), .val (.int (1 : Int32))] [])) (fun _ k => XS.ifnonnullNo X3.here hx rfl (hb hby d5_49) rfl k) ?_
  refine own_go (G := T3.setTop (mkF m 53 #[.val (.ref r0), .val (.int (0 : Int32)), .val (.int (1 : Int32))] [(.ref r0)])) (fun _ k => XS.aloadN X3.here hx rfl (hb hby d5_52) rfl rfl k) ?_
  obtain ⟨T5, X5, e5, st5⟩ := getF X3 hx hZ hown (host := "") (Or.inl (hw _ (List.mem_of_getElem? (i := 22) rfl))) Via.refl e3 F_wide (g := (mkF m 53 #[.val (.ref r0), .val (.int (0 : Int32)), .val (.int (1 : Int32))] [(.ref r0)])) rfl rfl (hb hby d5_53)
  refine own_go (G := T5.setTop (mkF m 56 #[.val (.ref r0), .val (.int (0 : Int32)), .val (.int (1 : Int32))] [(.ref wa)])) (st5) ?_
  refine own_go (G := T5.setTop (mkF m 57 #[.val (.ref r0), .val (.int (0 : Int32)), .val (.int (1 : Int32))] [(.int (0 : Int32)), (.ref wa)])) (fun _ k => XS.iloadN X5.here hx rfl (hb hby d5_56) rfl k) ?_
  obtain ⟨cl6, Ar6, qk6, S6, N6_, Ha6, G6⟩ := id V_wa
  have hin6 : ¬ ((0 : Int32) < 0 ∨ cl6.slots.size ≤ ((0 : Int32)).toNatClampNeg) := inb_of S6 ⟨by decide, by decide⟩
  have hat6 : cl6.slots[((0 : Int32)).toNatClampNeg]? = some (.ref wc) := Ha6.at hin6 rfl
  refine own_go (G := T5.setTop (mkF m 58 #[.val (.ref r0), .val (.int (0 : Int32)), .val (.int (1 : Int32))] [(.ref wc)])) (X5.aaload hx (j := (0 : Int32)) (v := (.ref wc)) (by rw [e5]; exact Ar6.1) (State.isArrayOf_alike hZ.alike Ar6.2.1) rfl Ar6.2.2 hin6 hat6 (g := (mkF m 57 #[.val (.ref r0), .val (.int (0 : Int32)), .val (.int (1 : Int32))] [(.int (0 : Int32)), (.ref wa)])) rfl rfl (hb hby d5_57)) ?_
  refine own_go (G := T5.setTop (mkF m 74 #[.val (.ref r0), .val (.int (0 : Int32)), .val (.int (1 : Int32))] [])) (fun _ k => XS.ifnonnullYes X5.here hx rfl (pc0 := 58) (pc' := 74) rfl (hb hby d5_58) rfl (by decide) (by decide) k) ?_
  refine own_go (G := T5.setTop (mkF m 75 #[.val (.ref r0), .val (.int (0 : Int32)), .val (.int (1 : Int32))] [(.ref r0)])) (fun _ k => XS.aloadN X5.here hx rfl (hb hby d5_74) rfl rfl k) ?_
  obtain ⟨T7, X7, e7, st7⟩ := getF X5 hx hZ hown (host := "") (Or.inl (hw _ (List.mem_of_getElem? (i := 18) rfl))) Via.refl e5 F_narrow (g := (mkF m 75 #[.val (.ref r0), .val (.int (0 : Int32)), .val (.int (1 : Int32))] [(.ref r0)])) rfl rfl (hb hby d5_75)
  refine own_go (G := T7.setTop (mkF m 78 #[.val (.ref r0), .val (.int (0 : Int32)), .val (.int (1 : Int32))] [(.ref na)])) (st7) ?_
  refine own_go (G := T7.setTop (mkF m 79 #[.val (.ref r0), .val (.int (0 : Int32)), .val (.int (1 : Int32))] [(.int (0 : Int32)), (.ref na)])) (fun _ k => XS.iloadN X7.here hx rfl (hb hby d5_78) rfl k) ?_
  obtain ⟨cl8, Ar8, qk8, S8, N8_, Ha8, G8⟩ := id V_na
  have hin8 : ¬ ((0 : Int32) < 0 ∨ cl8.slots.size ≤ ((0 : Int32)).toNatClampNeg) := inb_of S8 ⟨by decide, by decide⟩
  have hat8 : cl8.slots[((0 : Int32)).toNatClampNeg]? = some .null := Ha8.at hin8 rfl
  refine own_go (G := T7.setTop (mkF m 80 #[.val (.ref r0), .val (.int (0 : Int32)), .val (.int (1 : Int32))] [.null])) (X7.aaload hx (j := (0 : Int32)) (v := .null) (by rw [e7]; exact Ar8.1) (State.isArrayOf_alike hZ.alike Ar8.2.1) rfl Ar8.2.2 hin8 hat8 (g := (mkF m 79 #[.val (.ref r0), .val (.int (0 : Int32)), .val (.int (1 : Int32))] [(.int (0 : Int32)), (.ref na)])) rfl rfl (hb hby d5_79)) ?_
  refine own_go (G := T7.setTop (mkF m 115 #[.val (.ref r0), .val (.int (0 : Int32)), .val (.int (1 : Int32))] [])) (fun _ k => XS.ifnullYes X7.here hx rfl (pc0 := 80) (pc' := 115) rfl (hb hby d5_80) rfl (by decide) (by decide) k) ?_
  refine own_go (G := T7.setTop (mkF m 116 #[.val (.ref r0), .val (.int (0 : Int32)), .val (.int (1 : Int32))] [(.ref r0)])) (fun _ k => XS.aloadN X7.here hx rfl (hb hby d5_115) rfl rfl k) ?_
  obtain ⟨T9, X9, e9, st9⟩ := getF X7 hx hZ hown (host := "") (Or.inl (hw _ (List.mem_of_getElem? (i := 22) rfl))) Via.refl e7 F_wide (g := (mkF m 116 #[.val (.ref r0), .val (.int (0 : Int32)), .val (.int (1 : Int32))] [(.ref r0)])) rfl rfl (hb hby d5_116)
  refine own_go (G := T9.setTop (mkF m 119 #[.val (.ref r0), .val (.int (0 : Int32)), .val (.int (1 : Int32))] [(.ref wa)])) (st9) ?_
  refine own_go (G := T9.setTop (mkF m 120 #[.val (.ref r0), .val (.int (0 : Int32)), .val (.int (1 : Int32))] [(.int (0 : Int32)), (.ref wa)])) (fun _ k => XS.iloadN X9.here hx rfl (hb hby d5_119) rfl k) ?_
  obtain ⟨cl10, Ar10, qk10, S10, N10_, Ha10, G10⟩ := id V_wa
  have hin10 : ¬ ((0 : Int32) < 0 ∨ cl10.slots.size ≤ ((0 : Int32)).toNatClampNeg) := inb_of S10 ⟨by decide, by decide⟩
  have hat10 : cl10.slots[((0 : Int32)).toNatClampNeg]? = some (.ref wc) := Ha10.at hin10 rfl
  refine own_go (G := T9.setTop (mkF m 121 #[.val (.ref r0), .val (.int (0 : Int32)), .val (.int (1 : Int32))] [(.ref wc)])) (X9.aaload hx (j := (0 : Int32)) (v := (.ref wc)) (by rw [e9]; exact Ar10.1) (State.isArrayOf_alike hZ.alike Ar10.2.1) rfl Ar10.2.2 hin10 hat10 (g := (mkF m 120 #[.val (.ref r0), .val (.int (0 : Int32)), .val (.int (1 : Int32))] [(.int (0 : Int32)), (.ref wa)])) rfl rfl (hb hby d5_120)) ?_
  refine own_go (G := T9.setTop (mkF m 124 #[.val (.ref r0), .val (.int (0 : Int32)), .val (.int (1 : Int32))] [])) (fun _ k => XS.ifnullNo X9.here hx rfl (hb hby d5_121) rfl k) ?_
  refine own_go (G := T9.setTop (mkF m 125 #[.val (.ref r0), .val (.int (0 : Int32)), .val (.int (1 : Int32))] [(.int (1 : Int32))])) (fun _ k => XS.iloadN X9.here hx rfl (hb hby d5_124) rfl k) ?_
  refine own_go (G := T9.setTop (mkF m 126 #[.val (.ref r0), .val (.int (0 : Int32)), .val (.int (1 : Int32))] [(.ref r0), (.int (1 : Int32))])) (fun _ k => XS.aloadN X9.here hx rfl (hb hby d5_125) rfl rfl k) ?_
  obtain ⟨T11, X11, e11, st11⟩ := getF X9 hx hZ hown (host := "") (Or.inl (hw _ (List.mem_of_getElem? (i := 22) rfl))) Via.refl e9 F_wide (g := (mkF m 126 #[.val (.ref r0), .val (.int (0 : Int32)), .val (.int (1 : Int32))] [(.ref r0), (.int (1 : Int32))])) rfl rfl (hb hby d5_126)
  refine own_go (G := T11.setTop (mkF m 129 #[.val (.ref r0), .val (.int (0 : Int32)), .val (.int (1 : Int32))] [(.ref wa), (.int (1 : Int32))])) (st11) ?_
  refine own_go (G := T11.setTop (mkF m 130 #[.val (.ref r0), .val (.int (0 : Int32)), .val (.int (1 : Int32))] [(.int (0 : Int32)), (.ref wa), (.int (1 : Int32))])) (fun _ k => XS.iloadN X11.here hx rfl (hb hby d5_129) rfl k) ?_
  obtain ⟨cl12, Ar12, qk12, S12, N12_, Ha12, G12⟩ := id V_wa
  have hin12 : ¬ ((0 : Int32) < 0 ∨ cl12.slots.size ≤ ((0 : Int32)).toNatClampNeg) := inb_of S12 ⟨by decide, by decide⟩
  have hat12 : cl12.slots[((0 : Int32)).toNatClampNeg]? = some (.ref wc) := Ha12.at hin12 rfl
  refine own_go (G := T11.setTop (mkF m 131 #[.val (.ref r0), .val (.int (0 : Int32)), .val (.int (1 : Int32))] [(.ref wc), (.int (1 : Int32))])) (X11.aaload hx (j := (0 : Int32)) (v := (.ref wc)) (by rw [e11]; exact Ar12.1) (State.isArrayOf_alike hZ.alike Ar12.2.1) rfl Ar12.2.2 hin12 hat12 (g := (mkF m 130 #[.val (.ref r0), .val (.int (0 : Int32)), .val (.int (1 : Int32))] [(.int (0 : Int32)), (.ref wa), (.int (1 : Int32))])) rfl rfl (hb hby d5_130)) ?_
  obtain ⟨cl13, Ar13, -, S13, N13_, -, -⟩ := id V_wc
  refine own_go (G := T11.setTop (mkF m 132 #[.val (.ref r0), .val (.int (0 : Int32)), .val (.int (1 : Int32))] [(.int (64 : Int32)), (.int (1 : Int32))])) (fun t k => X11.arraylength hx (by rw [e11]; exact Ar13.1) (State.isArrayOf_alike hZ.alike Ar13.2.1) (g := (mkF m 131 #[.val (.ref r0), .val (.int (0 : Int32)), .val (.int (1 : Int32))] [(.ref wc), (.int (1 : Int32))])) rfl rfl (hb hby d5_131) t (by rw [len_of S13 N13_]; exact k)) ?_
  refine own_go (G := T11.setTop (mkF m 153 #[.val (.ref r0), .val (.int (0 : Int32)), .val (.int (1 : Int32))] [])) (fun _ k => XS.icmpYes X11.here hx rfl (pc0 := 132) (pc' := 153) rfl (hb hby d5_132) rfl (feq (by decide : ¬ ((1 : Int32) = (64 : Int32)))).2 (by decide) (by decide) k) ?_
  exact own_retV X11 hx Bd.returns (hb hby d5_153) Bd.notSynchronized (by decide) (by decide) ⟨rfl, N0, e11⟩
theorem ef_mrW2 (m : MethodId) (r0 : Addr) : entryFrame m #[(.ref r0), (.int (0 : Int32)), (.int (2 : Int32))] 3 = mkF m 0 #[.val (.ref r0), .val (.int (0 : Int32)), .val (.int (2 : Int32))] [] := by first | (simp [entryFrame, mkF, argsToLocals, Value.category]; done) | rfl
set_option maxRecDepth 65536 in
set_option maxHeartbeats 40000000 in
theorem mrW2 (l : Launch) (Z : State) (a0 : Array Value) (hw : ∀ d ∈ tables_1, d.before a0 Z = true) (ws : List Jvm.Cond) (r0 : Addr) (x0 : Int32) (x1 : Int32) (x2 : Int32) (wc : Addr) (h0 : Heap) (n0 : Nat) (Z0 : n0 ≤ h0.size) (G : own_W Z h0 n0 r0 (2 : Int32) x0 x1 x2 wc) :
    MetFree l (⟨"com/example/xrefloom/xrefloom/tree/CompactText", "makeRoom", "(II)V"⟩ : MethodName) (head1 (Jvm.Cond.code (⟨"com/example/xrefloom/xrefloom/tree/CompactText", "makeRoom", "(II)V"⟩ : MethodName) prog_30_method_9_code 3 none :: ws) ({ frames := 0, cells := 0, slots := 0, locals := 0 } : Room)) (fun a U => a = #[(.ref r0), (.int (0 : Int32)), (.int (2 : Int32))] ∧ Z.Warmed39 U.vm ∧ U.heap = h0) (fun _ _ _ _ _ => True) (fun _ U o U' => ∃ v L, o = .returned v ∧ (own_SameV h0 n0) v U'.heap L ∧ FrameEnd U o U' L 0 0) := by
  refine MetFree.of_bodySF (plainFor_of_name pn5) hisR ?_
  intro p e s m args below meth c s₁ Bd hml0 hP hK
  obtain ⟨rfl, hZ, hh⟩ := hP
  have hx := Bd.exec
  have hby := Bd.bytes
  have hml : c.maxLocals = 3 := hml0
  have hown : s.vm.findClass "com/example/xrefloom/xrefloom/tree/CompactText" = some m.cls := findClass_of_methodNamed Bd.named
  have hnm := (name_of_methodNamed Bd.named Bd.method).1
  have X0 : Stand p l e ({ frames := 0, cells := 0, slots := 0, locals := 0 } : Room) s m #[(.ref r0), (.int (0 : Int32)), (.int (2 : Int32))] below meth c s₁ [] 0 0 := Stand.of_body Bd
  have e0 : s₁.heap = h0 := by rw [← hh, Bd.state]; rfl
  have N0 := Fr.nil n0
  obtain ⟨gn_r0, E_r0, F_length, na, wa, kn, kw, kb, gn_na, gn_wa, gn_wc, ne_r0_na, ne_r0_wa, ne_r0_wc, ne_na_wa, ne_na_wc, ne_wa_wc, F_narrow, F_wide, Ov, V_na, V_wa, V_wc⟩ := G
  show own_Goes p e below (own_End s (own_SameV h0 n0) 0 0) _
  refine own_go (G := s₁.setTop (mkF m 0 #[.val (.ref r0), .val (.int (0 : Int32)), .val (.int (2 : Int32))] [])) (fun t k => castTop (ef_mrW2 m r0) k) ?_
  refine own_go (G := s₁.setTop (mkF m 1 #[.val (.ref r0), .val (.int (0 : Int32)), .val (.int (2 : Int32))] [(.int (0 : Int32))])) (fun _ k => XS.iloadN X0.here hx rfl (hb hby d5_0) rfl k) ?_
  refine own_go (G := s₁.setTop (mkF m 2 #[.val (.ref r0), .val (.int (0 : Int32)), .val (.int (2 : Int32))] [(.ref r0), (.int (0 : Int32))])) (fun _ k => XS.aloadN X0.here hx rfl (hb hby d5_1) rfl rfl k) ?_
  obtain ⟨T1, X1, e1, st1⟩ := getF X0 hx hZ hown (host := "") (Or.inl (hw _ (List.mem_of_getElem? (i := 18) rfl))) Via.refl e0 F_narrow (g := (mkF m 2 #[.val (.ref r0), .val (.int (0 : Int32)), .val (.int (2 : Int32))] [(.ref r0), (.int (0 : Int32))])) rfl rfl (hb hby d5_2)
  refine own_go (G := T1.setTop (mkF m 5 #[.val (.ref r0), .val (.int (0 : Int32)), .val (.int (2 : Int32))] [(.ref na), (.int (0 : Int32))])) (st1) ?_
  obtain ⟨cl2, Ar2, -, S2, N2_, -, -⟩ := id V_na
  refine own_go (G := T1.setTop (mkF m 6 #[.val (.ref r0), .val (.int (0 : Int32)), .val (.int (2 : Int32))] [(.int (1 : Int32)), (.int (0 : Int32))])) (fun t k => X1.arraylength hx (by rw [e1]; exact Ar2.1) (State.isArrayOf_alike hZ.alike Ar2.2.1) (g := (mkF m 5 #[.val (.ref r0), .val (.int (0 : Int32)), .val (.int (2 : Int32))] [(.ref na), (.int (0 : Int32))])) rfl rfl (hb hby d5_5) t (by rw [len_of S2 N2_]; exact k)) ?_
  refine own_go (G := T1.setTop (mkF m 43 #[.val (.ref r0), .val (.int (0 : Int32)), .val (.int (2 : Int32))] [])) (fun _ k => XS.icmpYes X1.here hx rfl (pc0 := 6) (pc' := 43) rfl (hb hby d5_6) rfl (feq (by decide : ¬ ((0 : Int32) = (1 : Int32)))).2 (by decide) (by decide) k) ?_
  refine own_go (G := T1.setTop (mkF m 44 #[.val (.ref r0), .val (.int (0 : Int32)), .val (.int (2 : Int32))] [(.ref r0)])) (fun _ k => XS.aloadN X1.here hx rfl (hb hby d5_43) rfl rfl k) ?_
  obtain ⟨T3, X3, e3, st3⟩ := getF X1 hx hZ hown (host := "") (Or.inl (hw _ (List.mem_of_getElem? (i := 18) rfl))) Via.refl e1 F_narrow (g := (mkF m 44 #[.val (.ref r0), .val (.int (0 : Int32)), .val (.int (2 : Int32))] [(.ref r0)])) rfl rfl (hb hby d5_44)
  refine own_go (G := T3.setTop (mkF m 47 #[.val (.ref r0), .val (.int (0 : Int32)), .val (.int (2 : Int32))] [(.ref na)])) (st3) ?_
  refine own_go (G := T3.setTop (mkF m 48 #[.val (.ref r0), .val (.int (0 : Int32)), .val (.int (2 : Int32))] [(.int (0 : Int32)), (.ref na)])) (fun _ k => XS.iloadN X3.here hx rfl (hb hby d5_47) rfl k) ?_
  obtain ⟨cl4, Ar4, qk4, S4, N4_, Ha4, G4⟩ := id V_na
  have hin4 : ¬ ((0 : Int32) < 0 ∨ cl4.slots.size ≤ ((0 : Int32)).toNatClampNeg) := inb_of S4 ⟨by decide, by decide⟩
  have hat4 : cl4.slots[((0 : Int32)).toNatClampNeg]? = some .null := Ha4.at hin4 rfl
  refine own_go (G := T3.setTop (mkF m 49 #[.val (.ref r0), .val (.int (0 : Int32)), .val (.int (2 : Int32))] [.null])) (X3.aaload hx (j := (0 : Int32)) (v := .null) (by rw [e3]; exact Ar4.1) (State.isArrayOf_alike hZ.alike Ar4.2.1) rfl Ar4.2.2 hin4 hat4 (g := (mkF m 48 #[.val (.ref r0), .val (.int (0 : Int32)), .val (.int (2 : Int32))] [(.int (0 : Int32)), (.ref na)])) rfl rfl (hb hby d5_48)) ?_
  refine own_go (G := T3.setTop (mkF m 52 #[.val (.ref r0), .val (.int (0 : Int32)), .val (.int (2 : Int32))] [])) (fun _ k => XS.ifnonnullNo X3.here hx rfl (hb hby d5_49) rfl k) ?_
  refine own_go (G := T3.setTop (mkF m 53 #[.val (.ref r0), .val (.int (0 : Int32)), .val (.int (2 : Int32))] [(.ref r0)])) (fun _ k => XS.aloadN X3.here hx rfl (hb hby d5_52) rfl rfl k) ?_
  obtain ⟨T5, X5, e5, st5⟩ := getF X3 hx hZ hown (host := "") (Or.inl (hw _ (List.mem_of_getElem? (i := 22) rfl))) Via.refl e3 F_wide (g := (mkF m 53 #[.val (.ref r0), .val (.int (0 : Int32)), .val (.int (2 : Int32))] [(.ref r0)])) rfl rfl (hb hby d5_53)
  refine own_go (G := T5.setTop (mkF m 56 #[.val (.ref r0), .val (.int (0 : Int32)), .val (.int (2 : Int32))] [(.ref wa)])) (st5) ?_
  refine own_go (G := T5.setTop (mkF m 57 #[.val (.ref r0), .val (.int (0 : Int32)), .val (.int (2 : Int32))] [(.int (0 : Int32)), (.ref wa)])) (fun _ k => XS.iloadN X5.here hx rfl (hb hby d5_56) rfl k) ?_
  obtain ⟨cl6, Ar6, qk6, S6, N6_, Ha6, G6⟩ := id V_wa
  have hin6 : ¬ ((0 : Int32) < 0 ∨ cl6.slots.size ≤ ((0 : Int32)).toNatClampNeg) := inb_of S6 ⟨by decide, by decide⟩
  have hat6 : cl6.slots[((0 : Int32)).toNatClampNeg]? = some (.ref wc) := Ha6.at hin6 rfl
  refine own_go (G := T5.setTop (mkF m 58 #[.val (.ref r0), .val (.int (0 : Int32)), .val (.int (2 : Int32))] [(.ref wc)])) (X5.aaload hx (j := (0 : Int32)) (v := (.ref wc)) (by rw [e5]; exact Ar6.1) (State.isArrayOf_alike hZ.alike Ar6.2.1) rfl Ar6.2.2 hin6 hat6 (g := (mkF m 57 #[.val (.ref r0), .val (.int (0 : Int32)), .val (.int (2 : Int32))] [(.int (0 : Int32)), (.ref wa)])) rfl rfl (hb hby d5_57)) ?_
  refine own_go (G := T5.setTop (mkF m 74 #[.val (.ref r0), .val (.int (0 : Int32)), .val (.int (2 : Int32))] [])) (fun _ k => XS.ifnonnullYes X5.here hx rfl (pc0 := 58) (pc' := 74) rfl (hb hby d5_58) rfl (by decide) (by decide) k) ?_
  refine own_go (G := T5.setTop (mkF m 75 #[.val (.ref r0), .val (.int (0 : Int32)), .val (.int (2 : Int32))] [(.ref r0)])) (fun _ k => XS.aloadN X5.here hx rfl (hb hby d5_74) rfl rfl k) ?_
  obtain ⟨T7, X7, e7, st7⟩ := getF X5 hx hZ hown (host := "") (Or.inl (hw _ (List.mem_of_getElem? (i := 18) rfl))) Via.refl e5 F_narrow (g := (mkF m 75 #[.val (.ref r0), .val (.int (0 : Int32)), .val (.int (2 : Int32))] [(.ref r0)])) rfl rfl (hb hby d5_75)
  refine own_go (G := T7.setTop (mkF m 78 #[.val (.ref r0), .val (.int (0 : Int32)), .val (.int (2 : Int32))] [(.ref na)])) (st7) ?_
  refine own_go (G := T7.setTop (mkF m 79 #[.val (.ref r0), .val (.int (0 : Int32)), .val (.int (2 : Int32))] [(.int (0 : Int32)), (.ref na)])) (fun _ k => XS.iloadN X7.here hx rfl (hb hby d5_78) rfl k) ?_
  obtain ⟨cl8, Ar8, qk8, S8, N8_, Ha8, G8⟩ := id V_na
  have hin8 : ¬ ((0 : Int32) < 0 ∨ cl8.slots.size ≤ ((0 : Int32)).toNatClampNeg) := inb_of S8 ⟨by decide, by decide⟩
  have hat8 : cl8.slots[((0 : Int32)).toNatClampNeg]? = some .null := Ha8.at hin8 rfl
  refine own_go (G := T7.setTop (mkF m 80 #[.val (.ref r0), .val (.int (0 : Int32)), .val (.int (2 : Int32))] [.null])) (X7.aaload hx (j := (0 : Int32)) (v := .null) (by rw [e7]; exact Ar8.1) (State.isArrayOf_alike hZ.alike Ar8.2.1) rfl Ar8.2.2 hin8 hat8 (g := (mkF m 79 #[.val (.ref r0), .val (.int (0 : Int32)), .val (.int (2 : Int32))] [(.int (0 : Int32)), (.ref na)])) rfl rfl (hb hby d5_79)) ?_
  refine own_go (G := T7.setTop (mkF m 115 #[.val (.ref r0), .val (.int (0 : Int32)), .val (.int (2 : Int32))] [])) (fun _ k => XS.ifnullYes X7.here hx rfl (pc0 := 80) (pc' := 115) rfl (hb hby d5_80) rfl (by decide) (by decide) k) ?_
  refine own_go (G := T7.setTop (mkF m 116 #[.val (.ref r0), .val (.int (0 : Int32)), .val (.int (2 : Int32))] [(.ref r0)])) (fun _ k => XS.aloadN X7.here hx rfl (hb hby d5_115) rfl rfl k) ?_
  obtain ⟨T9, X9, e9, st9⟩ := getF X7 hx hZ hown (host := "") (Or.inl (hw _ (List.mem_of_getElem? (i := 22) rfl))) Via.refl e7 F_wide (g := (mkF m 116 #[.val (.ref r0), .val (.int (0 : Int32)), .val (.int (2 : Int32))] [(.ref r0)])) rfl rfl (hb hby d5_116)
  refine own_go (G := T9.setTop (mkF m 119 #[.val (.ref r0), .val (.int (0 : Int32)), .val (.int (2 : Int32))] [(.ref wa)])) (st9) ?_
  refine own_go (G := T9.setTop (mkF m 120 #[.val (.ref r0), .val (.int (0 : Int32)), .val (.int (2 : Int32))] [(.int (0 : Int32)), (.ref wa)])) (fun _ k => XS.iloadN X9.here hx rfl (hb hby d5_119) rfl k) ?_
  obtain ⟨cl10, Ar10, qk10, S10, N10_, Ha10, G10⟩ := id V_wa
  have hin10 : ¬ ((0 : Int32) < 0 ∨ cl10.slots.size ≤ ((0 : Int32)).toNatClampNeg) := inb_of S10 ⟨by decide, by decide⟩
  have hat10 : cl10.slots[((0 : Int32)).toNatClampNeg]? = some (.ref wc) := Ha10.at hin10 rfl
  refine own_go (G := T9.setTop (mkF m 121 #[.val (.ref r0), .val (.int (0 : Int32)), .val (.int (2 : Int32))] [(.ref wc)])) (X9.aaload hx (j := (0 : Int32)) (v := (.ref wc)) (by rw [e9]; exact Ar10.1) (State.isArrayOf_alike hZ.alike Ar10.2.1) rfl Ar10.2.2 hin10 hat10 (g := (mkF m 120 #[.val (.ref r0), .val (.int (0 : Int32)), .val (.int (2 : Int32))] [(.int (0 : Int32)), (.ref wa)])) rfl rfl (hb hby d5_120)) ?_
  refine own_go (G := T9.setTop (mkF m 124 #[.val (.ref r0), .val (.int (0 : Int32)), .val (.int (2 : Int32))] [])) (fun _ k => XS.ifnullNo X9.here hx rfl (hb hby d5_121) rfl k) ?_
  refine own_go (G := T9.setTop (mkF m 125 #[.val (.ref r0), .val (.int (0 : Int32)), .val (.int (2 : Int32))] [(.int (2 : Int32))])) (fun _ k => XS.iloadN X9.here hx rfl (hb hby d5_124) rfl k) ?_
  refine own_go (G := T9.setTop (mkF m 126 #[.val (.ref r0), .val (.int (0 : Int32)), .val (.int (2 : Int32))] [(.ref r0), (.int (2 : Int32))])) (fun _ k => XS.aloadN X9.here hx rfl (hb hby d5_125) rfl rfl k) ?_
  obtain ⟨T11, X11, e11, st11⟩ := getF X9 hx hZ hown (host := "") (Or.inl (hw _ (List.mem_of_getElem? (i := 22) rfl))) Via.refl e9 F_wide (g := (mkF m 126 #[.val (.ref r0), .val (.int (0 : Int32)), .val (.int (2 : Int32))] [(.ref r0), (.int (2 : Int32))])) rfl rfl (hb hby d5_126)
  refine own_go (G := T11.setTop (mkF m 129 #[.val (.ref r0), .val (.int (0 : Int32)), .val (.int (2 : Int32))] [(.ref wa), (.int (2 : Int32))])) (st11) ?_
  refine own_go (G := T11.setTop (mkF m 130 #[.val (.ref r0), .val (.int (0 : Int32)), .val (.int (2 : Int32))] [(.int (0 : Int32)), (.ref wa), (.int (2 : Int32))])) (fun _ k => XS.iloadN X11.here hx rfl (hb hby d5_129) rfl k) ?_
  obtain ⟨cl12, Ar12, qk12, S12, N12_, Ha12, G12⟩ := id V_wa
  have hin12 : ¬ ((0 : Int32) < 0 ∨ cl12.slots.size ≤ ((0 : Int32)).toNatClampNeg) := inb_of S12 ⟨by decide, by decide⟩
  have hat12 : cl12.slots[((0 : Int32)).toNatClampNeg]? = some (.ref wc) := Ha12.at hin12 rfl
  refine own_go (G := T11.setTop (mkF m 131 #[.val (.ref r0), .val (.int (0 : Int32)), .val (.int (2 : Int32))] [(.ref wc), (.int (2 : Int32))])) (X11.aaload hx (j := (0 : Int32)) (v := (.ref wc)) (by rw [e11]; exact Ar12.1) (State.isArrayOf_alike hZ.alike Ar12.2.1) rfl Ar12.2.2 hin12 hat12 (g := (mkF m 130 #[.val (.ref r0), .val (.int (0 : Int32)), .val (.int (2 : Int32))] [(.int (0 : Int32)), (.ref wa), (.int (2 : Int32))])) rfl rfl (hb hby d5_130)) ?_
  obtain ⟨cl13, Ar13, -, S13, N13_, -, -⟩ := id V_wc
  refine own_go (G := T11.setTop (mkF m 132 #[.val (.ref r0), .val (.int (0 : Int32)), .val (.int (2 : Int32))] [(.int (64 : Int32)), (.int (2 : Int32))])) (fun t k => X11.arraylength hx (by rw [e11]; exact Ar13.1) (State.isArrayOf_alike hZ.alike Ar13.2.1) (g := (mkF m 131 #[.val (.ref r0), .val (.int (0 : Int32)), .val (.int (2 : Int32))] [(.ref wc), (.int (2 : Int32))])) rfl rfl (hb hby d5_131) t (by rw [len_of S13 N13_]; exact k)) ?_
  refine own_go (G := T11.setTop (mkF m 153 #[.val (.ref r0), .val (.int (0 : Int32)), .val (.int (2 : Int32))] [])) (fun _ k => XS.icmpYes X11.here hx rfl (pc0 := 132) (pc' := 153) rfl (hb hby d5_132) rfl (feq (by decide : ¬ ((2 : Int32) = (64 : Int32)))).2 (by decide) (by decide) k) ?_
  exact own_retV X11 hx Bd.returns (hb hby d5_153) Bd.notSynchronized (by decide) (by decide) ⟨rfl, N0, e11⟩
theorem d7_0 : decode prog_30_method_10_code 0 = .ok (.aload_n 0, 1) := by decide +kernel
theorem d7_1 : decode prog_30_method_10_code 1 = .ok (.getfield 11, 3) := by decide +kernel
theorem d7_4 : decode prog_30_method_10_code 4 = .ok (.iload_n 1, 1) := by decide +kernel
theorem d7_5 : decode prog_30_method_10_code 5 = .ok (.aaload, 1) := by decide +kernel
theorem d7_6 : decode prog_30_method_10_code 6 = .ok (.astore_n 2, 1) := by decide +kernel
theorem d7_7 : decode prog_30_method_10_code 7 = .ok (.aload_n 2, 1) := by decide +kernel
theorem d7_8 : decode prog_30_method_10_code 8 = .ok (.ifnull 51, 3) := by decide +kernel
theorem d7_11 : decode prog_30_method_10_code 11 = .ok (.aload_n 2, 1) := by decide +kernel
theorem d7_12 : decode prog_30_method_10_code 12 = .ok (.arraylength, 1) := by decide +kernel
theorem d7_13 : decode prog_30_method_10_code 13 = .ok (.newarray .char, 2) := by decide +kernel
theorem d7_15 : decode prog_30_method_10_code 15 = .ok (.astore_n 3, 1) := by decide +kernel
theorem d7_16 : decode prog_30_method_10_code 16 = .ok (.iconst 0, 1) := by decide +kernel
theorem d7_17 : decode prog_30_method_10_code 17 = .ok (.istore 4, 2) := by decide +kernel
theorem d7_19 : decode prog_30_method_10_code 19 = .ok (.iload 4, 2) := by decide +kernel
theorem d7_21 : decode prog_30_method_10_code 21 = .ok (.aload_n 2, 1) := by decide +kernel
theorem d7_22 : decode prog_30_method_10_code 22 = .ok (.arraylength, 1) := by decide +kernel
theorem d7_23 : decode prog_30_method_10_code 23 = .ok (.if_icmp .ge 22, 3) := by decide +kernel
theorem d7_26 : decode prog_30_method_10_code 26 = .ok (.aload_n 3, 1) := by decide +kernel
theorem d7_27 : decode prog_30_method_10_code 27 = .ok (.iload 4, 2) := by decide +kernel
theorem d7_29 : decode prog_30_method_10_code 29 = .ok (.aload_n 2, 1) := by decide +kernel
theorem d7_30 : decode prog_30_method_10_code 30 = .ok (.iload 4, 2) := by decide +kernel
theorem d7_32 : decode prog_30_method_10_code 32 = .ok (.baload, 1) := by decide +kernel
theorem d7_33 : decode prog_30_method_10_code 33 = .ok (.sipush 255, 3) := by decide +kernel
theorem d7_36 : decode prog_30_method_10_code 36 = .ok (.iand, 1) := by decide +kernel
theorem d7_37 : decode prog_30_method_10_code 37 = .ok (.i2c, 1) := by decide +kernel
theorem d7_38 : decode prog_30_method_10_code 38 = .ok (.castore, 1) := by decide +kernel
theorem d7_39 : decode prog_30_method_10_code 39 = .ok (.iinc 4 1, 3) := by decide +kernel
theorem d7_42 : decode prog_30_method_10_code 42 = .ok (.goto (-23), 3) := by decide +kernel
theorem d7_45 : decode prog_30_method_10_code 45 = .ok (.aload_n 0, 1) := by decide +kernel
theorem d7_46 : decode prog_30_method_10_code 46 = .ok (.getfield 17, 3) := by decide +kernel
theorem d7_49 : decode prog_30_method_10_code 49 = .ok (.iload_n 1, 1) := by decide +kernel
theorem d7_50 : decode prog_30_method_10_code 50 = .ok (.aload_n 3, 1) := by decide +kernel
theorem d7_51 : decode prog_30_method_10_code 51 = .ok (.aastore, 1) := by decide +kernel
theorem d7_52 : decode prog_30_method_10_code 52 = .ok (.aload_n 0, 1) := by decide +kernel
theorem d7_53 : decode prog_30_method_10_code 53 = .ok (.getfield 11, 3) := by decide +kernel
theorem d7_56 : decode prog_30_method_10_code 56 = .ok (.iload_n 1, 1) := by decide +kernel
theorem d7_57 : decode prog_30_method_10_code 57 = .ok (.aconst_null, 1) := by decide +kernel
theorem d7_58 : decode prog_30_method_10_code 58 = .ok (.aastore, 1) := by decide +kernel
theorem d7_59 : decode prog_30_method_10_code 59 = .ok (.aload_n 0, 1) := by decide +kernel
theorem d7_60 : decode prog_30_method_10_code 60 = .ok (.getfield 17, 3) := by decide +kernel
theorem d7_63 : decode prog_30_method_10_code 63 = .ok (.iload_n 1, 1) := by decide +kernel
theorem d7_64 : decode prog_30_method_10_code 64 = .ok (.aaload, 1) := by decide +kernel
theorem d7_65 : decode prog_30_method_10_code 65 = .ok (.areturn, 1) := by decide +kernel
theorem pn7 : plainName "com/example/xrefloom/xrefloom/tree/CompactText" = true := by first | (simp [plainName, overriddenIn]; done) | decide +kernel
theorem ef_wdN (m : MethodId) (r0 : Addr) : entryFrame m #[(.ref r0), (.int (0 : Int32))] 5 = mkF m 0 #[.val (.ref r0), .val (.int (0 : Int32)), .unset, .unset, .unset] [] := by first | (simp [entryFrame, mkF, argsToLocals, Value.category]; done) | rfl
set_option maxRecDepth 65536 in
set_option maxHeartbeats 40000000 in
theorem wdN (l : Launch) (Z : State) (a0 : Array Value) (hw : ∀ d ∈ tables_1, d.before a0 Z = true) (ws : List Jvm.Cond) (r0 : Addr) (len : Int32) (x0 : Int32) (x1 : Int32) (x2 : Int32) (nb : Addr) (h0 : Heap) (n0 : Nat) (Z0 : n0 ≤ h0.size) (G : own_N Z h0 n0 r0 len x0 x1 x2 nb) :
    MetFree l (⟨"com/example/xrefloom/xrefloom/tree/CompactText", "widen", "(I)[C"⟩ : MethodName) (head1 (Jvm.Cond.code (⟨"com/example/xrefloom/xrefloom/tree/CompactText", "widen", "(I)[C"⟩ : MethodName) prog_30_method_10_code 5 (some (.array .char)) :: ws) ({ frames := 0, cells := 1, slots := 64, locals := 0 } : Room)) (fun a U => a = #[(.ref r0), (.int (0 : Int32))] ∧ Z.Warmed39 U.vm ∧ U.heap = h0) (fun _ _ _ _ _ => True) (fun _ U o U' => ∃ v L, o = .returned v ∧ (own_QR (fun h a => own_W Z h n0 r0 len (nar .char ((x0 &&& (255 : Int32)).toUInt32.toUInt16.toUInt32.toInt32)) (nar .char ((x1 &&& (255 : Int32)).toUInt32.toUInt16.toUInt32.toInt32)) (nar .char ((x2 &&& (255 : Int32)).toUInt32.toUInt16.toUInt32.toInt32)) a) n0) v U'.heap L ∧ FrameEnd U o U' L 1 64) := by
  refine MetFree.of_bodySF (plainFor_of_name pn7) hisR ?_
  intro p e s m args below meth c s₁ Bd hml0 hP hK
  obtain ⟨rfl, hZ, hh⟩ := hP
  have hx := Bd.exec
  have hby := Bd.bytes
  have hml : c.maxLocals = 5 := hml0
  have hown : s.vm.findClass "com/example/xrefloom/xrefloom/tree/CompactText" = some m.cls := findClass_of_methodNamed Bd.named
  have hnm := (name_of_methodNamed Bd.named Bd.method).1
  have X0 : Stand p l e ({ frames := 0, cells := 1, slots := 64, locals := 0 } : Room) s m #[(.ref r0), (.int (0 : Int32))] below meth c s₁ [] 0 0 := Stand.of_body Bd
  have e0 : s₁.heap = h0 := by rw [← hh, Bd.state]; rfl
  have N0 := Fr.nil n0
  obtain ⟨gn_r0, E_r0, F_length, na, wa, kn, kw, kb, gn_na, gn_wa, gn_nb, ne_r0_na, ne_r0_wa, ne_r0_nb, ne_na_wa, ne_na_nb, ne_wa_nb, F_narrow, F_wide, Ov, V_na, V_wa, V_nb⟩ := G
  show own_Goes p e below (own_End s (own_QR (fun h a => own_W Z h n0 r0 len (nar .char ((x0 &&& (255 : Int32)).toUInt32.toUInt16.toUInt32.toInt32)) (nar .char ((x1 &&& (255 : Int32)).toUInt32.toUInt16.toUInt32.toInt32)) (nar .char ((x2 &&& (255 : Int32)).toUInt32.toUInt16.toUInt32.toInt32)) a) n0) 1 64) _
  refine own_go (G := s₁.setTop (mkF m 0 #[.val (.ref r0), .val (.int (0 : Int32)), .unset, .unset, .unset] [])) (fun t k => castTop (ef_wdN m r0) k) ?_
  refine own_go (G := s₁.setTop (mkF m 1 #[.val (.ref r0), .val (.int (0 : Int32)), .unset, .unset, .unset] [(.ref r0)])) (fun _ k => XS.aloadN X0.here hx rfl (hb hby d7_0) rfl rfl k) ?_
  obtain ⟨T1, X1, e1, st1⟩ := getF X0 hx hZ hown (host := "") (Or.inl (hw _ (List.mem_of_getElem? (i := 18) rfl))) Via.refl e0 F_narrow (g := (mkF m 1 #[.val (.ref r0), .val (.int (0 : Int32)), .unset, .unset, .unset] [(.ref r0)])) rfl rfl (hb hby d7_1)
  refine own_go (G := T1.setTop (mkF m 4 #[.val (.ref r0), .val (.int (0 : Int32)), .unset, .unset, .unset] [(.ref na)])) (st1) ?_
  refine own_go (G := T1.setTop (mkF m 5 #[.val (.ref r0), .val (.int (0 : Int32)), .unset, .unset, .unset] [(.int (0 : Int32)), (.ref na)])) (fun _ k => XS.iloadN X1.here hx rfl (hb hby d7_4) rfl k) ?_
  obtain ⟨cl2, Ar2, qk2, S2, N2_, Ha2, G2⟩ := id V_na
  have hin2 : ¬ ((0 : Int32) < 0 ∨ cl2.slots.size ≤ ((0 : Int32)).toNatClampNeg) := inb_of S2 ⟨by decide, by decide⟩
  have hat2 : cl2.slots[((0 : Int32)).toNatClampNeg]? = some (.ref nb) := Ha2.at hin2 rfl
  refine own_go (G := T1.setTop (mkF m 6 #[.val (.ref r0), .val (.int (0 : Int32)), .unset, .unset, .unset] [(.ref nb)])) (X1.aaload hx (j := (0 : Int32)) (v := (.ref nb)) (by rw [e1]; exact Ar2.1) (State.isArrayOf_alike hZ.alike Ar2.2.1) rfl Ar2.2.2 hin2 hat2 (g := (mkF m 5 #[.val (.ref r0), .val (.int (0 : Int32)), .unset, .unset, .unset] [(.int (0 : Int32)), (.ref na)])) rfl rfl (hb hby d7_5)) ?_
  refine own_go (G := T1.setTop (mkF m 7 #[.val (.ref r0), .val (.int (0 : Int32)), .val (.ref nb), .unset, .unset] [])) (fun _ k => XS.astoreN X1.here hx rfl (hb hby d7_6) rfl rfl (l' := #[.val (.ref r0), .val (.int (0 : Int32)), .val (.ref nb), .unset, .unset]) rfl k) ?_
  refine own_go (G := T1.setTop (mkF m 8 #[.val (.ref r0), .val (.int (0 : Int32)), .val (.ref nb), .unset, .unset] [(.ref nb)])) (fun _ k => XS.aloadN X1.here hx rfl (hb hby d7_7) rfl rfl k) ?_
  refine own_go (G := T1.setTop (mkF m 11 #[.val (.ref r0), .val (.int (0 : Int32)), .val (.ref nb), .unset, .unset] [])) (fun _ k => XS.ifnullNo X1.here hx rfl (hb hby d7_8) rfl k) ?_
  refine own_go (G := T1.setTop (mkF m 12 #[.val (.ref r0), .val (.int (0 : Int32)), .val (.ref nb), .unset, .unset] [(.ref nb)])) (fun _ k => XS.aloadN X1.here hx rfl (hb hby d7_11) rfl rfl k) ?_
  obtain ⟨cl3, Ar3, -, S3, N3_, -, -⟩ := id V_nb
  refine own_go (G := T1.setTop (mkF m 13 #[.val (.ref r0), .val (.int (0 : Int32)), .val (.ref nb), .unset, .unset] [(.int (64 : Int32))])) (fun t k => X1.arraylength hx (by rw [e1]; exact Ar3.1) (State.isArrayOf_alike hZ.alike Ar3.2.1) (g := (mkF m 12 #[.val (.ref r0), .val (.int (0 : Int32)), .val (.ref nb), .unset, .unset] [(.ref nb)])) rfl rfl (hb hby d7_12) t (by rw [len_of S3 N3_]; exact k)) ?_
  obtain ⟨T4, h4, k4, X4, e4, E4, A4, Ea4, st4⟩ := newPE X1 hx hZ (hw _ (List.mem_of_getElem? (i := 45) rfl)) e1 (g := (mkF m 13 #[.val (.ref r0), .val (.int (0 : Int32)), .val (.ref nb), .unset, .unset] [(.int (64 : Int32))])) rfl (hb hby d7_13) rfl (by decide) (cap := 64) (by decide) (by decide) (by decide) (by decide) (by decide : "[" ++ (newarray.typeOf .char).toString = "[C")
  obtain ⟨b4, g4⟩ : ∃ z, z = h0.size := ⟨_, rfl⟩
  rw [← g4] at A4 Ea4 st4
  have gn_b4 : n0 ≤ b4 := Nat.le_trans Z0 (Nat.le_of_eq g4.symm)
  have ne_r0_b4 : r0 ≠ b4 := Nat.ne_of_lt (Nat.lt_of_lt_of_le E_r0.lt (Nat.le_of_eq g4.symm))
  have ne_na_b4 : na ≠ b4 := Nat.ne_of_lt (Nat.lt_of_lt_of_le V_na.lt (Nat.le_of_eq g4.symm))
  have ne_wa_b4 : wa ≠ b4 := Nat.ne_of_lt (Nat.lt_of_lt_of_le V_wa.lt (Nat.le_of_eq g4.symm))
  have ne_nb_b4 : nb ≠ b4 := Nat.ne_of_lt (Nat.lt_of_lt_of_le V_nb.lt (Nat.le_of_eq g4.symm))
  have E_r0_c4 : Exa Z h4 r0 "com/example/xrefloom/xrefloom/tree/CompactText" := E_r0.ext E4
  have F_length_c4 : Fld Z h4 r0 "com/example/xrefloom/xrefloom/tree/CompactText" "length" "I" (.int len) := F_length.ext E4
  have F_narrow_c4 : Fld Z h4 r0 "com/example/xrefloom/xrefloom/tree/CompactText" "narrow" "[[B" (.ref na) := F_narrow.ext E4
  have F_wide_c4 : Fld Z h4 r0 "com/example/xrefloom/xrefloom/tree/CompactText" "wide" "[[C" (.ref wa) := F_wide.ext E4
  have V_na_c4 : Arv Z h4 na kn (.array .byte) (1 : Int32) [(.ref nb)] .null := V_na.ext E4
  have V_wa_c4 : Arv Z h4 wa kw (.array .char) (1 : Int32) [.null] .null := V_wa.ext E4
  have V_nb_c4 : Arv Z h4 nb kb .byte (64 : Int32) (own_B x0 x1 x2) (.int (0 : Int32)) := V_nb.ext E4
  have Z4 : n0 ≤ h4.size := Nat.le_trans Z0 E4.1
  have V_b4 : Arv Z h4 b4 k4 .char (64 : Int32) (own_B (0 : Int32) (0 : Int32) (0 : Int32)) (.int (0 : Int32)) := (Arv.new A4 (by decide)).pad (pad_rep [] (.int (0 : Int32)) 64)
  refine own_go (G := T4.setTop (mkF m 15 #[.val (.ref r0), .val (.int (0 : Int32)), .val (.ref nb), .unset, .unset] [(.ref b4)])) (st4) ?_
  refine own_go (G := T4.setTop (mkF m 16 #[.val (.ref r0), .val (.int (0 : Int32)), .val (.ref nb), .val (.ref b4), .unset] [])) (fun _ k => XS.astoreN X4.here hx rfl (hb hby d7_15) rfl rfl (l' := #[.val (.ref r0), .val (.int (0 : Int32)), .val (.ref nb), .val (.ref b4), .unset]) rfl k) ?_
  refine own_go (G := T4.setTop (mkF m 17 #[.val (.ref r0), .val (.int (0 : Int32)), .val (.ref nb), .val (.ref b4), .unset] [(.int (0 : Int32))])) (fun _ k => XS.iconst X4.here hx rfl (hb hby d7_16) k) ?_
  refine own_go (G := T4.setTop (mkF m 19 #[.val (.ref r0), .val (.int (0 : Int32)), .val (.ref nb), .val (.ref b4), .val (.int (0 : Int32))] [])) (fun _ k => XS.istore X4.here hx rfl (hb hby d7_17) rfl (l' := #[.val (.ref r0), .val (.int (0 : Int32)), .val (.ref nb), .val (.ref b4), .val (.int (0 : Int32))]) rfl k) ?_
  refine own_go (G := T4.setTop (mkF m 21 #[.val (.ref r0), .val (.int (0 : Int32)), .val (.ref nb), .val (.ref b4), .val (.int (0 : Int32))] [(.int (0 : Int32))])) (fun _ k => XS.iload X4.here hx rfl (hb hby d7_19) rfl k) ?_
  refine own_go (G := T4.setTop (mkF m 22 #[.val (.ref r0), .val (.int (0 : Int32)), .val (.ref nb), .val (.ref b4), .val (.int (0 : Int32))] [(.ref nb), (.int (0 : Int32))])) (fun _ k => XS.aloadN X4.here hx rfl (hb hby d7_21) rfl rfl k) ?_
  obtain ⟨cl5, Ar5, -, S5, N5_, -, -⟩ := id V_nb_c4
  refine own_go (G := T4.setTop (mkF m 23 #[.val (.ref r0), .val (.int (0 : Int32)), .val (.ref nb), .val (.ref b4), .val (.int (0 : Int32))] [(.int (64 : Int32)), (.int (0 : Int32))])) (fun t k => X4.arraylength hx (by rw [e4]; exact Ar5.1) (State.isArrayOf_alike hZ.alike Ar5.2.1) (g := (mkF m 22 #[.val (.ref r0), .val (.int (0 : Int32)), .val (.ref nb), .val (.ref b4), .val (.int (0 : Int32))] [(.ref nb), (.int (0 : Int32))])) rfl rfl (hb hby d7_22) t (by rw [len_of S5 N5_]; exact k)) ?_
  refine own_go (G := T4.setTop (mkF m 26 #[.val (.ref r0), .val (.int (0 : Int32)), .val (.ref nb), .val (.ref b4), .val (.int (0 : Int32))] [])) (fun _ k => XS.icmpNo X4.here hx rfl (hb hby d7_23) rfl (tlt (by decide : (0 : Int32) < (64 : Int32))).2.1 k) ?_
  refine own_go (G := T4.setTop (mkF m 27 #[.val (.ref r0), .val (.int (0 : Int32)), .val (.ref nb), .val (.ref b4), .val (.int (0 : Int32))] [(.ref b4)])) (fun _ k => XS.aloadN X4.here hx rfl (hb hby d7_26) rfl rfl k) ?_
  refine own_go (G := T4.setTop (mkF m 29 #[.val (.ref r0), .val (.int (0 : Int32)), .val (.ref nb), .val (.ref b4), .val (.int (0 : Int32))] [(.int (0 : Int32)), (.ref b4)])) (fun _ k => XS.iload X4.here hx rfl (hb hby d7_27) rfl k) ?_
  refine own_go (G := T4.setTop (mkF m 30 #[.val (.ref r0), .val (.int (0 : Int32)), .val (.ref nb), .val (.ref b4), .val (.int (0 : Int32))] [(.ref nb), (.int (0 : Int32)), (.ref b4)])) (fun _ k => XS.aloadN X4.here hx rfl (hb hby d7_29) rfl rfl k) ?_
  refine own_go (G := T4.setTop (mkF m 32 #[.val (.ref r0), .val (.int (0 : Int32)), .val (.ref nb), .val (.ref b4), .val (.int (0 : Int32))] [(.int (0 : Int32)), (.ref nb), (.int (0 : Int32)), (.ref b4)])) (fun _ k => XS.iload X4.here hx rfl (hb hby d7_30) rfl k) ?_
  obtain ⟨cl6, Ar6, qk6, S6, N6_, Ha6, G6⟩ := id V_nb_c4
  have hin6 : ¬ ((0 : Int32) < 0 ∨ cl6.slots.size ≤ ((0 : Int32)).toNatClampNeg) := inb_of S6 ⟨by decide, by decide⟩
  have hat6 : cl6.slots[((0 : Int32)).toNatClampNeg]? = some (.int x0) := Ha6.at hin6 rfl
  refine own_go (G := T4.setTop (mkF m 33 #[.val (.ref r0), .val (.int (0 : Int32)), .val (.ref nb), .val (.ref b4), .val (.int (0 : Int32))] [(.int x0), (.int (0 : Int32)), (.ref b4)])) (X4.baloadBytes hx (j := (0 : Int32)) (v := (.int x0)) (by rw [e4]; exact Ar6.1) (State.isArrayOf_alike hZ.alike Ar6.2.1) Ar6.2.2 hin6 hat6 (g := (mkF m 32 #[.val (.ref r0), .val (.int (0 : Int32)), .val (.ref nb), .val (.ref b4), .val (.int (0 : Int32))] [(.int (0 : Int32)), (.ref nb), (.int (0 : Int32)), (.ref b4)])) rfl rfl (hb hby d7_32)) ?_
  refine own_go (G := T4.setTop (mkF m 36 #[.val (.ref r0), .val (.int (0 : Int32)), .val (.ref nb), .val (.ref b4), .val (.int (0 : Int32))] [(.int (255 : Int32)), (.int x0), (.int (0 : Int32)), (.ref b4)])) (fun _ k => XS.sipush X4.here hx rfl (hb hby d7_33) k) ?_
  refine own_go (G := T4.setTop (mkF m 37 #[.val (.ref r0), .val (.int (0 : Int32)), .val (.ref nb), .val (.ref b4), .val (.int (0 : Int32))] [(.int (x0 &&& (255 : Int32))), (.int (0 : Int32)), (.ref b4)])) (fun _ k => XS.iand X4.here hx rfl (hb hby d7_36) rfl k) ?_
  refine own_go (G := T4.setTop (mkF m 38 #[.val (.ref r0), .val (.int (0 : Int32)), .val (.ref nb), .val (.ref b4), .val (.int (0 : Int32))] [(.int ((x0 &&& (255 : Int32)).toUInt32.toUInt16.toUInt32.toInt32)), (.int (0 : Int32)), (.ref b4)])) (fun _ k => XS.i2c X4.here hx rfl (hb hby d7_37) rfl k) ?_
  obtain ⟨cl7, Ar7, qk7, S7, N7_, Ha7, G7⟩ := id V_b4
  have hin7 : ¬ ((0 : Int32) < 0 ∨ cl7.slots.size ≤ ((0 : Int32)).toNatClampNeg) := inb_of S7 ⟨by decide, by decide⟩
  obtain ⟨T7, h7, X7, e7, W7, st7⟩ := stC X4 hx hZ e4 Ar7 (j := (0 : Int32)) hin7 (g := (mkF m 38 #[.val (.ref r0), .val (.int (0 : Int32)), .val (.ref nb), .val (.ref b4), .val (.int (0 : Int32))] [(.int ((x0 &&& (255 : Int32)).toUInt32.toUInt16.toUInt32.toInt32)), (.int (0 : Int32)), (.ref b4)])) rfl rfl (hb hby d7_38)
  have V7_b4 : Arv Z h7 b4 k4 .char (64 : Int32) (own_B (nar .char ((x0 &&& (255 : Int32)).toUInt32.toUInt16.toUInt32.toInt32)) (0 : Int32) (0 : Int32)) (.int (0 : Int32)) := Arv.set Ar7 qk7 S7 N7_ Ha7 G7 (fits_nar_char _) W7 0 rfl (Nat.le_of_ble_eq_true rfl)
  have E_r0_c7 : Exa Z h7 r0 "com/example/xrefloom/xrefloom/tree/CompactText" := E_r0_c4.wr W7
  have F_length_c7 : Fld Z h7 r0 "com/example/xrefloom/xrefloom/tree/CompactText" "length" "I" (.int len) := F_length_c4.other W7 (Or.inl ne_r0_b4)
  have F_narrow_c7 : Fld Z h7 r0 "com/example/xrefloom/xrefloom/tree/CompactText" "narrow" "[[B" (.ref na) := F_narrow_c4.other W7 (Or.inl ne_r0_b4)
  have F_wide_c7 : Fld Z h7 r0 "com/example/xrefloom/xrefloom/tree/CompactText" "wide" "[[C" (.ref wa) := F_wide_c4.other W7 (Or.inl ne_r0_b4)
  have V_na_c7 : Arv Z h7 na kn (.array .byte) (1 : Int32) [(.ref nb)] .null := V_na_c4.other W7 ne_na_b4
  have V_wa_c7 : Arv Z h7 wa kw (.array .char) (1 : Int32) [.null] .null := V_wa_c4.other W7 ne_wa_b4
  have V_nb_c7 : Arv Z h7 nb kb .byte (64 : Int32) (own_B x0 x1 x2) (.int (0 : Int32)) := V_nb_c4.other W7 ne_nb_b4
  have Ea4_c7 : Exa Z h7 b4 "[C" := Ea4.wr W7
  have N7 := Fr.snoc X7 N0 gn_b4
  have Z7 : n0 ≤ h7.size := Nat.le_trans Z4 (Keep.of_wr W7).1
  refine own_go (G := T7.setTop (mkF m 39 #[.val (.ref r0), .val (.int (0 : Int32)), .val (.ref nb), .val (.ref b4), .val (.int (0 : Int32))] [])) (st7) ?_
  refine own_go (G := T7.setTop (mkF m 42 #[.val (.ref r0), .val (.int (0 : Int32)), .val (.ref nb), .val (.ref b4), .val (.int ((0 : Int32) + (1 : Int32)))] [])) (fun _ k => XS.iinc X7.here hx rfl (hb hby d7_39) rfl (l' := #[.val (.ref r0), .val (.int (0 : Int32)), .val (.ref nb), .val (.ref b4), .val (.int ((0 : Int32) + (1 : Int32)))]) rfl k) ?_
  rw [show ((0 : Int32) + (1 : Int32)) = (1 : Int32) from by decide]
  refine own_go (G := T7.setTop (mkF m 19 #[.val (.ref r0), .val (.int (0 : Int32)), .val (.ref nb), .val (.ref b4), .val (.int (1 : Int32))] [])) (fun _ k => XS.goto X7.here hx rfl (pc0 := 42) (pc' := 19) rfl (hb hby d7_42) (by decide) (by decide) k) ?_
  refine own_go (G := T7.setTop (mkF m 21 #[.val (.ref r0), .val (.int (0 : Int32)), .val (.ref nb), .val (.ref b4), .val (.int (1 : Int32))] [(.int (1 : Int32))])) (fun _ k => XS.iload X7.here hx rfl (hb hby d7_19) rfl k) ?_
  refine own_go (G := T7.setTop (mkF m 22 #[.val (.ref r0), .val (.int (0 : Int32)), .val (.ref nb), .val (.ref b4), .val (.int (1 : Int32))] [(.ref nb), (.int (1 : Int32))])) (fun _ k => XS.aloadN X7.here hx rfl (hb hby d7_21) rfl rfl k) ?_
  obtain ⟨cl8, Ar8, -, S8, N8_, -, -⟩ := id V_nb_c7
  refine own_go (G := T7.setTop (mkF m 23 #[.val (.ref r0), .val (.int (0 : Int32)), .val (.ref nb), .val (.ref b4), .val (.int (1 : Int32))] [(.int (64 : Int32)), (.int (1 : Int32))])) (fun t k => X7.arraylength hx (by rw [e7]; exact Ar8.1) (State.isArrayOf_alike hZ.alike Ar8.2.1) (g := (mkF m 22 #[.val (.ref r0), .val (.int (0 : Int32)), .val (.ref nb), .val (.ref b4), .val (.int (1 : Int32))] [(.ref nb), (.int (1 : Int32))])) rfl rfl (hb hby d7_22) t (by rw [len_of S8 N8_]; exact k)) ?_
  refine own_go (G := T7.setTop (mkF m 26 #[.val (.ref r0), .val (.int (0 : Int32)), .val (.ref nb), .val (.ref b4), .val (.int (1 : Int32))] [])) (fun _ k => XS.icmpNo X7.here hx rfl (hb hby d7_23) rfl (tlt (by decide : (1 : Int32) < (64 : Int32))).2.1 k) ?_
  refine own_go (G := T7.setTop (mkF m 27 #[.val (.ref r0), .val (.int (0 : Int32)), .val (.ref nb), .val (.ref b4), .val (.int (1 : Int32))] [(.ref b4)])) (fun _ k => XS.aloadN X7.here hx rfl (hb hby d7_26) rfl rfl k) ?_
  refine own_go (G := T7.setTop (mkF m 29 #[.val (.ref r0), .val (.int (0 : Int32)), .val (.ref nb), .val (.ref b4), .val (.int (1 : Int32))] [(.int (1 : Int32)), (.ref b4)])) (fun _ k => XS.iload X7.here hx rfl (hb hby d7_27) rfl k) ?_
  refine own_go (G := T7.setTop (mkF m 30 #[.val (.ref r0), .val (.int (0 : Int32)), .val (.ref nb), .val (.ref b4), .val (.int (1 : Int32))] [(.ref nb), (.int (1 : Int32)), (.ref b4)])) (fun _ k => XS.aloadN X7.here hx rfl (hb hby d7_29) rfl rfl k) ?_
  refine own_go (G := T7.setTop (mkF m 32 #[.val (.ref r0), .val (.int (0 : Int32)), .val (.ref nb), .val (.ref b4), .val (.int (1 : Int32))] [(.int (1 : Int32)), (.ref nb), (.int (1 : Int32)), (.ref b4)])) (fun _ k => XS.iload X7.here hx rfl (hb hby d7_30) rfl k) ?_
  obtain ⟨cl9, Ar9, qk9, S9, N9_, Ha9, G9⟩ := id V_nb_c7
  have hin9 : ¬ ((1 : Int32) < 0 ∨ cl9.slots.size ≤ ((1 : Int32)).toNatClampNeg) := inb_of S9 ⟨by decide, by decide⟩
  have hat9 : cl9.slots[((1 : Int32)).toNatClampNeg]? = some (.int x1) := Ha9.at hin9 rfl
  refine own_go (G := T7.setTop (mkF m 33 #[.val (.ref r0), .val (.int (0 : Int32)), .val (.ref nb), .val (.ref b4), .val (.int (1 : Int32))] [(.int x1), (.int (1 : Int32)), (.ref b4)])) (X7.baloadBytes hx (j := (1 : Int32)) (v := (.int x1)) (by rw [e7]; exact Ar9.1) (State.isArrayOf_alike hZ.alike Ar9.2.1) Ar9.2.2 hin9 hat9 (g := (mkF m 32 #[.val (.ref r0), .val (.int (0 : Int32)), .val (.ref nb), .val (.ref b4), .val (.int (1 : Int32))] [(.int (1 : Int32)), (.ref nb), (.int (1 : Int32)), (.ref b4)])) rfl rfl (hb hby d7_32)) ?_
  refine own_go (G := T7.setTop (mkF m 36 #[.val (.ref r0), .val (.int (0 : Int32)), .val (.ref nb), .val (.ref b4), .val (.int (1 : Int32))] [(.int (255 : Int32)), (.int x1), (.int (1 : Int32)), (.ref b4)])) (fun _ k => XS.sipush X7.here hx rfl (hb hby d7_33) k) ?_
  refine own_go (G := T7.setTop (mkF m 37 #[.val (.ref r0), .val (.int (0 : Int32)), .val (.ref nb), .val (.ref b4), .val (.int (1 : Int32))] [(.int (x1 &&& (255 : Int32))), (.int (1 : Int32)), (.ref b4)])) (fun _ k => XS.iand X7.here hx rfl (hb hby d7_36) rfl k) ?_
  refine own_go (G := T7.setTop (mkF m 38 #[.val (.ref r0), .val (.int (0 : Int32)), .val (.ref nb), .val (.ref b4), .val (.int (1 : Int32))] [(.int ((x1 &&& (255 : Int32)).toUInt32.toUInt16.toUInt32.toInt32)), (.int (1 : Int32)), (.ref b4)])) (fun _ k => XS.i2c X7.here hx rfl (hb hby d7_37) rfl k) ?_
  obtain ⟨cl10, Ar10, qk10, S10, N10_, Ha10, G10⟩ := id V7_b4
  have hin10 : ¬ ((1 : Int32) < 0 ∨ cl10.slots.size ≤ ((1 : Int32)).toNatClampNeg) := inb_of S10 ⟨by decide, by decide⟩
  obtain ⟨T10, h10, X10, e10, W10, st10⟩ := stC X7 hx hZ e7 Ar10 (j := (1 : Int32)) hin10 (g := (mkF m 38 #[.val (.ref r0), .val (.int (0 : Int32)), .val (.ref nb), .val (.ref b4), .val (.int (1 : Int32))] [(.int ((x1 &&& (255 : Int32)).toUInt32.toUInt16.toUInt32.toInt32)), (.int (1 : Int32)), (.ref b4)])) rfl rfl (hb hby d7_38)
  have V10_b4 : Arv Z h10 b4 k4 .char (64 : Int32) (own_B (nar .char ((x0 &&& (255 : Int32)).toUInt32.toUInt16.toUInt32.toInt32)) (nar .char ((x1 &&& (255 : Int32)).toUInt32.toUInt16.toUInt32.toInt32)) (0 : Int32)) (.int (0 : Int32)) := Arv.set Ar10 qk10 S10 N10_ Ha10 G10 (fits_nar_char _) W10 1 rfl (Nat.le_of_ble_eq_true rfl)
  have E_r0_c10 : Exa Z h10 r0 "com/example/xrefloom/xrefloom/tree/CompactText" := E_r0_c7.wr W10
  have F_length_c10 : Fld Z h10 r0 "com/example/xrefloom/xrefloom/tree/CompactText" "length" "I" (.int len) := F_length_c7.other W10 (Or.inl ne_r0_b4)
  have F_narrow_c10 : Fld Z h10 r0 "com/example/xrefloom/xrefloom/tree/CompactText" "narrow" "[[B" (.ref na) := F_narrow_c7.other W10 (Or.inl ne_r0_b4)
  have F_wide_c10 : Fld Z h10 r0 "com/example/xrefloom/xrefloom/tree/CompactText" "wide" "[[C" (.ref wa) := F_wide_c7.other W10 (Or.inl ne_r0_b4)
  have V_na_c10 : Arv Z h10 na kn (.array .byte) (1 : Int32) [(.ref nb)] .null := V_na_c7.other W10 ne_na_b4
  have V_wa_c10 : Arv Z h10 wa kw (.array .char) (1 : Int32) [.null] .null := V_wa_c7.other W10 ne_wa_b4
  have V_nb_c10 : Arv Z h10 nb kb .byte (64 : Int32) (own_B x0 x1 x2) (.int (0 : Int32)) := V_nb_c7.other W10 ne_nb_b4
  have Ea4_c10 : Exa Z h10 b4 "[C" := Ea4_c7.wr W10
  have N10 := Fr.snoc X10 N7 gn_b4
  have Z10 : n0 ≤ h10.size := Nat.le_trans Z7 (Keep.of_wr W10).1
  refine own_go (G := T10.setTop (mkF m 39 #[.val (.ref r0), .val (.int (0 : Int32)), .val (.ref nb), .val (.ref b4), .val (.int (1 : Int32))] [])) (st10) ?_
  refine own_go (G := T10.setTop (mkF m 42 #[.val (.ref r0), .val (.int (0 : Int32)), .val (.ref nb), .val (.ref b4), .val (.int ((1 : Int32) + (1 : Int32)))] [])) (fun _ k => XS.iinc X10.here hx rfl (hb hby d7_39) rfl (l' := #[.val (.ref r0), .val (.int (0 : Int32)), .val (.ref nb), .val (.ref b4), .val (.int ((1 : Int32) + (1 : Int32)))]) rfl k) ?_
  rw [show ((1 : Int32) + (1 : Int32)) = (2 : Int32) from by decide]
  refine own_go (G := T10.setTop (mkF m 19 #[.val (.ref r0), .val (.int (0 : Int32)), .val (.ref nb), .val (.ref b4), .val (.int (2 : Int32))] [])) (fun _ k => XS.goto X10.here hx rfl (pc0 := 42) (pc' := 19) rfl (hb hby d7_42) (by decide) (by decide) k) ?_
  refine own_go (G := T10.setTop (mkF m 21 #[.val (.ref r0), .val (.int (0 : Int32)), .val (.ref nb), .val (.ref b4), .val (.int (2 : Int32))] [(.int (2 : Int32))])) (fun _ k => XS.iload X10.here hx rfl (hb hby d7_19) rfl k) ?_
  refine own_go (G := T10.setTop (mkF m 22 #[.val (.ref r0), .val (.int (0 : Int32)), .val (.ref nb), .val (.ref b4), .val (.int (2 : Int32))] [(.ref nb), (.int (2 : Int32))])) (fun _ k => XS.aloadN X10.here hx rfl (hb hby d7_21) rfl rfl k) ?_
  obtain ⟨cl11, Ar11, -, S11, N11_, -, -⟩ := id V_nb_c10
  refine own_go (G := T10.setTop (mkF m 23 #[.val (.ref r0), .val (.int (0 : Int32)), .val (.ref nb), .val (.ref b4), .val (.int (2 : Int32))] [(.int (64 : Int32)), (.int (2 : Int32))])) (fun t k => X10.arraylength hx (by rw [e10]; exact Ar11.1) (State.isArrayOf_alike hZ.alike Ar11.2.1) (g := (mkF m 22 #[.val (.ref r0), .val (.int (0 : Int32)), .val (.ref nb), .val (.ref b4), .val (.int (2 : Int32))] [(.ref nb), (.int (2 : Int32))])) rfl rfl (hb hby d7_22) t (by rw [len_of S11 N11_]; exact k)) ?_
  refine own_go (G := T10.setTop (mkF m 26 #[.val (.ref r0), .val (.int (0 : Int32)), .val (.ref nb), .val (.ref b4), .val (.int (2 : Int32))] [])) (fun _ k => XS.icmpNo X10.here hx rfl (hb hby d7_23) rfl (tlt (by decide : (2 : Int32) < (64 : Int32))).2.1 k) ?_
  refine own_go (G := T10.setTop (mkF m 27 #[.val (.ref r0), .val (.int (0 : Int32)), .val (.ref nb), .val (.ref b4), .val (.int (2 : Int32))] [(.ref b4)])) (fun _ k => XS.aloadN X10.here hx rfl (hb hby d7_26) rfl rfl k) ?_
  refine own_go (G := T10.setTop (mkF m 29 #[.val (.ref r0), .val (.int (0 : Int32)), .val (.ref nb), .val (.ref b4), .val (.int (2 : Int32))] [(.int (2 : Int32)), (.ref b4)])) (fun _ k => XS.iload X10.here hx rfl (hb hby d7_27) rfl k) ?_
  refine own_go (G := T10.setTop (mkF m 30 #[.val (.ref r0), .val (.int (0 : Int32)), .val (.ref nb), .val (.ref b4), .val (.int (2 : Int32))] [(.ref nb), (.int (2 : Int32)), (.ref b4)])) (fun _ k => XS.aloadN X10.here hx rfl (hb hby d7_29) rfl rfl k) ?_
  refine own_go (G := T10.setTop (mkF m 32 #[.val (.ref r0), .val (.int (0 : Int32)), .val (.ref nb), .val (.ref b4), .val (.int (2 : Int32))] [(.int (2 : Int32)), (.ref nb), (.int (2 : Int32)), (.ref b4)])) (fun _ k => XS.iload X10.here hx rfl (hb hby d7_30) rfl k) ?_
  obtain ⟨cl12, Ar12, qk12, S12, N12_, Ha12, G12⟩ := id V_nb_c10
  have hin12 : ¬ ((2 : Int32) < 0 ∨ cl12.slots.size ≤ ((2 : Int32)).toNatClampNeg) := inb_of S12 ⟨by decide, by decide⟩
  have hat12 : cl12.slots[((2 : Int32)).toNatClampNeg]? = some (.int x2) := Ha12.at hin12 rfl
  refine own_go (G := T10.setTop (mkF m 33 #[.val (.ref r0), .val (.int (0 : Int32)), .val (.ref nb), .val (.ref b4), .val (.int (2 : Int32))] [(.int x2), (.int (2 : Int32)), (.ref b4)])) (X10.baloadBytes hx (j := (2 : Int32)) (v := (.int x2)) (by rw [e10]; exact Ar12.1) (State.isArrayOf_alike hZ.alike Ar12.2.1) Ar12.2.2 hin12 hat12 (g := (mkF m 32 #[.val (.ref r0), .val (.int (0 : Int32)), .val (.ref nb), .val (.ref b4), .val (.int (2 : Int32))] [(.int (2 : Int32)), (.ref nb), (.int (2 : Int32)), (.ref b4)])) rfl rfl (hb hby d7_32)) ?_
  refine own_go (G := T10.setTop (mkF m 36 #[.val (.ref r0), .val (.int (0 : Int32)), .val (.ref nb), .val (.ref b4), .val (.int (2 : Int32))] [(.int (255 : Int32)), (.int x2), (.int (2 : Int32)), (.ref b4)])) (fun _ k => XS.sipush X10.here hx rfl (hb hby d7_33) k) ?_
  refine own_go (G := T10.setTop (mkF m 37 #[.val (.ref r0), .val (.int (0 : Int32)), .val (.ref nb), .val (.ref b4), .val (.int (2 : Int32))] [(.int (x2 &&& (255 : Int32))), (.int (2 : Int32)), (.ref b4)])) (fun _ k => XS.iand X10.here hx rfl (hb hby d7_36) rfl k) ?_
  refine own_go (G := T10.setTop (mkF m 38 #[.val (.ref r0), .val (.int (0 : Int32)), .val (.ref nb), .val (.ref b4), .val (.int (2 : Int32))] [(.int ((x2 &&& (255 : Int32)).toUInt32.toUInt16.toUInt32.toInt32)), (.int (2 : Int32)), (.ref b4)])) (fun _ k => XS.i2c X10.here hx rfl (hb hby d7_37) rfl k) ?_
  obtain ⟨cl13, Ar13, qk13, S13, N13_, Ha13, G13⟩ := id V10_b4
  have hin13 : ¬ ((2 : Int32) < 0 ∨ cl13.slots.size ≤ ((2 : Int32)).toNatClampNeg) := inb_of S13 ⟨by decide, by decide⟩
  obtain ⟨T13, h13, X13, e13, W13, st13⟩ := stC X10 hx hZ e10 Ar13 (j := (2 : Int32)) hin13 (g := (mkF m 38 #[.val (.ref r0), .val (.int (0 : Int32)), .val (.ref nb), .val (.ref b4), .val (.int (2 : Int32))] [(.int ((x2 &&& (255 : Int32)).toUInt32.toUInt16.toUInt32.toInt32)), (.int (2 : Int32)), (.ref b4)])) rfl rfl (hb hby d7_38)
  have V13_b4 : Arv Z h13 b4 k4 .char (64 : Int32) (own_B (nar .char ((x0 &&& (255 : Int32)).toUInt32.toUInt16.toUInt32.toInt32)) (nar .char ((x1 &&& (255 : Int32)).toUInt32.toUInt16.toUInt32.toInt32)) (nar .char ((x2 &&& (255 : Int32)).toUInt32.toUInt16.toUInt32.toInt32))) (.int (0 : Int32)) := Arv.set Ar13 qk13 S13 N13_ Ha13 G13 (fits_nar_char _) W13 2 rfl (Nat.le_of_ble_eq_true rfl)
  have E_r0_c13 : Exa Z h13 r0 "com/example/xrefloom/xrefloom/tree/CompactText" := E_r0_c10.wr W13
  have F_length_c13 : Fld Z h13 r0 "com/example/xrefloom/xrefloom/tree/CompactText" "length" "I" (.int len) := F_length_c10.other W13 (Or.inl ne_r0_b4)
  have F_narrow_c13 : Fld Z h13 r0 "com/example/xrefloom/xrefloom/tree/CompactText" "narrow" "[[B" (.ref na) := F_narrow_c10.other W13 (Or.inl ne_r0_b4)
  have F_wide_c13 : Fld Z h13 r0 "com/example/xrefloom/xrefloom/tree/CompactText" "wide" "[[C" (.ref wa) := F_wide_c10.other W13 (Or.inl ne_r0_b4)
  have V_na_c13 : Arv Z h13 na kn (.array .byte) (1 : Int32) [(.ref nb)] .null := V_na_c10.other W13 ne_na_b4
  have V_wa_c13 : Arv Z h13 wa kw (.array .char) (1 : Int32) [.null] .null := V_wa_c10.other W13 ne_wa_b4
  have V_nb_c13 : Arv Z h13 nb kb .byte (64 : Int32) (own_B x0 x1 x2) (.int (0 : Int32)) := V_nb_c10.other W13 ne_nb_b4
  have Ea4_c13 : Exa Z h13 b4 "[C" := Ea4_c10.wr W13
  have N13 := Fr.snoc X13 N10 gn_b4
  have Z13 : n0 ≤ h13.size := Nat.le_trans Z10 (Keep.of_wr W13).1
  refine own_go (G := T13.setTop (mkF m 39 #[.val (.ref r0), .val (.int (0 : Int32)), .val (.ref nb), .val (.ref b4), .val (.int (2 : Int32))] [])) (st13) ?_
  refine own_go (G := T13.setTop (mkF m 42 #[.val (.ref r0), .val (.int (0 : Int32)), .val (.ref nb), .val (.ref b4), .val (.int ((2 : Int32) + (1 : Int32)))] [])) (fun _ k => XS.iinc X13.here hx rfl (hb hby d7_39) rfl (l' := #[.val (.ref r0), .val (.int (0 : Int32)), .val (.ref nb), .val (.ref b4), .val (.int ((2 : Int32) + (1 : Int32)))]) rfl k) ?_
  rw [show ((2 : Int32) + (1 : Int32)) = (3 : Int32) from by decide]
  refine own_go (G := T13.setTop (mkF m 19 #[.val (.ref r0), .val (.int (0 : Int32)), .val (.ref nb), .val (.ref b4), .val (.int (3 : Int32))] [])) (fun _ k => XS.goto X13.here hx rfl (pc0 := 42) (pc' := 19) rfl (hb hby d7_42) (by decide) (by decide) k) ?_
  refine own_go (G := T13.setTop (mkF m 21 #[.val (.ref r0), .val (.int (0 : Int32)), .val (.ref nb), .val (.ref b4), .val (.int (3 : Int32))] [(.int (3 : Int32))])) (fun _ k => XS.iload X13.here hx rfl (hb hby d7_19) rfl k) ?_
  refine own_go (G := T13.setTop (mkF m 22 #[.val (.ref r0), .val (.int (0 : Int32)), .val (.ref nb), .val (.ref b4), .val (.int (3 : Int32))] [(.ref nb), (.int (3 : Int32))])) (fun _ k => XS.aloadN X13.here hx rfl (hb hby d7_21) rfl rfl k) ?_
  obtain ⟨cl14, Ar14, -, S14, N14_, -, -⟩ := id V_nb_c13
  refine own_go (G := T13.setTop (mkF m 23 #[.val (.ref r0), .val (.int (0 : Int32)), .val (.ref nb), .val (.ref b4), .val (.int (3 : Int32))] [(.int (64 : Int32)), (.int (3 : Int32))])) (fun t k => X13.arraylength hx (by rw [e13]; exact Ar14.1) (State.isArrayOf_alike hZ.alike Ar14.2.1) (g := (mkF m 22 #[.val (.ref r0), .val (.int (0 : Int32)), .val (.ref nb), .val (.ref b4), .val (.int (3 : Int32))] [(.ref nb), (.int (3 : Int32))])) rfl rfl (hb hby d7_22) t (by rw [len_of S14 N14_]; exact k)) ?_
  refine own_go (G := T13.setTop (mkF m 26 #[.val (.ref r0), .val (.int (0 : Int32)), .val (.ref nb), .val (.ref b4), .val (.int (3 : Int32))] [])) (fun _ k => XS.icmpNo X13.here hx rfl (hb hby d7_23) rfl (tlt (by decide : (3 : Int32) < (64 : Int32))).2.1 k) ?_
  refine own_go (G := T13.setTop (mkF m 27 #[.val (.ref r0), .val (.int (0 : Int32)), .val (.ref nb), .val (.ref b4), .val (.int (3 : Int32))] [(.ref b4)])) (fun _ k => XS.aloadN X13.here hx rfl (hb hby d7_26) rfl rfl k) ?_
  refine own_go (G := T13.setTop (mkF m 29 #[.val (.ref r0), .val (.int (0 : Int32)), .val (.ref nb), .val (.ref b4), .val (.int (3 : Int32))] [(.int (3 : Int32)), (.ref b4)])) (fun _ k => XS.iload X13.here hx rfl (hb hby d7_27) rfl k) ?_
  refine own_go (G := T13.setTop (mkF m 30 #[.val (.ref r0), .val (.int (0 : Int32)), .val (.ref nb), .val (.ref b4), .val (.int (3 : Int32))] [(.ref nb), (.int (3 : Int32)), (.ref b4)])) (fun _ k => XS.aloadN X13.here hx rfl (hb hby d7_29) rfl rfl k) ?_
  refine own_go (G := T13.setTop (mkF m 32 #[.val (.ref r0), .val (.int (0 : Int32)), .val (.ref nb), .val (.ref b4), .val (.int (3 : Int32))] [(.int (3 : Int32)), (.ref nb), (.int (3 : Int32)), (.ref b4)])) (fun _ k => XS.iload X13.here hx rfl (hb hby d7_30) rfl k) ?_
  obtain ⟨cl15, Ar15, qk15, S15, N15_, Ha15, G15⟩ := id V_nb_c13
  have hin15 : ¬ ((3 : Int32) < 0 ∨ cl15.slots.size ≤ ((3 : Int32)).toNatClampNeg) := inb_of S15 ⟨by decide, by decide⟩
  have hat15 : cl15.slots[((3 : Int32)).toNatClampNeg]? = some (.int (0 : Int32)) := Ha15.at hin15 rfl
  refine own_go (G := T13.setTop (mkF m 33 #[.val (.ref r0), .val (.int (0 : Int32)), .val (.ref nb), .val (.ref b4), .val (.int (3 : Int32))] [(.int (0 : Int32)), (.int (3 : Int32)), (.ref b4)])) (X13.baloadBytes hx (j := (3 : Int32)) (v := (.int (0 : Int32))) (by rw [e13]; exact Ar15.1) (State.isArrayOf_alike hZ.alike Ar15.2.1) Ar15.2.2 hin15 hat15 (g := (mkF m 32 #[.val (.ref r0), .val (.int (0 : Int32)), .val (.ref nb), .val (.ref b4), .val (.int (3 : Int32))] [(.int (3 : Int32)), (.ref nb), (.int (3 : Int32)), (.ref b4)])) rfl rfl (hb hby d7_32)) ?_
  refine own_go (G := T13.setTop (mkF m 36 #[.val (.ref r0), .val (.int (0 : Int32)), .val (.ref nb), .val (.ref b4), .val (.int (3 : Int32))] [(.int (255 : Int32)), (.int (0 : Int32)), (.int (3 : Int32)), (.ref b4)])) (fun _ k => XS.sipush X13.here hx rfl (hb hby d7_33) k) ?_
  refine own_go (G := T13.setTop (mkF m 37 #[.val (.ref r0), .val (.int (0 : Int32)), .val (.ref nb), .val (.ref b4), .val (.int (3 : Int32))] [(.int ((0 : Int32) &&& (255 : Int32))), (.int (3 : Int32)), (.ref b4)])) (fun _ k => XS.iand X13.here hx rfl (hb hby d7_36) rfl k) ?_
  rw [show ((0 : Int32) &&& (255 : Int32)) = (0 : Int32) from by decide]
  refine own_go (G := T13.setTop (mkF m 38 #[.val (.ref r0), .val (.int (0 : Int32)), .val (.ref nb), .val (.ref b4), .val (.int (3 : Int32))] [(.int ((0 : Int32).toUInt32.toUInt16.toUInt32.toInt32)), (.int (3 : Int32)), (.ref b4)])) (fun _ k => XS.i2c X13.here hx rfl (hb hby d7_37) rfl k) ?_
  rw [show ((0 : Int32).toUInt32.toUInt16.toUInt32.toInt32) = (0 : Int32) from by decide]
  obtain ⟨cl16, Ar16, qk16, S16, N16_, Ha16, G16⟩ := id V13_b4
  have hin16 : ¬ ((3 : Int32) < 0 ∨ cl16.slots.size ≤ ((3 : Int32)).toNatClampNeg) := inb_of S16 ⟨by decide, by decide⟩
  obtain ⟨T16, h16, X16, e16, W16, st16⟩ := stC X13 hx hZ e13 Ar16 (j := (3 : Int32)) hin16 (g := (mkF m 38 #[.val (.ref r0), .val (.int (0 : Int32)), .val (.ref nb), .val (.ref b4), .val (.int (3 : Int32))] [(.int (0 : Int32)), (.int (3 : Int32)), (.ref b4)])) rfl rfl (hb hby d7_38)
  have V16_b4 : Arv Z h16 b4 k4 .char (64 : Int32) (own_B (nar .char ((x0 &&& (255 : Int32)).toUInt32.toUInt16.toUInt32.toInt32)) (nar .char ((x1 &&& (255 : Int32)).toUInt32.toUInt16.toUInt32.toInt32)) (nar .char ((x2 &&& (255 : Int32)).toUInt32.toUInt16.toUInt32.toInt32))) (.int (0 : Int32)) := Arv.set Ar16 qk16 S16 N16_ Ha16 G16 (fits_nar_char _) W16 3 rfl (Nat.le_of_ble_eq_true rfl)
  have E_r0_c16 : Exa Z h16 r0 "com/example/xrefloom/xrefloom/tree/CompactText" := E_r0_c13.wr W16
  have F_length_c16 : Fld Z h16 r0 "com/example/xrefloom/xrefloom/tree/CompactText" "length" "I" (.int len) := F_length_c13.other W16 (Or.inl ne_r0_b4)
  have F_narrow_c16 : Fld Z h16 r0 "com/example/xrefloom/xrefloom/tree/CompactText" "narrow" "[[B" (.ref na) := F_narrow_c13.other W16 (Or.inl ne_r0_b4)
  have F_wide_c16 : Fld Z h16 r0 "com/example/xrefloom/xrefloom/tree/CompactText" "wide" "[[C" (.ref wa) := F_wide_c13.other W16 (Or.inl ne_r0_b4)
  have V_na_c16 : Arv Z h16 na kn (.array .byte) (1 : Int32) [(.ref nb)] .null := V_na_c13.other W16 ne_na_b4
  have V_wa_c16 : Arv Z h16 wa kw (.array .char) (1 : Int32) [.null] .null := V_wa_c13.other W16 ne_wa_b4
  have V_nb_c16 : Arv Z h16 nb kb .byte (64 : Int32) (own_B x0 x1 x2) (.int (0 : Int32)) := V_nb_c13.other W16 ne_nb_b4
  have Ea4_c16 : Exa Z h16 b4 "[C" := Ea4_c13.wr W16
  have N16 := Fr.snoc X16 N13 gn_b4
  have Z16 : n0 ≤ h16.size := Nat.le_trans Z13 (Keep.of_wr W16).1
  refine own_go (G := T16.setTop (mkF m 39 #[.val (.ref r0), .val (.int (0 : Int32)), .val (.ref nb), .val (.ref b4), .val (.int (3 : Int32))] [])) (st16) ?_
  refine own_go (G := T16.setTop (mkF m 42 #[.val (.ref r0), .val (.int (0 : Int32)), .val (.ref nb), .val (.ref b4), .val (.int ((3 : Int32) + (1 : Int32)))] [])) (fun _ k => XS.iinc X16.here hx rfl (hb hby d7_39) rfl (l' := #[.val (.ref r0), .val (.int (0 : Int32)), .val (.ref nb), .val (.ref b4), .val (.int ((3 : Int32) + (1 : Int32)))]) rfl k) ?_
  rw [show ((3 : Int32) + (1 : Int32)) = (4 : Int32) from by decide]
  refine own_go (G := T16.setTop (mkF m 19 #[.val (.ref r0), .val (.int (0 : Int32)), .val (.ref nb), .val (.ref b4), .val (.int (4 : Int32))] [])) (fun _ k => XS.goto X16.here hx rfl (pc0 := 42) (pc' := 19) rfl (hb hby d7_42) (by decide) (by decide) k) ?_
  refine own_go (G := T16.setTop (mkF m 21 #[.val (.ref r0), .val (.int (0 : Int32)), .val (.ref nb), .val (.ref b4), .val (.int (4 : Int32))] [(.int (4 : Int32))])) (fun _ k => XS.iload X16.here hx rfl (hb hby d7_19) rfl k) ?_
  refine own_go (G := T16.setTop (mkF m 22 #[.val (.ref r0), .val (.int (0 : Int32)), .val (.ref nb), .val (.ref b4), .val (.int (4 : Int32))] [(.ref nb), (.int (4 : Int32))])) (fun _ k => XS.aloadN X16.here hx rfl (hb hby d7_21) rfl rfl k) ?_
  obtain ⟨cl17, Ar17, -, S17, N17_, -, -⟩ := id V_nb_c16
  refine own_go (G := T16.setTop (mkF m 23 #[.val (.ref r0), .val (.int (0 : Int32)), .val (.ref nb), .val (.ref b4), .val (.int (4 : Int32))] [(.int (64 : Int32)), (.int (4 : Int32))])) (fun t k => X16.arraylength hx (by rw [e16]; exact Ar17.1) (State.isArrayOf_alike hZ.alike Ar17.2.1) (g := (mkF m 22 #[.val (.ref r0), .val (.int (0 : Int32)), .val (.ref nb), .val (.ref b4), .val (.int (4 : Int32))] [(.ref nb), (.int (4 : Int32))])) rfl rfl (hb hby d7_22) t (by rw [len_of S17 N17_]; exact k)) ?_
  refine own_go (G := T16.setTop (mkF m 26 #[.val (.ref r0), .val (.int (0 : Int32)), .val (.ref nb), .val (.ref b4), .val (.int (4 : Int32))] [])) (fun _ k => XS.icmpNo X16.here hx rfl (hb hby d7_23) rfl (tlt (by decide : (4 : Int32) < (64 : Int32))).2.1 k) ?_
  refine own_go (G := T16.setTop (mkF m 27 #[.val (.ref r0), .val (.int (0 : Int32)), .val (.ref nb), .val (.ref b4), .val (.int (4 : Int32))] [(.ref b4)])) (fun _ k => XS.aloadN X16.here hx rfl (hb hby d7_26) rfl rfl k) ?_
  refine own_go (G := T16.setTop (mkF m 29 #[.val (.ref r0), .val (.int (0 : Int32)), .val (.ref nb), .val (.ref b4), .val (.int (4 : Int32))] [(.int (4 : Int32)), (.ref b4)])) (fun _ k => XS.iload X16.here hx rfl (hb hby d7_27) rfl k) ?_
  refine own_go (G := T16.setTop (mkF m 30 #[.val (.ref r0), .val (.int (0 : Int32)), .val (.ref nb), .val (.ref b4), .val (.int (4 : Int32))] [(.ref nb), (.int (4 : Int32)), (.ref b4)])) (fun _ k => XS.aloadN X16.here hx rfl (hb hby d7_29) rfl rfl k) ?_
  refine own_go (G := T16.setTop (mkF m 32 #[.val (.ref r0), .val (.int (0 : Int32)), .val (.ref nb), .val (.ref b4), .val (.int (4 : Int32))] [(.int (4 : Int32)), (.ref nb), (.int (4 : Int32)), (.ref b4)])) (fun _ k => XS.iload X16.here hx rfl (hb hby d7_30) rfl k) ?_
  obtain ⟨cl18, Ar18, qk18, S18, N18_, Ha18, G18⟩ := id V_nb_c16
  have hin18 : ¬ ((4 : Int32) < 0 ∨ cl18.slots.size ≤ ((4 : Int32)).toNatClampNeg) := inb_of S18 ⟨by decide, by decide⟩
  have hat18 : cl18.slots[((4 : Int32)).toNatClampNeg]? = some (.int (0 : Int32)) := Ha18.at hin18 rfl
  refine own_go (G := T16.setTop (mkF m 33 #[.val (.ref r0), .val (.int (0 : Int32)), .val (.ref nb), .val (.ref b4), .val (.int (4 : Int32))] [(.int (0 : Int32)), (.int (4 : Int32)), (.ref b4)])) (X16.baloadBytes hx (j := (4 : Int32)) (v := (.int (0 : Int32))) (by rw [e16]; exact Ar18.1) (State.isArrayOf_alike hZ.alike Ar18.2.1) Ar18.2.2 hin18 hat18 (g := (mkF m 32 #[.val (.ref r0), .val (.int (0 : Int32)), .val (.ref nb), .val (.ref b4), .val (.int (4 : Int32))] [(.int (4 : Int32)), (.ref nb), (.int (4 : Int32)), (.ref b4)])) rfl rfl (hb hby d7_32)) ?_
  refine own_go (G := T16.setTop (mkF m 36 #[.val (.ref r0), .val (.int (0 : Int32)), .val (.ref nb), .val (.ref b4), .val (.int (4 : Int32))] [(.int (255 : Int32)), (.int (0 : Int32)), (.int (4 : Int32)), (.ref b4)])) (fun _ k => XS.sipush X16.here hx rfl (hb hby d7_33) k) ?_
  refine own_go (G := T16.setTop (mkF m 37 #[.val (.ref r0), .val (.int (0 : Int32)), .val (.ref nb), .val (.ref b4), .val (.int (4 : Int32))] [(.int ((0 : Int32) &&& (255 : Int32))), (.int (4 : Int32)), (.ref b4)])) (fun _ k => XS.iand X16.here hx rfl (hb hby d7_36) rfl k) ?_
  rw [show ((0 : Int32) &&& (255 : Int32)) = (0 : Int32) from by decide]
  refine own_go (G := T16.setTop (mkF m 38 #[.val (.ref r0), .val (.int (0 : Int32)), .val (.ref nb), .val (.ref b4), .val (.int (4 : Int32))] [(.int ((0 : Int32).toUInt32.toUInt16.toUInt32.toInt32)), (.int (4 : Int32)), (.ref b4)])) (fun _ k => XS.i2c X16.here hx rfl (hb hby d7_37) rfl k) ?_
  rw [show ((0 : Int32).toUInt32.toUInt16.toUInt32.toInt32) = (0 : Int32) from by decide]
  obtain ⟨cl19, Ar19, qk19, S19, N19_, Ha19, G19⟩ := id V16_b4
  have hin19 : ¬ ((4 : Int32) < 0 ∨ cl19.slots.size ≤ ((4 : Int32)).toNatClampNeg) := inb_of S19 ⟨by decide, by decide⟩
  obtain ⟨T19, h19, X19, e19, W19, st19⟩ := stC X16 hx hZ e16 Ar19 (j := (4 : Int32)) hin19 (g := (mkF m 38 #[.val (.ref r0), .val (.int (0 : Int32)), .val (.ref nb), .val (.ref b4), .val (.int (4 : Int32))] [(.int (0 : Int32)), (.int (4 : Int32)), (.ref b4)])) rfl rfl (hb hby d7_38)
  have V19_b4 : Arv Z h19 b4 k4 .char (64 : Int32) (own_B (nar .char ((x0 &&& (255 : Int32)).toUInt32.toUInt16.toUInt32.toInt32)) (nar .char ((x1 &&& (255 : Int32)).toUInt32.toUInt16.toUInt32.toInt32)) (nar .char ((x2 &&& (255 : Int32)).toUInt32.toUInt16.toUInt32.toInt32))) (.int (0 : Int32)) := Arv.set Ar19 qk19 S19 N19_ Ha19 G19 (fits_nar_char _) W19 4 rfl (Nat.le_of_ble_eq_true rfl)
  have E_r0_c19 : Exa Z h19 r0 "com/example/xrefloom/xrefloom/tree/CompactText" := E_r0_c16.wr W19
  have F_length_c19 : Fld Z h19 r0 "com/example/xrefloom/xrefloom/tree/CompactText" "length" "I" (.int len) := F_length_c16.other W19 (Or.inl ne_r0_b4)
  have F_narrow_c19 : Fld Z h19 r0 "com/example/xrefloom/xrefloom/tree/CompactText" "narrow" "[[B" (.ref na) := F_narrow_c16.other W19 (Or.inl ne_r0_b4)
  have F_wide_c19 : Fld Z h19 r0 "com/example/xrefloom/xrefloom/tree/CompactText" "wide" "[[C" (.ref wa) := F_wide_c16.other W19 (Or.inl ne_r0_b4)
  have V_na_c19 : Arv Z h19 na kn (.array .byte) (1 : Int32) [(.ref nb)] .null := V_na_c16.other W19 ne_na_b4
  have V_wa_c19 : Arv Z h19 wa kw (.array .char) (1 : Int32) [.null] .null := V_wa_c16.other W19 ne_wa_b4
  have V_nb_c19 : Arv Z h19 nb kb .byte (64 : Int32) (own_B x0 x1 x2) (.int (0 : Int32)) := V_nb_c16.other W19 ne_nb_b4
  have Ea4_c19 : Exa Z h19 b4 "[C" := Ea4_c16.wr W19
  have N19 := Fr.snoc X19 N16 gn_b4
  have Z19 : n0 ≤ h19.size := Nat.le_trans Z16 (Keep.of_wr W19).1
  refine own_go (G := T19.setTop (mkF m 39 #[.val (.ref r0), .val (.int (0 : Int32)), .val (.ref nb), .val (.ref b4), .val (.int (4 : Int32))] [])) (st19) ?_
  refine own_go (G := T19.setTop (mkF m 42 #[.val (.ref r0), .val (.int (0 : Int32)), .val (.ref nb), .val (.ref b4), .val (.int ((4 : Int32) + (1 : Int32)))] [])) (fun _ k => XS.iinc X19.here hx rfl (hb hby d7_39) rfl (l' := #[.val (.ref r0), .val (.int (0 : Int32)), .val (.ref nb), .val (.ref b4), .val (.int ((4 : Int32) + (1 : Int32)))]) rfl k) ?_
  rw [show ((4 : Int32) + (1 : Int32)) = (5 : Int32) from by decide]
  refine own_go (G := T19.setTop (mkF m 19 #[.val (.ref r0), .val (.int (0 : Int32)), .val (.ref nb), .val (.ref b4), .val (.int (5 : Int32))] [])) (fun _ k => XS.goto X19.here hx rfl (pc0 := 42) (pc' := 19) rfl (hb hby d7_42) (by decide) (by decide) k) ?_
  refine own_go (G := T19.setTop (mkF m 21 #[.val (.ref r0), .val (.int (0 : Int32)), .val (.ref nb), .val (.ref b4), .val (.int (5 : Int32))] [(.int (5 : Int32))])) (fun _ k => XS.iload X19.here hx rfl (hb hby d7_19) rfl k) ?_
  refine own_go (G := T19.setTop (mkF m 22 #[.val (.ref r0), .val (.int (0 : Int32)), .val (.ref nb), .val (.ref b4), .val (.int (5 : Int32))] [(.ref nb), (.int (5 : Int32))])) (fun _ k => XS.aloadN X19.here hx rfl (hb hby d7_21) rfl rfl k) ?_
  obtain ⟨cl20, Ar20, -, S20, N20_, -, -⟩ := id V_nb_c19
  refine own_go (G := T19.setTop (mkF m 23 #[.val (.ref r0), .val (.int (0 : Int32)), .val (.ref nb), .val (.ref b4), .val (.int (5 : Int32))] [(.int (64 : Int32)), (.int (5 : Int32))])) (fun t k => X19.arraylength hx (by rw [e19]; exact Ar20.1) (State.isArrayOf_alike hZ.alike Ar20.2.1) (g := (mkF m 22 #[.val (.ref r0), .val (.int (0 : Int32)), .val (.ref nb), .val (.ref b4), .val (.int (5 : Int32))] [(.ref nb), (.int (5 : Int32))])) rfl rfl (hb hby d7_22) t (by rw [len_of S20 N20_]; exact k)) ?_
  refine own_go (G := T19.setTop (mkF m 26 #[.val (.ref r0), .val (.int (0 : Int32)), .val (.ref nb), .val (.ref b4), .val (.int (5 : Int32))] [])) (fun _ k => XS.icmpNo X19.here hx rfl (hb hby d7_23) rfl (tlt (by decide : (5 : Int32) < (64 : Int32))).2.1 k) ?_
  refine own_go (G := T19.setTop (mkF m 27 #[.val (.ref r0), .val (.int (0 : Int32)), .val (.ref nb), .val (.ref b4), .val (.int (5 : Int32))] [(.ref b4)])) (fun _ k => XS.aloadN X19.here hx rfl (hb hby d7_26) rfl rfl k) ?_
  refine own_go (G := T19.setTop (mkF m 29 #[.val (.ref r0), .val (.int (0 : Int32)), .val (.ref nb), .val (.ref b4), .val (.int (5 : Int32))] [(.int (5 : Int32)), (.ref b4)])) (fun _ k => XS.iload X19.here hx rfl (hb hby d7_27) rfl k) ?_
  refine own_go (G := T19.setTop (mkF m 30 #[.val (.ref r0), .val (.int (0 : Int32)), .val (.ref nb), .val (.ref b4), .val (.int (5 : Int32))] [(.ref nb), (.int (5 : Int32)), (.ref b4)])) (fun _ k => XS.aloadN X19.here hx rfl (hb hby d7_29) rfl rfl k) ?_
  refine own_go (G := T19.setTop (mkF m 32 #[.val (.ref r0), .val (.int (0 : Int32)), .val (.ref nb), .val (.ref b4), .val (.int (5 : Int32))] [(.int (5 : Int32)), (.ref nb), (.int (5 : Int32)), (.ref b4)])) (fun _ k => XS.iload X19.here hx rfl (hb hby d7_30) rfl k) ?_
  obtain ⟨cl21, Ar21, qk21, S21, N21_, Ha21, G21⟩ := id V_nb_c19
  have hin21 : ¬ ((5 : Int32) < 0 ∨ cl21.slots.size ≤ ((5 : Int32)).toNatClampNeg) := inb_of S21 ⟨by decide, by decide⟩
  have hat21 : cl21.slots[((5 : Int32)).toNatClampNeg]? = some (.int (0 : Int32)) := Ha21.at hin21 rfl
  refine own_go (G := T19.setTop (mkF m 33 #[.val (.ref r0), .val (.int (0 : Int32)), .val (.ref nb), .val (.ref b4), .val (.int (5 : Int32))] [(.int (0 : Int32)), (.int (5 : Int32)), (.ref b4)])) (X19.baloadBytes hx (j := (5 : Int32)) (v := (.int (0 : Int32))) (by rw [e19]; exact Ar21.1) (State.isArrayOf_alike hZ.alike Ar21.2.1) Ar21.2.2 hin21 hat21 (g := (mkF m 32 #[.val (.ref r0), .val (.int (0 : Int32)), .val (.ref nb), .val (.ref b4), .val (.int (5 : Int32))] [(.int (5 : Int32)), (.ref nb), (.int (5 : Int32)), (.ref b4)])) rfl rfl (hb hby d7_32)) ?_
  refine own_go (G := T19.setTop (mkF m 36 #[.val (.ref r0), .val (.int (0 : Int32)), .val (.ref nb), .val (.ref b4), .val (.int (5 : Int32))] [(.int (255 : Int32)), (.int (0 : Int32)), (.int (5 : Int32)), (.ref b4)])) (fun _ k => XS.sipush X19.here hx rfl (hb hby d7_33) k) ?_
  refine own_go (G := T19.setTop (mkF m 37 #[.val (.ref r0), .val (.int (0 : Int32)), .val (.ref nb), .val (.ref b4), .val (.int (5 : Int32))] [(.int ((0 : Int32) &&& (255 : Int32))), (.int (5 : Int32)), (.ref b4)])) (fun _ k => XS.iand X19.here hx rfl (hb hby d7_36) rfl k) ?_
  rw [show ((0 : Int32) &&& (255 : Int32)) = (0 : Int32) from by decide]
  refine own_go (G := T19.setTop (mkF m 38 #[.val (.ref r0), .val (.int (0 : Int32)), .val (.ref nb), .val (.ref b4), .val (.int (5 : Int32))] [(.int ((0 : Int32).toUInt32.toUInt16.toUInt32.toInt32)), (.int (5 : Int32)), (.ref b4)])) (fun _ k => XS.i2c X19.here hx rfl (hb hby d7_37) rfl k) ?_
  rw [show ((0 : Int32).toUInt32.toUInt16.toUInt32.toInt32) = (0 : Int32) from by decide]
  obtain ⟨cl22, Ar22, qk22, S22, N22_, Ha22, G22⟩ := id V19_b4
  have hin22 : ¬ ((5 : Int32) < 0 ∨ cl22.slots.size ≤ ((5 : Int32)).toNatClampNeg) := inb_of S22 ⟨by decide, by decide⟩
  obtain ⟨T22, h22, X22, e22, W22, st22⟩ := stC X19 hx hZ e19 Ar22 (j := (5 : Int32)) hin22 (g := (mkF m 38 #[.val (.ref r0), .val (.int (0 : Int32)), .val (.ref nb), .val (.ref b4), .val (.int (5 : Int32))] [(.int (0 : Int32)), (.int (5 : Int32)), (.ref b4)])) rfl rfl (hb hby d7_38)
  have V22_b4 : Arv Z h22 b4 k4 .char (64 : Int32) (own_B (nar .char ((x0 &&& (255 : Int32)).toUInt32.toUInt16.toUInt32.toInt32)) (nar .char ((x1 &&& (255 : Int32)).toUInt32.toUInt16.toUInt32.toInt32)) (nar .char ((x2 &&& (255 : Int32)).toUInt32.toUInt16.toUInt32.toInt32))) (.int (0 : Int32)) := Arv.set Ar22 qk22 S22 N22_ Ha22 G22 (fits_nar_char _) W22 5 rfl (Nat.le_of_ble_eq_true rfl)
  have E_r0_c22 : Exa Z h22 r0 "com/example/xrefloom/xrefloom/tree/CompactText" := E_r0_c19.wr W22
  have F_length_c22 : Fld Z h22 r0 "com/example/xrefloom/xrefloom/tree/CompactText" "length" "I" (.int len) := F_length_c19.other W22 (Or.inl ne_r0_b4)
  have F_narrow_c22 : Fld Z h22 r0 "com/example/xrefloom/xrefloom/tree/CompactText" "narrow" "[[B" (.ref na) := F_narrow_c19.other W22 (Or.inl ne_r0_b4)
  have F_wide_c22 : Fld Z h22 r0 "com/example/xrefloom/xrefloom/tree/CompactText" "wide" "[[C" (.ref wa) := F_wide_c19.other W22 (Or.inl ne_r0_b4)
  have V_na_c22 : Arv Z h22 na kn (.array .byte) (1 : Int32) [(.ref nb)] .null := V_na_c19.other W22 ne_na_b4
  have V_wa_c22 : Arv Z h22 wa kw (.array .char) (1 : Int32) [.null] .null := V_wa_c19.other W22 ne_wa_b4
  have V_nb_c22 : Arv Z h22 nb kb .byte (64 : Int32) (own_B x0 x1 x2) (.int (0 : Int32)) := V_nb_c19.other W22 ne_nb_b4
  have Ea4_c22 : Exa Z h22 b4 "[C" := Ea4_c19.wr W22
  have N22 := Fr.snoc X22 N19 gn_b4
  have Z22 : n0 ≤ h22.size := Nat.le_trans Z19 (Keep.of_wr W22).1
  refine own_go (G := T22.setTop (mkF m 39 #[.val (.ref r0), .val (.int (0 : Int32)), .val (.ref nb), .val (.ref b4), .val (.int (5 : Int32))] [])) (st22) ?_
  refine own_go (G := T22.setTop (mkF m 42 #[.val (.ref r0), .val (.int (0 : Int32)), .val (.ref nb), .val (.ref b4), .val (.int ((5 : Int32) + (1 : Int32)))] [])) (fun _ k => XS.iinc X22.here hx rfl (hb hby d7_39) rfl (l' := #[.val (.ref r0), .val (.int (0 : Int32)), .val (.ref nb), .val (.ref b4), .val (.int ((5 : Int32) + (1 : Int32)))]) rfl k) ?_
  rw [show ((5 : Int32) + (1 : Int32)) = (6 : Int32) from by decide]
  refine own_go (G := T22.setTop (mkF m 19 #[.val (.ref r0), .val (.int (0 : Int32)), .val (.ref nb), .val (.ref b4), .val (.int (6 : Int32))] [])) (fun _ k => XS.goto X22.here hx rfl (pc0 := 42) (pc' := 19) rfl (hb hby d7_42) (by decide) (by decide) k) ?_
  refine own_go (G := T22.setTop (mkF m 21 #[.val (.ref r0), .val (.int (0 : Int32)), .val (.ref nb), .val (.ref b4), .val (.int (6 : Int32))] [(.int (6 : Int32))])) (fun _ k => XS.iload X22.here hx rfl (hb hby d7_19) rfl k) ?_
  refine own_go (G := T22.setTop (mkF m 22 #[.val (.ref r0), .val (.int (0 : Int32)), .val (.ref nb), .val (.ref b4), .val (.int (6 : Int32))] [(.ref nb), (.int (6 : Int32))])) (fun _ k => XS.aloadN X22.here hx rfl (hb hby d7_21) rfl rfl k) ?_
  obtain ⟨cl23, Ar23, -, S23, N23_, -, -⟩ := id V_nb_c22
  refine own_go (G := T22.setTop (mkF m 23 #[.val (.ref r0), .val (.int (0 : Int32)), .val (.ref nb), .val (.ref b4), .val (.int (6 : Int32))] [(.int (64 : Int32)), (.int (6 : Int32))])) (fun t k => X22.arraylength hx (by rw [e22]; exact Ar23.1) (State.isArrayOf_alike hZ.alike Ar23.2.1) (g := (mkF m 22 #[.val (.ref r0), .val (.int (0 : Int32)), .val (.ref nb), .val (.ref b4), .val (.int (6 : Int32))] [(.ref nb), (.int (6 : Int32))])) rfl rfl (hb hby d7_22) t (by rw [len_of S23 N23_]; exact k)) ?_
  refine own_go (G := T22.setTop (mkF m 26 #[.val (.ref r0), .val (.int (0 : Int32)), .val (.ref nb), .val (.ref b4), .val (.int (6 : Int32))] [])) (fun _ k => XS.icmpNo X22.here hx rfl (hb hby d7_23) rfl (tlt (by decide : (6 : Int32) < (64 : Int32))).2.1 k) ?_
  refine own_go (G := T22.setTop (mkF m 27 #[.val (.ref r0), .val (.int (0 : Int32)), .val (.ref nb), .val (.ref b4), .val (.int (6 : Int32))] [(.ref b4)])) (fun _ k => XS.aloadN X22.here hx rfl (hb hby d7_26) rfl rfl k) ?_
  refine own_go (G := T22.setTop (mkF m 29 #[.val (.ref r0), .val (.int (0 : Int32)), .val (.ref nb), .val (.ref b4), .val (.int (6 : Int32))] [(.int (6 : Int32)), (.ref b4)])) (fun _ k => XS.iload X22.here hx rfl (hb hby d7_27) rfl k) ?_
  refine own_go (G := T22.setTop (mkF m 30 #[.val (.ref r0), .val (.int (0 : Int32)), .val (.ref nb), .val (.ref b4), .val (.int (6 : Int32))] [(.ref nb), (.int (6 : Int32)), (.ref b4)])) (fun _ k => XS.aloadN X22.here hx rfl (hb hby d7_29) rfl rfl k) ?_
  refine own_go (G := T22.setTop (mkF m 32 #[.val (.ref r0), .val (.int (0 : Int32)), .val (.ref nb), .val (.ref b4), .val (.int (6 : Int32))] [(.int (6 : Int32)), (.ref nb), (.int (6 : Int32)), (.ref b4)])) (fun _ k => XS.iload X22.here hx rfl (hb hby d7_30) rfl k) ?_
  obtain ⟨cl24, Ar24, qk24, S24, N24_, Ha24, G24⟩ := id V_nb_c22
  have hin24 : ¬ ((6 : Int32) < 0 ∨ cl24.slots.size ≤ ((6 : Int32)).toNatClampNeg) := inb_of S24 ⟨by decide, by decide⟩
  have hat24 : cl24.slots[((6 : Int32)).toNatClampNeg]? = some (.int (0 : Int32)) := Ha24.at hin24 rfl
  refine own_go (G := T22.setTop (mkF m 33 #[.val (.ref r0), .val (.int (0 : Int32)), .val (.ref nb), .val (.ref b4), .val (.int (6 : Int32))] [(.int (0 : Int32)), (.int (6 : Int32)), (.ref b4)])) (X22.baloadBytes hx (j := (6 : Int32)) (v := (.int (0 : Int32))) (by rw [e22]; exact Ar24.1) (State.isArrayOf_alike hZ.alike Ar24.2.1) Ar24.2.2 hin24 hat24 (g := (mkF m 32 #[.val (.ref r0), .val (.int (0 : Int32)), .val (.ref nb), .val (.ref b4), .val (.int (6 : Int32))] [(.int (6 : Int32)), (.ref nb), (.int (6 : Int32)), (.ref b4)])) rfl rfl (hb hby d7_32)) ?_
  refine own_go (G := T22.setTop (mkF m 36 #[.val (.ref r0), .val (.int (0 : Int32)), .val (.ref nb), .val (.ref b4), .val (.int (6 : Int32))] [(.int (255 : Int32)), (.int (0 : Int32)), (.int (6 : Int32)), (.ref b4)])) (fun _ k => XS.sipush X22.here hx rfl (hb hby d7_33) k) ?_
  refine own_go (G := T22.setTop (mkF m 37 #[.val (.ref r0), .val (.int (0 : Int32)), .val (.ref nb), .val (.ref b4), .val (.int (6 : Int32))] [(.int ((0 : Int32) &&& (255 : Int32))), (.int (6 : Int32)), (.ref b4)])) (fun _ k => XS.iand X22.here hx rfl (hb hby d7_36) rfl k) ?_
  rw [show ((0 : Int32) &&& (255 : Int32)) = (0 : Int32) from by decide]
  refine own_go (G := T22.setTop (mkF m 38 #[.val (.ref r0), .val (.int (0 : Int32)), .val (.ref nb), .val (.ref b4), .val (.int (6 : Int32))] [(.int ((0 : Int32).toUInt32.toUInt16.toUInt32.toInt32)), (.int (6 : Int32)), (.ref b4)])) (fun _ k => XS.i2c X22.here hx rfl (hb hby d7_37) rfl k) ?_
  rw [show ((0 : Int32).toUInt32.toUInt16.toUInt32.toInt32) = (0 : Int32) from by decide]
  obtain ⟨cl25, Ar25, qk25, S25, N25_, Ha25, G25⟩ := id V22_b4
  have hin25 : ¬ ((6 : Int32) < 0 ∨ cl25.slots.size ≤ ((6 : Int32)).toNatClampNeg) := inb_of S25 ⟨by decide, by decide⟩
  obtain ⟨T25, h25, X25, e25, W25, st25⟩ := stC X22 hx hZ e22 Ar25 (j := (6 : Int32)) hin25 (g := (mkF m 38 #[.val (.ref r0), .val (.int (0 : Int32)), .val (.ref nb), .val (.ref b4), .val (.int (6 : Int32))] [(.int (0 : Int32)), (.int (6 : Int32)), (.ref b4)])) rfl rfl (hb hby d7_38)
  have V25_b4 : Arv Z h25 b4 k4 .char (64 : Int32) (own_B (nar .char ((x0 &&& (255 : Int32)).toUInt32.toUInt16.toUInt32.toInt32)) (nar .char ((x1 &&& (255 : Int32)).toUInt32.toUInt16.toUInt32.toInt32)) (nar .char ((x2 &&& (255 : Int32)).toUInt32.toUInt16.toUInt32.toInt32))) (.int (0 : Int32)) := Arv.set Ar25 qk25 S25 N25_ Ha25 G25 (fits_nar_char _) W25 6 rfl (Nat.le_of_ble_eq_true rfl)
  have E_r0_c25 : Exa Z h25 r0 "com/example/xrefloom/xrefloom/tree/CompactText" := E_r0_c22.wr W25
  have F_length_c25 : Fld Z h25 r0 "com/example/xrefloom/xrefloom/tree/CompactText" "length" "I" (.int len) := F_length_c22.other W25 (Or.inl ne_r0_b4)
  have F_narrow_c25 : Fld Z h25 r0 "com/example/xrefloom/xrefloom/tree/CompactText" "narrow" "[[B" (.ref na) := F_narrow_c22.other W25 (Or.inl ne_r0_b4)
  have F_wide_c25 : Fld Z h25 r0 "com/example/xrefloom/xrefloom/tree/CompactText" "wide" "[[C" (.ref wa) := F_wide_c22.other W25 (Or.inl ne_r0_b4)
  have V_na_c25 : Arv Z h25 na kn (.array .byte) (1 : Int32) [(.ref nb)] .null := V_na_c22.other W25 ne_na_b4
  have V_wa_c25 : Arv Z h25 wa kw (.array .char) (1 : Int32) [.null] .null := V_wa_c22.other W25 ne_wa_b4
  have V_nb_c25 : Arv Z h25 nb kb .byte (64 : Int32) (own_B x0 x1 x2) (.int (0 : Int32)) := V_nb_c22.other W25 ne_nb_b4
  have Ea4_c25 : Exa Z h25 b4 "[C" := Ea4_c22.wr W25
  have N25 := Fr.snoc X25 N22 gn_b4
  have Z25 : n0 ≤ h25.size := Nat.le_trans Z22 (Keep.of_wr W25).1
  refine own_go (G := T25.setTop (mkF m 39 #[.val (.ref r0), .val (.int (0 : Int32)), .val (.ref nb), .val (.ref b4), .val (.int (6 : Int32))] [])) (st25) ?_
  refine own_go (G := T25.setTop (mkF m 42 #[.val (.ref r0), .val (.int (0 : Int32)), .val (.ref nb), .val (.ref b4), .val (.int ((6 : Int32) + (1 : Int32)))] [])) (fun _ k => XS.iinc X25.here hx rfl (hb hby d7_39) rfl (l' := #[.val (.ref r0), .val (.int (0 : Int32)), .val (.ref nb), .val (.ref b4), .val (.int ((6 : Int32) + (1 : Int32)))]) rfl k) ?_
  rw [show ((6 : Int32) + (1 : Int32)) = (7 : Int32) from by decide]
  refine own_go (G := T25.setTop (mkF m 19 #[.val (.ref r0), .val (.int (0 : Int32)), .val (.ref nb), .val (.ref b4), .val (.int (7 : Int32))] [])) (fun _ k => XS.goto X25.here hx rfl (pc0 := 42) (pc' := 19) rfl (hb hby d7_42) (by decide) (by decide) k) ?_
  refine own_go (G := T25.setTop (mkF m 21 #[.val (.ref r0), .val (.int (0 : Int32)), .val (.ref nb), .val (.ref b4), .val (.int (7 : Int32))] [(.int (7 : Int32))])) (fun _ k => XS.iload X25.here hx rfl (hb hby d7_19) rfl k) ?_
  refine own_go (G := T25.setTop (mkF m 22 #[.val (.ref r0), .val (.int (0 : Int32)), .val (.ref nb), .val (.ref b4), .val (.int (7 : Int32))] [(.ref nb), (.int (7 : Int32))])) (fun _ k => XS.aloadN X25.here hx rfl (hb hby d7_21) rfl rfl k) ?_
  obtain ⟨cl26, Ar26, -, S26, N26_, -, -⟩ := id V_nb_c25
  refine own_go (G := T25.setTop (mkF m 23 #[.val (.ref r0), .val (.int (0 : Int32)), .val (.ref nb), .val (.ref b4), .val (.int (7 : Int32))] [(.int (64 : Int32)), (.int (7 : Int32))])) (fun t k => X25.arraylength hx (by rw [e25]; exact Ar26.1) (State.isArrayOf_alike hZ.alike Ar26.2.1) (g := (mkF m 22 #[.val (.ref r0), .val (.int (0 : Int32)), .val (.ref nb), .val (.ref b4), .val (.int (7 : Int32))] [(.ref nb), (.int (7 : Int32))])) rfl rfl (hb hby d7_22) t (by rw [len_of S26 N26_]; exact k)) ?_
  refine own_go (G := T25.setTop (mkF m 26 #[.val (.ref r0), .val (.int (0 : Int32)), .val (.ref nb), .val (.ref b4), .val (.int (7 : Int32))] [])) (fun _ k => XS.icmpNo X25.here hx rfl (hb hby d7_23) rfl (tlt (by decide : (7 : Int32) < (64 : Int32))).2.1 k) ?_
  refine own_go (G := T25.setTop (mkF m 27 #[.val (.ref r0), .val (.int (0 : Int32)), .val (.ref nb), .val (.ref b4), .val (.int (7 : Int32))] [(.ref b4)])) (fun _ k => XS.aloadN X25.here hx rfl (hb hby d7_26) rfl rfl k) ?_
  refine own_go (G := T25.setTop (mkF m 29 #[.val (.ref r0), .val (.int (0 : Int32)), .val (.ref nb), .val (.ref b4), .val (.int (7 : Int32))] [(.int (7 : Int32)), (.ref b4)])) (fun _ k => XS.iload X25.here hx rfl (hb hby d7_27) rfl k) ?_
  refine own_go (G := T25.setTop (mkF m 30 #[.val (.ref r0), .val (.int (0 : Int32)), .val (.ref nb), .val (.ref b4), .val (.int (7 : Int32))] [(.ref nb), (.int (7 : Int32)), (.ref b4)])) (fun _ k => XS.aloadN X25.here hx rfl (hb hby d7_29) rfl rfl k) ?_
  refine own_go (G := T25.setTop (mkF m 32 #[.val (.ref r0), .val (.int (0 : Int32)), .val (.ref nb), .val (.ref b4), .val (.int (7 : Int32))] [(.int (7 : Int32)), (.ref nb), (.int (7 : Int32)), (.ref b4)])) (fun _ k => XS.iload X25.here hx rfl (hb hby d7_30) rfl k) ?_
  obtain ⟨cl27, Ar27, qk27, S27, N27_, Ha27, G27⟩ := id V_nb_c25
  have hin27 : ¬ ((7 : Int32) < 0 ∨ cl27.slots.size ≤ ((7 : Int32)).toNatClampNeg) := inb_of S27 ⟨by decide, by decide⟩
  have hat27 : cl27.slots[((7 : Int32)).toNatClampNeg]? = some (.int (0 : Int32)) := Ha27.at hin27 rfl
  refine own_go (G := T25.setTop (mkF m 33 #[.val (.ref r0), .val (.int (0 : Int32)), .val (.ref nb), .val (.ref b4), .val (.int (7 : Int32))] [(.int (0 : Int32)), (.int (7 : Int32)), (.ref b4)])) (X25.baloadBytes hx (j := (7 : Int32)) (v := (.int (0 : Int32))) (by rw [e25]; exact Ar27.1) (State.isArrayOf_alike hZ.alike Ar27.2.1) Ar27.2.2 hin27 hat27 (g := (mkF m 32 #[.val (.ref r0), .val (.int (0 : Int32)), .val (.ref nb), .val (.ref b4), .val (.int (7 : Int32))] [(.int (7 : Int32)), (.ref nb), (.int (7 : Int32)), (.ref b4)])) rfl rfl (hb hby d7_32)) ?_
  refine own_go (G := T25.setTop (mkF m 36 #[.val (.ref r0), .val (.int (0 : Int32)), .val (.ref nb), .val (.ref b4), .val (.int (7 : Int32))] [(.int (255 : Int32)), (.int (0 : Int32)), (.int (7 : Int32)), (.ref b4)])) (fun _ k => XS.sipush X25.here hx rfl (hb hby d7_33) k) ?_
  refine own_go (G := T25.setTop (mkF m 37 #[.val (.ref r0), .val (.int (0 : Int32)), .val (.ref nb), .val (.ref b4), .val (.int (7 : Int32))] [(.int ((0 : Int32) &&& (255 : Int32))), (.int (7 : Int32)), (.ref b4)])) (fun _ k => XS.iand X25.here hx rfl (hb hby d7_36) rfl k) ?_
  rw [show ((0 : Int32) &&& (255 : Int32)) = (0 : Int32) from by decide]
  refine own_go (G := T25.setTop (mkF m 38 #[.val (.ref r0), .val (.int (0 : Int32)), .val (.ref nb), .val (.ref b4), .val (.int (7 : Int32))] [(.int ((0 : Int32).toUInt32.toUInt16.toUInt32.toInt32)), (.int (7 : Int32)), (.ref b4)])) (fun _ k => XS.i2c X25.here hx rfl (hb hby d7_37) rfl k) ?_
  rw [show ((0 : Int32).toUInt32.toUInt16.toUInt32.toInt32) = (0 : Int32) from by decide]
  obtain ⟨cl28, Ar28, qk28, S28, N28_, Ha28, G28⟩ := id V25_b4
  have hin28 : ¬ ((7 : Int32) < 0 ∨ cl28.slots.size ≤ ((7 : Int32)).toNatClampNeg) := inb_of S28 ⟨by decide, by decide⟩
  obtain ⟨T28, h28, X28, e28, W28, st28⟩ := stC X25 hx hZ e25 Ar28 (j := (7 : Int32)) hin28 (g := (mkF m 38 #[.val (.ref r0), .val (.int (0 : Int32)), .val (.ref nb), .val (.ref b4), .val (.int (7 : Int32))] [(.int (0 : Int32)), (.int (7 : Int32)), (.ref b4)])) rfl rfl (hb hby d7_38)
  have V28_b4 : Arv Z h28 b4 k4 .char (64 : Int32) (own_B (nar .char ((x0 &&& (255 : Int32)).toUInt32.toUInt16.toUInt32.toInt32)) (nar .char ((x1 &&& (255 : Int32)).toUInt32.toUInt16.toUInt32.toInt32)) (nar .char ((x2 &&& (255 : Int32)).toUInt32.toUInt16.toUInt32.toInt32))) (.int (0 : Int32)) := Arv.set Ar28 qk28 S28 N28_ Ha28 G28 (fits_nar_char _) W28 7 rfl (Nat.le_of_ble_eq_true rfl)
  have E_r0_c28 : Exa Z h28 r0 "com/example/xrefloom/xrefloom/tree/CompactText" := E_r0_c25.wr W28
  have F_length_c28 : Fld Z h28 r0 "com/example/xrefloom/xrefloom/tree/CompactText" "length" "I" (.int len) := F_length_c25.other W28 (Or.inl ne_r0_b4)
  have F_narrow_c28 : Fld Z h28 r0 "com/example/xrefloom/xrefloom/tree/CompactText" "narrow" "[[B" (.ref na) := F_narrow_c25.other W28 (Or.inl ne_r0_b4)
  have F_wide_c28 : Fld Z h28 r0 "com/example/xrefloom/xrefloom/tree/CompactText" "wide" "[[C" (.ref wa) := F_wide_c25.other W28 (Or.inl ne_r0_b4)
  have V_na_c28 : Arv Z h28 na kn (.array .byte) (1 : Int32) [(.ref nb)] .null := V_na_c25.other W28 ne_na_b4
  have V_wa_c28 : Arv Z h28 wa kw (.array .char) (1 : Int32) [.null] .null := V_wa_c25.other W28 ne_wa_b4
  have V_nb_c28 : Arv Z h28 nb kb .byte (64 : Int32) (own_B x0 x1 x2) (.int (0 : Int32)) := V_nb_c25.other W28 ne_nb_b4
  have Ea4_c28 : Exa Z h28 b4 "[C" := Ea4_c25.wr W28
  have N28 := Fr.snoc X28 N25 gn_b4
  have Z28 : n0 ≤ h28.size := Nat.le_trans Z25 (Keep.of_wr W28).1
  refine own_go (G := T28.setTop (mkF m 39 #[.val (.ref r0), .val (.int (0 : Int32)), .val (.ref nb), .val (.ref b4), .val (.int (7 : Int32))] [])) (st28) ?_
  refine own_go (G := T28.setTop (mkF m 42 #[.val (.ref r0), .val (.int (0 : Int32)), .val (.ref nb), .val (.ref b4), .val (.int ((7 : Int32) + (1 : Int32)))] [])) (fun _ k => XS.iinc X28.here hx rfl (hb hby d7_39) rfl (l' := #[.val (.ref r0), .val (.int (0 : Int32)), .val (.ref nb), .val (.ref b4), .val (.int ((7 : Int32) + (1 : Int32)))]) rfl k) ?_
  rw [show ((7 : Int32) + (1 : Int32)) = (8 : Int32) from by decide]
  refine own_go (G := T28.setTop (mkF m 19 #[.val (.ref r0), .val (.int (0 : Int32)), .val (.ref nb), .val (.ref b4), .val (.int (8 : Int32))] [])) (fun _ k => XS.goto X28.here hx rfl (pc0 := 42) (pc' := 19) rfl (hb hby d7_42) (by decide) (by decide) k) ?_
  refine own_go (G := T28.setTop (mkF m 21 #[.val (.ref r0), .val (.int (0 : Int32)), .val (.ref nb), .val (.ref b4), .val (.int (8 : Int32))] [(.int (8 : Int32))])) (fun _ k => XS.iload X28.here hx rfl (hb hby d7_19) rfl k) ?_
  refine own_go (G := T28.setTop (mkF m 22 #[.val (.ref r0), .val (.int (0 : Int32)), .val (.ref nb), .val (.ref b4), .val (.int (8 : Int32))] [(.ref nb), (.int (8 : Int32))])) (fun _ k => XS.aloadN X28.here hx rfl (hb hby d7_21) rfl rfl k) ?_
  obtain ⟨cl29, Ar29, -, S29, N29_, -, -⟩ := id V_nb_c28
  refine own_go (G := T28.setTop (mkF m 23 #[.val (.ref r0), .val (.int (0 : Int32)), .val (.ref nb), .val (.ref b4), .val (.int (8 : Int32))] [(.int (64 : Int32)), (.int (8 : Int32))])) (fun t k => X28.arraylength hx (by rw [e28]; exact Ar29.1) (State.isArrayOf_alike hZ.alike Ar29.2.1) (g := (mkF m 22 #[.val (.ref r0), .val (.int (0 : Int32)), .val (.ref nb), .val (.ref b4), .val (.int (8 : Int32))] [(.ref nb), (.int (8 : Int32))])) rfl rfl (hb hby d7_22) t (by rw [len_of S29 N29_]; exact k)) ?_
  refine own_go (G := T28.setTop (mkF m 26 #[.val (.ref r0), .val (.int (0 : Int32)), .val (.ref nb), .val (.ref b4), .val (.int (8 : Int32))] [])) (fun _ k => XS.icmpNo X28.here hx rfl (hb hby d7_23) rfl (tlt (by decide : (8 : Int32) < (64 : Int32))).2.1 k) ?_
  refine own_go (G := T28.setTop (mkF m 27 #[.val (.ref r0), .val (.int (0 : Int32)), .val (.ref nb), .val (.ref b4), .val (.int (8 : Int32))] [(.ref b4)])) (fun _ k => XS.aloadN X28.here hx rfl (hb hby d7_26) rfl rfl k) ?_
  refine own_go (G := T28.setTop (mkF m 29 #[.val (.ref r0), .val (.int (0 : Int32)), .val (.ref nb), .val (.ref b4), .val (.int (8 : Int32))] [(.int (8 : Int32)), (.ref b4)])) (fun _ k => XS.iload X28.here hx rfl (hb hby d7_27) rfl k) ?_
  refine own_go (G := T28.setTop (mkF m 30 #[.val (.ref r0), .val (.int (0 : Int32)), .val (.ref nb), .val (.ref b4), .val (.int (8 : Int32))] [(.ref nb), (.int (8 : Int32)), (.ref b4)])) (fun _ k => XS.aloadN X28.here hx rfl (hb hby d7_29) rfl rfl k) ?_
  refine own_go (G := T28.setTop (mkF m 32 #[.val (.ref r0), .val (.int (0 : Int32)), .val (.ref nb), .val (.ref b4), .val (.int (8 : Int32))] [(.int (8 : Int32)), (.ref nb), (.int (8 : Int32)), (.ref b4)])) (fun _ k => XS.iload X28.here hx rfl (hb hby d7_30) rfl k) ?_
  obtain ⟨cl30, Ar30, qk30, S30, N30_, Ha30, G30⟩ := id V_nb_c28
  have hin30 : ¬ ((8 : Int32) < 0 ∨ cl30.slots.size ≤ ((8 : Int32)).toNatClampNeg) := inb_of S30 ⟨by decide, by decide⟩
  have hat30 : cl30.slots[((8 : Int32)).toNatClampNeg]? = some (.int (0 : Int32)) := Ha30.at hin30 rfl
  refine own_go (G := T28.setTop (mkF m 33 #[.val (.ref r0), .val (.int (0 : Int32)), .val (.ref nb), .val (.ref b4), .val (.int (8 : Int32))] [(.int (0 : Int32)), (.int (8 : Int32)), (.ref b4)])) (X28.baloadBytes hx (j := (8 : Int32)) (v := (.int (0 : Int32))) (by rw [e28]; exact Ar30.1) (State.isArrayOf_alike hZ.alike Ar30.2.1) Ar30.2.2 hin30 hat30 (g := (mkF m 32 #[.val (.ref r0), .val (.int (0 : Int32)), .val (.ref nb), .val (.ref b4), .val (.int (8 : Int32))] [(.int (8 : Int32)), (.ref nb), (.int (8 : Int32)), (.ref b4)])) rfl rfl (hb hby d7_32)) ?_
  refine own_go (G := T28.setTop (mkF m 36 #[.val (.ref r0), .val (.int (0 : Int32)), .val (.ref nb), .val (.ref b4), .val (.int (8 : Int32))] [(.int (255 : Int32)), (.int (0 : Int32)), (.int (8 : Int32)), (.ref b4)])) (fun _ k => XS.sipush X28.here hx rfl (hb hby d7_33) k) ?_
  refine own_go (G := T28.setTop (mkF m 37 #[.val (.ref r0), .val (.int (0 : Int32)), .val (.ref nb), .val (.ref b4), .val (.int (8 : Int32))] [(.int ((0 : Int32) &&& (255 : Int32))), (.int (8 : Int32)), (.ref b4)])) (fun _ k => XS.iand X28.here hx rfl (hb hby d7_36) rfl k) ?_
  rw [show ((0 : Int32) &&& (255 : Int32)) = (0 : Int32) from by decide]
  refine own_go (G := T28.setTop (mkF m 38 #[.val (.ref r0), .val (.int (0 : Int32)), .val (.ref nb), .val (.ref b4), .val (.int (8 : Int32))] [(.int ((0 : Int32).toUInt32.toUInt16.toUInt32.toInt32)), (.int (8 : Int32)), (.ref b4)])) (fun _ k => XS.i2c X28.here hx rfl (hb hby d7_37) rfl k) ?_
  rw [show ((0 : Int32).toUInt32.toUInt16.toUInt32.toInt32) = (0 : Int32) from by decide]
  obtain ⟨cl31, Ar31, qk31, S31, N31_, Ha31, G31⟩ := id V28_b4
  have hin31 : ¬ ((8 : Int32) < 0 ∨ cl31.slots.size ≤ ((8 : Int32)).toNatClampNeg) := inb_of S31 ⟨by decide, by decide⟩
  obtain ⟨T31, h31, X31, e31, W31, st31⟩ := stC X28 hx hZ e28 Ar31 (j := (8 : Int32)) hin31 (g := (mkF m 38 #[.val (.ref r0), .val (.int (0 : Int32)), .val (.ref nb), .val (.ref b4), .val (.int (8 : Int32))] [(.int (0 : Int32)), (.int (8 : Int32)), (.ref b4)])) rfl rfl (hb hby d7_38)
  have V31_b4 : Arv Z h31 b4 k4 .char (64 : Int32) (own_B (nar .char ((x0 &&& (255 : Int32)).toUInt32.toUInt16.toUInt32.toInt32)) (nar .char ((x1 &&& (255 : Int32)).toUInt32.toUInt16.toUInt32.toInt32)) (nar .char ((x2 &&& (255 : Int32)).toUInt32.toUInt16.toUInt32.toInt32))) (.int (0 : Int32)) := Arv.set Ar31 qk31 S31 N31_ Ha31 G31 (fits_nar_char _) W31 8 rfl (Nat.le_of_ble_eq_true rfl)
  have E_r0_c31 : Exa Z h31 r0 "com/example/xrefloom/xrefloom/tree/CompactText" := E_r0_c28.wr W31
  have F_length_c31 : Fld Z h31 r0 "com/example/xrefloom/xrefloom/tree/CompactText" "length" "I" (.int len) := F_length_c28.other W31 (Or.inl ne_r0_b4)
  have F_narrow_c31 : Fld Z h31 r0 "com/example/xrefloom/xrefloom/tree/CompactText" "narrow" "[[B" (.ref na) := F_narrow_c28.other W31 (Or.inl ne_r0_b4)
  have F_wide_c31 : Fld Z h31 r0 "com/example/xrefloom/xrefloom/tree/CompactText" "wide" "[[C" (.ref wa) := F_wide_c28.other W31 (Or.inl ne_r0_b4)
  have V_na_c31 : Arv Z h31 na kn (.array .byte) (1 : Int32) [(.ref nb)] .null := V_na_c28.other W31 ne_na_b4
  have V_wa_c31 : Arv Z h31 wa kw (.array .char) (1 : Int32) [.null] .null := V_wa_c28.other W31 ne_wa_b4
  have V_nb_c31 : Arv Z h31 nb kb .byte (64 : Int32) (own_B x0 x1 x2) (.int (0 : Int32)) := V_nb_c28.other W31 ne_nb_b4
  have Ea4_c31 : Exa Z h31 b4 "[C" := Ea4_c28.wr W31
  have N31 := Fr.snoc X31 N28 gn_b4
  have Z31 : n0 ≤ h31.size := Nat.le_trans Z28 (Keep.of_wr W31).1
  refine own_go (G := T31.setTop (mkF m 39 #[.val (.ref r0), .val (.int (0 : Int32)), .val (.ref nb), .val (.ref b4), .val (.int (8 : Int32))] [])) (st31) ?_
  refine own_go (G := T31.setTop (mkF m 42 #[.val (.ref r0), .val (.int (0 : Int32)), .val (.ref nb), .val (.ref b4), .val (.int ((8 : Int32) + (1 : Int32)))] [])) (fun _ k => XS.iinc X31.here hx rfl (hb hby d7_39) rfl (l' := #[.val (.ref r0), .val (.int (0 : Int32)), .val (.ref nb), .val (.ref b4), .val (.int ((8 : Int32) + (1 : Int32)))]) rfl k) ?_
  rw [show ((8 : Int32) + (1 : Int32)) = (9 : Int32) from by decide]
  refine own_go (G := T31.setTop (mkF m 19 #[.val (.ref r0), .val (.int (0 : Int32)), .val (.ref nb), .val (.ref b4), .val (.int (9 : Int32))] [])) (fun _ k => XS.goto X31.here hx rfl (pc0 := 42) (pc' := 19) rfl (hb hby d7_42) (by decide) (by decide) k) ?_
  refine own_go (G := T31.setTop (mkF m 21 #[.val (.ref r0), .val (.int (0 : Int32)), .val (.ref nb), .val (.ref b4), .val (.int (9 : Int32))] [(.int (9 : Int32))])) (fun _ k => XS.iload X31.here hx rfl (hb hby d7_19) rfl k) ?_
  refine own_go (G := T31.setTop (mkF m 22 #[.val (.ref r0), .val (.int (0 : Int32)), .val (.ref nb), .val (.ref b4), .val (.int (9 : Int32))] [(.ref nb), (.int (9 : Int32))])) (fun _ k => XS.aloadN X31.here hx rfl (hb hby d7_21) rfl rfl k) ?_
  obtain ⟨cl32, Ar32, -, S32, N32_, -, -⟩ := id V_nb_c31
  refine own_go (G := T31.setTop (mkF m 23 #[.val (.ref r0), .val (.int (0 : Int32)), .val (.ref nb), .val (.ref b4), .val (.int (9 : Int32))] [(.int (64 : Int32)), (.int (9 : Int32))])) (fun t k => X31.arraylength hx (by rw [e31]; exact Ar32.1) (State.isArrayOf_alike hZ.alike Ar32.2.1) (g := (mkF m 22 #[.val (.ref r0), .val (.int (0 : Int32)), .val (.ref nb), .val (.ref b4), .val (.int (9 : Int32))] [(.ref nb), (.int (9 : Int32))])) rfl rfl (hb hby d7_22) t (by rw [len_of S32 N32_]; exact k)) ?_
  refine own_go (G := T31.setTop (mkF m 26 #[.val (.ref r0), .val (.int (0 : Int32)), .val (.ref nb), .val (.ref b4), .val (.int (9 : Int32))] [])) (fun _ k => XS.icmpNo X31.here hx rfl (hb hby d7_23) rfl (tlt (by decide : (9 : Int32) < (64 : Int32))).2.1 k) ?_
  refine own_go (G := T31.setTop (mkF m 27 #[.val (.ref r0), .val (.int (0 : Int32)), .val (.ref nb), .val (.ref b4), .val (.int (9 : Int32))] [(.ref b4)])) (fun _ k => XS.aloadN X31.here hx rfl (hb hby d7_26) rfl rfl k) ?_
  refine own_go (G := T31.setTop (mkF m 29 #[.val (.ref r0), .val (.int (0 : Int32)), .val (.ref nb), .val (.ref b4), .val (.int (9 : Int32))] [(.int (9 : Int32)), (.ref b4)])) (fun _ k => XS.iload X31.here hx rfl (hb hby d7_27) rfl k) ?_
  refine own_go (G := T31.setTop (mkF m 30 #[.val (.ref r0), .val (.int (0 : Int32)), .val (.ref nb), .val (.ref b4), .val (.int (9 : Int32))] [(.ref nb), (.int (9 : Int32)), (.ref b4)])) (fun _ k => XS.aloadN X31.here hx rfl (hb hby d7_29) rfl rfl k) ?_
  refine own_go (G := T31.setTop (mkF m 32 #[.val (.ref r0), .val (.int (0 : Int32)), .val (.ref nb), .val (.ref b4), .val (.int (9 : Int32))] [(.int (9 : Int32)), (.ref nb), (.int (9 : Int32)), (.ref b4)])) (fun _ k => XS.iload X31.here hx rfl (hb hby d7_30) rfl k) ?_
  obtain ⟨cl33, Ar33, qk33, S33, N33_, Ha33, G33⟩ := id V_nb_c31
  have hin33 : ¬ ((9 : Int32) < 0 ∨ cl33.slots.size ≤ ((9 : Int32)).toNatClampNeg) := inb_of S33 ⟨by decide, by decide⟩
  have hat33 : cl33.slots[((9 : Int32)).toNatClampNeg]? = some (.int (0 : Int32)) := Ha33.at hin33 rfl
  refine own_go (G := T31.setTop (mkF m 33 #[.val (.ref r0), .val (.int (0 : Int32)), .val (.ref nb), .val (.ref b4), .val (.int (9 : Int32))] [(.int (0 : Int32)), (.int (9 : Int32)), (.ref b4)])) (X31.baloadBytes hx (j := (9 : Int32)) (v := (.int (0 : Int32))) (by rw [e31]; exact Ar33.1) (State.isArrayOf_alike hZ.alike Ar33.2.1) Ar33.2.2 hin33 hat33 (g := (mkF m 32 #[.val (.ref r0), .val (.int (0 : Int32)), .val (.ref nb), .val (.ref b4), .val (.int (9 : Int32))] [(.int (9 : Int32)), (.ref nb), (.int (9 : Int32)), (.ref b4)])) rfl rfl (hb hby d7_32)) ?_
  refine own_go (G := T31.setTop (mkF m 36 #[.val (.ref r0), .val (.int (0 : Int32)), .val (.ref nb), .val (.ref b4), .val (.int (9 : Int32))] [(.int (255 : Int32)), (.int (0 : Int32)), (.int (9 : Int32)), (.ref b4)])) (fun _ k => XS.sipush X31.here hx rfl (hb hby d7_33) k) ?_
  refine own_go (G := T31.setTop (mkF m 37 #[.val (.ref r0), .val (.int (0 : Int32)), .val (.ref nb), .val (.ref b4), .val (.int (9 : Int32))] [(.int ((0 : Int32) &&& (255 : Int32))), (.int (9 : Int32)), (.ref b4)])) (fun _ k => XS.iand X31.here hx rfl (hb hby d7_36) rfl k) ?_
  rw [show ((0 : Int32) &&& (255 : Int32)) = (0 : Int32) from by decide]
  refine own_go (G := T31.setTop (mkF m 38 #[.val (.ref r0), .val (.int (0 : Int32)), .val (.ref nb), .val (.ref b4), .val (.int (9 : Int32))] [(.int ((0 : Int32).toUInt32.toUInt16.toUInt32.toInt32)), (.int (9 : Int32)), (.ref b4)])) (fun _ k => XS.i2c X31.here hx rfl (hb hby d7_37) rfl k) ?_
  rw [show ((0 : Int32).toUInt32.toUInt16.toUInt32.toInt32) = (0 : Int32) from by decide]
  obtain ⟨cl34, Ar34, qk34, S34, N34_, Ha34, G34⟩ := id V31_b4
  have hin34 : ¬ ((9 : Int32) < 0 ∨ cl34.slots.size ≤ ((9 : Int32)).toNatClampNeg) := inb_of S34 ⟨by decide, by decide⟩
  obtain ⟨T34, h34, X34, e34, W34, st34⟩ := stC X31 hx hZ e31 Ar34 (j := (9 : Int32)) hin34 (g := (mkF m 38 #[.val (.ref r0), .val (.int (0 : Int32)), .val (.ref nb), .val (.ref b4), .val (.int (9 : Int32))] [(.int (0 : Int32)), (.int (9 : Int32)), (.ref b4)])) rfl rfl (hb hby d7_38)
  have V34_b4 : Arv Z h34 b4 k4 .char (64 : Int32) (own_B (nar .char ((x0 &&& (255 : Int32)).toUInt32.toUInt16.toUInt32.toInt32)) (nar .char ((x1 &&& (255 : Int32)).toUInt32.toUInt16.toUInt32.toInt32)) (nar .char ((x2 &&& (255 : Int32)).toUInt32.toUInt16.toUInt32.toInt32))) (.int (0 : Int32)) := Arv.set Ar34 qk34 S34 N34_ Ha34 G34 (fits_nar_char _) W34 9 rfl (Nat.le_of_ble_eq_true rfl)
  have E_r0_c34 : Exa Z h34 r0 "com/example/xrefloom/xrefloom/tree/CompactText" := E_r0_c31.wr W34
  have F_length_c34 : Fld Z h34 r0 "com/example/xrefloom/xrefloom/tree/CompactText" "length" "I" (.int len) := F_length_c31.other W34 (Or.inl ne_r0_b4)
  have F_narrow_c34 : Fld Z h34 r0 "com/example/xrefloom/xrefloom/tree/CompactText" "narrow" "[[B" (.ref na) := F_narrow_c31.other W34 (Or.inl ne_r0_b4)
  have F_wide_c34 : Fld Z h34 r0 "com/example/xrefloom/xrefloom/tree/CompactText" "wide" "[[C" (.ref wa) := F_wide_c31.other W34 (Or.inl ne_r0_b4)
  have V_na_c34 : Arv Z h34 na kn (.array .byte) (1 : Int32) [(.ref nb)] .null := V_na_c31.other W34 ne_na_b4
  have V_wa_c34 : Arv Z h34 wa kw (.array .char) (1 : Int32) [.null] .null := V_wa_c31.other W34 ne_wa_b4
  have V_nb_c34 : Arv Z h34 nb kb .byte (64 : Int32) (own_B x0 x1 x2) (.int (0 : Int32)) := V_nb_c31.other W34 ne_nb_b4
  have Ea4_c34 : Exa Z h34 b4 "[C" := Ea4_c31.wr W34
  have N34 := Fr.snoc X34 N31 gn_b4
  have Z34 : n0 ≤ h34.size := Nat.le_trans Z31 (Keep.of_wr W34).1
  refine own_go (G := T34.setTop (mkF m 39 #[.val (.ref r0), .val (.int (0 : Int32)), .val (.ref nb), .val (.ref b4), .val (.int (9 : Int32))] [])) (st34) ?_
  refine own_go (G := T34.setTop (mkF m 42 #[.val (.ref r0), .val (.int (0 : Int32)), .val (.ref nb), .val (.ref b4), .val (.int ((9 : Int32) + (1 : Int32)))] [])) (fun _ k => XS.iinc X34.here hx rfl (hb hby d7_39) rfl (l' := #[.val (.ref r0), .val (.int (0 : Int32)), .val (.ref nb), .val (.ref b4), .val (.int ((9 : Int32) + (1 : Int32)))]) rfl k) ?_
  rw [show ((9 : Int32) + (1 : Int32)) = (10 : Int32) from by decide]
  refine own_go (G := T34.setTop (mkF m 19 #[.val (.ref r0), .val (.int (0 : Int32)), .val (.ref nb), .val (.ref b4), .val (.int (10 : Int32))] [])) (fun _ k => XS.goto X34.here hx rfl (pc0 := 42) (pc' := 19) rfl (hb hby d7_42) (by decide) (by decide) k) ?_
  refine own_go (G := T34.setTop (mkF m 21 #[.val (.ref r0), .val (.int (0 : Int32)), .val (.ref nb), .val (.ref b4), .val (.int (10 : Int32))] [(.int (10 : Int32))])) (fun _ k => XS.iload X34.here hx rfl (hb hby d7_19) rfl k) ?_
  refine own_go (G := T34.setTop (mkF m 22 #[.val (.ref r0), .val (.int (0 : Int32)), .val (.ref nb), .val (.ref b4), .val (.int (10 : Int32))] [(.ref nb), (.int (10 : Int32))])) (fun _ k => XS.aloadN X34.here hx rfl (hb hby d7_21) rfl rfl k) ?_
  obtain ⟨cl35, Ar35, -, S35, N35_, -, -⟩ := id V_nb_c34
  refine own_go (G := T34.setTop (mkF m 23 #[.val (.ref r0), .val (.int (0 : Int32)), .val (.ref nb), .val (.ref b4), .val (.int (10 : Int32))] [(.int (64 : Int32)), (.int (10 : Int32))])) (fun t k => X34.arraylength hx (by rw [e34]; exact Ar35.1) (State.isArrayOf_alike hZ.alike Ar35.2.1) (g := (mkF m 22 #[.val (.ref r0), .val (.int (0 : Int32)), .val (.ref nb), .val (.ref b4), .val (.int (10 : Int32))] [(.ref nb), (.int (10 : Int32))])) rfl rfl (hb hby d7_22) t (by rw [len_of S35 N35_]; exact k)) ?_
  refine own_go (G := T34.setTop (mkF m 26 #[.val (.ref r0), .val (.int (0 : Int32)), .val (.ref nb), .val (.ref b4), .val (.int (10 : Int32))] [])) (fun _ k => XS.icmpNo X34.here hx rfl (hb hby d7_23) rfl (tlt (by decide : (10 : Int32) < (64 : Int32))).2.1 k) ?_
  refine own_go (G := T34.setTop (mkF m 27 #[.val (.ref r0), .val (.int (0 : Int32)), .val (.ref nb), .val (.ref b4), .val (.int (10 : Int32))] [(.ref b4)])) (fun _ k => XS.aloadN X34.here hx rfl (hb hby d7_26) rfl rfl k) ?_
  refine own_go (G := T34.setTop (mkF m 29 #[.val (.ref r0), .val (.int (0 : Int32)), .val (.ref nb), .val (.ref b4), .val (.int (10 : Int32))] [(.int (10 : Int32)), (.ref b4)])) (fun _ k => XS.iload X34.here hx rfl (hb hby d7_27) rfl k) ?_
  refine own_go (G := T34.setTop (mkF m 30 #[.val (.ref r0), .val (.int (0 : Int32)), .val (.ref nb), .val (.ref b4), .val (.int (10 : Int32))] [(.ref nb), (.int (10 : Int32)), (.ref b4)])) (fun _ k => XS.aloadN X34.here hx rfl (hb hby d7_29) rfl rfl k) ?_
  refine own_go (G := T34.setTop (mkF m 32 #[.val (.ref r0), .val (.int (0 : Int32)), .val (.ref nb), .val (.ref b4), .val (.int (10 : Int32))] [(.int (10 : Int32)), (.ref nb), (.int (10 : Int32)), (.ref b4)])) (fun _ k => XS.iload X34.here hx rfl (hb hby d7_30) rfl k) ?_
  obtain ⟨cl36, Ar36, qk36, S36, N36_, Ha36, G36⟩ := id V_nb_c34
  have hin36 : ¬ ((10 : Int32) < 0 ∨ cl36.slots.size ≤ ((10 : Int32)).toNatClampNeg) := inb_of S36 ⟨by decide, by decide⟩
  have hat36 : cl36.slots[((10 : Int32)).toNatClampNeg]? = some (.int (0 : Int32)) := Ha36.at hin36 rfl
  refine own_go (G := T34.setTop (mkF m 33 #[.val (.ref r0), .val (.int (0 : Int32)), .val (.ref nb), .val (.ref b4), .val (.int (10 : Int32))] [(.int (0 : Int32)), (.int (10 : Int32)), (.ref b4)])) (X34.baloadBytes hx (j := (10 : Int32)) (v := (.int (0 : Int32))) (by rw [e34]; exact Ar36.1) (State.isArrayOf_alike hZ.alike Ar36.2.1) Ar36.2.2 hin36 hat36 (g := (mkF m 32 #[.val (.ref r0), .val (.int (0 : Int32)), .val (.ref nb), .val (.ref b4), .val (.int (10 : Int32))] [(.int (10 : Int32)), (.ref nb), (.int (10 : Int32)), (.ref b4)])) rfl rfl (hb hby d7_32)) ?_
  refine own_go (G := T34.setTop (mkF m 36 #[.val (.ref r0), .val (.int (0 : Int32)), .val (.ref nb), .val (.ref b4), .val (.int (10 : Int32))] [(.int (255 : Int32)), (.int (0 : Int32)), (.int (10 : Int32)), (.ref b4)])) (fun _ k => XS.sipush X34.here hx rfl (hb hby d7_33) k) ?_
  refine own_go (G := T34.setTop (mkF m 37 #[.val (.ref r0), .val (.int (0 : Int32)), .val (.ref nb), .val (.ref b4), .val (.int (10 : Int32))] [(.int ((0 : Int32) &&& (255 : Int32))), (.int (10 : Int32)), (.ref b4)])) (fun _ k => XS.iand X34.here hx rfl (hb hby d7_36) rfl k) ?_
  rw [show ((0 : Int32) &&& (255 : Int32)) = (0 : Int32) from by decide]
  refine own_go (G := T34.setTop (mkF m 38 #[.val (.ref r0), .val (.int (0 : Int32)), .val (.ref nb), .val (.ref b4), .val (.int (10 : Int32))] [(.int ((0 : Int32).toUInt32.toUInt16.toUInt32.toInt32)), (.int (10 : Int32)), (.ref b4)])) (fun _ k => XS.i2c X34.here hx rfl (hb hby d7_37) rfl k) ?_
  rw [show ((0 : Int32).toUInt32.toUInt16.toUInt32.toInt32) = (0 : Int32) from by decide]
  obtain ⟨cl37, Ar37, qk37, S37, N37_, Ha37, G37⟩ := id V34_b4
  have hin37 : ¬ ((10 : Int32) < 0 ∨ cl37.slots.size ≤ ((10 : Int32)).toNatClampNeg) := inb_of S37 ⟨by decide, by decide⟩
  obtain ⟨T37, h37, X37, e37, W37, st37⟩ := stC X34 hx hZ e34 Ar37 (j := (10 : Int32)) hin37 (g := (mkF m 38 #[.val (.ref r0), .val (.int (0 : Int32)), .val (.ref nb), .val (.ref b4), .val (.int (10 : Int32))] [(.int (0 : Int32)), (.int (10 : Int32)), (.ref b4)])) rfl rfl (hb hby d7_38)
  have V37_b4 : Arv Z h37 b4 k4 .char (64 : Int32) (own_B (nar .char ((x0 &&& (255 : Int32)).toUInt32.toUInt16.toUInt32.toInt32)) (nar .char ((x1 &&& (255 : Int32)).toUInt32.toUInt16.toUInt32.toInt32)) (nar .char ((x2 &&& (255 : Int32)).toUInt32.toUInt16.toUInt32.toInt32))) (.int (0 : Int32)) := Arv.set Ar37 qk37 S37 N37_ Ha37 G37 (fits_nar_char _) W37 10 rfl (Nat.le_of_ble_eq_true rfl)
  have E_r0_c37 : Exa Z h37 r0 "com/example/xrefloom/xrefloom/tree/CompactText" := E_r0_c34.wr W37
  have F_length_c37 : Fld Z h37 r0 "com/example/xrefloom/xrefloom/tree/CompactText" "length" "I" (.int len) := F_length_c34.other W37 (Or.inl ne_r0_b4)
  have F_narrow_c37 : Fld Z h37 r0 "com/example/xrefloom/xrefloom/tree/CompactText" "narrow" "[[B" (.ref na) := F_narrow_c34.other W37 (Or.inl ne_r0_b4)
  have F_wide_c37 : Fld Z h37 r0 "com/example/xrefloom/xrefloom/tree/CompactText" "wide" "[[C" (.ref wa) := F_wide_c34.other W37 (Or.inl ne_r0_b4)
  have V_na_c37 : Arv Z h37 na kn (.array .byte) (1 : Int32) [(.ref nb)] .null := V_na_c34.other W37 ne_na_b4
  have V_wa_c37 : Arv Z h37 wa kw (.array .char) (1 : Int32) [.null] .null := V_wa_c34.other W37 ne_wa_b4
  have V_nb_c37 : Arv Z h37 nb kb .byte (64 : Int32) (own_B x0 x1 x2) (.int (0 : Int32)) := V_nb_c34.other W37 ne_nb_b4
  have Ea4_c37 : Exa Z h37 b4 "[C" := Ea4_c34.wr W37
  have N37 := Fr.snoc X37 N34 gn_b4
  have Z37 : n0 ≤ h37.size := Nat.le_trans Z34 (Keep.of_wr W37).1
  refine own_go (G := T37.setTop (mkF m 39 #[.val (.ref r0), .val (.int (0 : Int32)), .val (.ref nb), .val (.ref b4), .val (.int (10 : Int32))] [])) (st37) ?_
  refine own_go (G := T37.setTop (mkF m 42 #[.val (.ref r0), .val (.int (0 : Int32)), .val (.ref nb), .val (.ref b4), .val (.int ((10 : Int32) + (1 : Int32)))] [])) (fun _ k => XS.iinc X37.here hx rfl (hb hby d7_39) rfl (l' := #[.val (.ref r0), .val (.int (0 : Int32)), .val (.ref nb), .val (.ref b4), .val (.int ((10 : Int32) + (1 : Int32)))]) rfl k) ?_
  rw [show ((10 : Int32) + (1 : Int32)) = (11 : Int32) from by decide]
  refine own_go (G := T37.setTop (mkF m 19 #[.val (.ref r0), .val (.int (0 : Int32)), .val (.ref nb), .val (.ref b4), .val (.int (11 : Int32))] [])) (fun _ k => XS.goto X37.here hx rfl (pc0 := 42) (pc' := 19) rfl (hb hby d7_42) (by decide) (by decide) k) ?_
  refine own_go (G := T37.setTop (mkF m 21 #[.val (.ref r0), .val (.int (0 : Int32)), .val (.ref nb), .val (.ref b4), .val (.int (11 : Int32))] [(.int (11 : Int32))])) (fun _ k => XS.iload X37.here hx rfl (hb hby d7_19) rfl k) ?_
  refine own_go (G := T37.setTop (mkF m 22 #[.val (.ref r0), .val (.int (0 : Int32)), .val (.ref nb), .val (.ref b4), .val (.int (11 : Int32))] [(.ref nb), (.int (11 : Int32))])) (fun _ k => XS.aloadN X37.here hx rfl (hb hby d7_21) rfl rfl k) ?_
  obtain ⟨cl38, Ar38, -, S38, N38_, -, -⟩ := id V_nb_c37
  refine own_go (G := T37.setTop (mkF m 23 #[.val (.ref r0), .val (.int (0 : Int32)), .val (.ref nb), .val (.ref b4), .val (.int (11 : Int32))] [(.int (64 : Int32)), (.int (11 : Int32))])) (fun t k => X37.arraylength hx (by rw [e37]; exact Ar38.1) (State.isArrayOf_alike hZ.alike Ar38.2.1) (g := (mkF m 22 #[.val (.ref r0), .val (.int (0 : Int32)), .val (.ref nb), .val (.ref b4), .val (.int (11 : Int32))] [(.ref nb), (.int (11 : Int32))])) rfl rfl (hb hby d7_22) t (by rw [len_of S38 N38_]; exact k)) ?_
  refine own_go (G := T37.setTop (mkF m 26 #[.val (.ref r0), .val (.int (0 : Int32)), .val (.ref nb), .val (.ref b4), .val (.int (11 : Int32))] [])) (fun _ k => XS.icmpNo X37.here hx rfl (hb hby d7_23) rfl (tlt (by decide : (11 : Int32) < (64 : Int32))).2.1 k) ?_
  refine own_go (G := T37.setTop (mkF m 27 #[.val (.ref r0), .val (.int (0 : Int32)), .val (.ref nb), .val (.ref b4), .val (.int (11 : Int32))] [(.ref b4)])) (fun _ k => XS.aloadN X37.here hx rfl (hb hby d7_26) rfl rfl k) ?_
  refine own_go (G := T37.setTop (mkF m 29 #[.val (.ref r0), .val (.int (0 : Int32)), .val (.ref nb), .val (.ref b4), .val (.int (11 : Int32))] [(.int (11 : Int32)), (.ref b4)])) (fun _ k => XS.iload X37.here hx rfl (hb hby d7_27) rfl k) ?_
  refine own_go (G := T37.setTop (mkF m 30 #[.val (.ref r0), .val (.int (0 : Int32)), .val (.ref nb), .val (.ref b4), .val (.int (11 : Int32))] [(.ref nb), (.int (11 : Int32)), (.ref b4)])) (fun _ k => XS.aloadN X37.here hx rfl (hb hby d7_29) rfl rfl k) ?_
  refine own_go (G := T37.setTop (mkF m 32 #[.val (.ref r0), .val (.int (0 : Int32)), .val (.ref nb), .val (.ref b4), .val (.int (11 : Int32))] [(.int (11 : Int32)), (.ref nb), (.int (11 : Int32)), (.ref b4)])) (fun _ k => XS.iload X37.here hx rfl (hb hby d7_30) rfl k) ?_
  obtain ⟨cl39, Ar39, qk39, S39, N39_, Ha39, G39⟩ := id V_nb_c37
  have hin39 : ¬ ((11 : Int32) < 0 ∨ cl39.slots.size ≤ ((11 : Int32)).toNatClampNeg) := inb_of S39 ⟨by decide, by decide⟩
  have hat39 : cl39.slots[((11 : Int32)).toNatClampNeg]? = some (.int (0 : Int32)) := Ha39.at hin39 rfl
  refine own_go (G := T37.setTop (mkF m 33 #[.val (.ref r0), .val (.int (0 : Int32)), .val (.ref nb), .val (.ref b4), .val (.int (11 : Int32))] [(.int (0 : Int32)), (.int (11 : Int32)), (.ref b4)])) (X37.baloadBytes hx (j := (11 : Int32)) (v := (.int (0 : Int32))) (by rw [e37]; exact Ar39.1) (State.isArrayOf_alike hZ.alike Ar39.2.1) Ar39.2.2 hin39 hat39 (g := (mkF m 32 #[.val (.ref r0), .val (.int (0 : Int32)), .val (.ref nb), .val (.ref b4), .val (.int (11 : Int32))] [(.int (11 : Int32)), (.ref nb), (.int (11 : Int32)), (.ref b4)])) rfl rfl (hb hby d7_32)) ?_
  refine own_go (G := T37.setTop (mkF m 36 #[.val (.ref r0), .val (.int (0 : Int32)), .val (.ref nb), .val (.ref b4), .val (.int (11 : Int32))] [(.int (255 : Int32)), (.int (0 : Int32)), (.int (11 : Int32)), (.ref b4)])) (fun _ k => XS.sipush X37.here hx rfl (hb hby d7_33) k) ?_
  refine own_go (G := T37.setTop (mkF m 37 #[.val (.ref r0), .val (.int (0 : Int32)), .val (.ref nb), .val (.ref b4), .val (.int (11 : Int32))] [(.int ((0 : Int32) &&& (255 : Int32))), (.int (11 : Int32)), (.ref b4)])) (fun _ k => XS.iand X37.here hx rfl (hb hby d7_36) rfl k) ?_
  rw [show ((0 : Int32) &&& (255 : Int32)) = (0 : Int32) from by decide]
  refine own_go (G := T37.setTop (mkF m 38 #[.val (.ref r0), .val (.int (0 : Int32)), .val (.ref nb), .val (.ref b4), .val (.int (11 : Int32))] [(.int ((0 : Int32).toUInt32.toUInt16.toUInt32.toInt32)), (.int (11 : Int32)), (.ref b4)])) (fun _ k => XS.i2c X37.here hx rfl (hb hby d7_37) rfl k) ?_
  rw [show ((0 : Int32).toUInt32.toUInt16.toUInt32.toInt32) = (0 : Int32) from by decide]
  obtain ⟨cl40, Ar40, qk40, S40, N40_, Ha40, G40⟩ := id V37_b4
  have hin40 : ¬ ((11 : Int32) < 0 ∨ cl40.slots.size ≤ ((11 : Int32)).toNatClampNeg) := inb_of S40 ⟨by decide, by decide⟩
  obtain ⟨T40, h40, X40, e40, W40, st40⟩ := stC X37 hx hZ e37 Ar40 (j := (11 : Int32)) hin40 (g := (mkF m 38 #[.val (.ref r0), .val (.int (0 : Int32)), .val (.ref nb), .val (.ref b4), .val (.int (11 : Int32))] [(.int (0 : Int32)), (.int (11 : Int32)), (.ref b4)])) rfl rfl (hb hby d7_38)
  have V40_b4 : Arv Z h40 b4 k4 .char (64 : Int32) (own_B (nar .char ((x0 &&& (255 : Int32)).toUInt32.toUInt16.toUInt32.toInt32)) (nar .char ((x1 &&& (255 : Int32)).toUInt32.toUInt16.toUInt32.toInt32)) (nar .char ((x2 &&& (255 : Int32)).toUInt32.toUInt16.toUInt32.toInt32))) (.int (0 : Int32)) := Arv.set Ar40 qk40 S40 N40_ Ha40 G40 (fits_nar_char _) W40 11 rfl (Nat.le_of_ble_eq_true rfl)
  have E_r0_c40 : Exa Z h40 r0 "com/example/xrefloom/xrefloom/tree/CompactText" := E_r0_c37.wr W40
  have F_length_c40 : Fld Z h40 r0 "com/example/xrefloom/xrefloom/tree/CompactText" "length" "I" (.int len) := F_length_c37.other W40 (Or.inl ne_r0_b4)
  have F_narrow_c40 : Fld Z h40 r0 "com/example/xrefloom/xrefloom/tree/CompactText" "narrow" "[[B" (.ref na) := F_narrow_c37.other W40 (Or.inl ne_r0_b4)
  have F_wide_c40 : Fld Z h40 r0 "com/example/xrefloom/xrefloom/tree/CompactText" "wide" "[[C" (.ref wa) := F_wide_c37.other W40 (Or.inl ne_r0_b4)
  have V_na_c40 : Arv Z h40 na kn (.array .byte) (1 : Int32) [(.ref nb)] .null := V_na_c37.other W40 ne_na_b4
  have V_wa_c40 : Arv Z h40 wa kw (.array .char) (1 : Int32) [.null] .null := V_wa_c37.other W40 ne_wa_b4
  have V_nb_c40 : Arv Z h40 nb kb .byte (64 : Int32) (own_B x0 x1 x2) (.int (0 : Int32)) := V_nb_c37.other W40 ne_nb_b4
  have Ea4_c40 : Exa Z h40 b4 "[C" := Ea4_c37.wr W40
  have N40 := Fr.snoc X40 N37 gn_b4
  have Z40 : n0 ≤ h40.size := Nat.le_trans Z37 (Keep.of_wr W40).1
  refine own_go (G := T40.setTop (mkF m 39 #[.val (.ref r0), .val (.int (0 : Int32)), .val (.ref nb), .val (.ref b4), .val (.int (11 : Int32))] [])) (st40) ?_
  refine own_go (G := T40.setTop (mkF m 42 #[.val (.ref r0), .val (.int (0 : Int32)), .val (.ref nb), .val (.ref b4), .val (.int ((11 : Int32) + (1 : Int32)))] [])) (fun _ k => XS.iinc X40.here hx rfl (hb hby d7_39) rfl (l' := #[.val (.ref r0), .val (.int (0 : Int32)), .val (.ref nb), .val (.ref b4), .val (.int ((11 : Int32) + (1 : Int32)))]) rfl k) ?_
  rw [show ((11 : Int32) + (1 : Int32)) = (12 : Int32) from by decide]
  refine own_go (G := T40.setTop (mkF m 19 #[.val (.ref r0), .val (.int (0 : Int32)), .val (.ref nb), .val (.ref b4), .val (.int (12 : Int32))] [])) (fun _ k => XS.goto X40.here hx rfl (pc0 := 42) (pc' := 19) rfl (hb hby d7_42) (by decide) (by decide) k) ?_
  refine own_go (G := T40.setTop (mkF m 21 #[.val (.ref r0), .val (.int (0 : Int32)), .val (.ref nb), .val (.ref b4), .val (.int (12 : Int32))] [(.int (12 : Int32))])) (fun _ k => XS.iload X40.here hx rfl (hb hby d7_19) rfl k) ?_
  refine own_go (G := T40.setTop (mkF m 22 #[.val (.ref r0), .val (.int (0 : Int32)), .val (.ref nb), .val (.ref b4), .val (.int (12 : Int32))] [(.ref nb), (.int (12 : Int32))])) (fun _ k => XS.aloadN X40.here hx rfl (hb hby d7_21) rfl rfl k) ?_
  obtain ⟨cl41, Ar41, -, S41, N41_, -, -⟩ := id V_nb_c40
  refine own_go (G := T40.setTop (mkF m 23 #[.val (.ref r0), .val (.int (0 : Int32)), .val (.ref nb), .val (.ref b4), .val (.int (12 : Int32))] [(.int (64 : Int32)), (.int (12 : Int32))])) (fun t k => X40.arraylength hx (by rw [e40]; exact Ar41.1) (State.isArrayOf_alike hZ.alike Ar41.2.1) (g := (mkF m 22 #[.val (.ref r0), .val (.int (0 : Int32)), .val (.ref nb), .val (.ref b4), .val (.int (12 : Int32))] [(.ref nb), (.int (12 : Int32))])) rfl rfl (hb hby d7_22) t (by rw [len_of S41 N41_]; exact k)) ?_
  refine own_go (G := T40.setTop (mkF m 26 #[.val (.ref r0), .val (.int (0 : Int32)), .val (.ref nb), .val (.ref b4), .val (.int (12 : Int32))] [])) (fun _ k => XS.icmpNo X40.here hx rfl (hb hby d7_23) rfl (tlt (by decide : (12 : Int32) < (64 : Int32))).2.1 k) ?_
  refine own_go (G := T40.setTop (mkF m 27 #[.val (.ref r0), .val (.int (0 : Int32)), .val (.ref nb), .val (.ref b4), .val (.int (12 : Int32))] [(.ref b4)])) (fun _ k => XS.aloadN X40.here hx rfl (hb hby d7_26) rfl rfl k) ?_
  refine own_go (G := T40.setTop (mkF m 29 #[.val (.ref r0), .val (.int (0 : Int32)), .val (.ref nb), .val (.ref b4), .val (.int (12 : Int32))] [(.int (12 : Int32)), (.ref b4)])) (fun _ k => XS.iload X40.here hx rfl (hb hby d7_27) rfl k) ?_
  refine own_go (G := T40.setTop (mkF m 30 #[.val (.ref r0), .val (.int (0 : Int32)), .val (.ref nb), .val (.ref b4), .val (.int (12 : Int32))] [(.ref nb), (.int (12 : Int32)), (.ref b4)])) (fun _ k => XS.aloadN X40.here hx rfl (hb hby d7_29) rfl rfl k) ?_
  refine own_go (G := T40.setTop (mkF m 32 #[.val (.ref r0), .val (.int (0 : Int32)), .val (.ref nb), .val (.ref b4), .val (.int (12 : Int32))] [(.int (12 : Int32)), (.ref nb), (.int (12 : Int32)), (.ref b4)])) (fun _ k => XS.iload X40.here hx rfl (hb hby d7_30) rfl k) ?_
  obtain ⟨cl42, Ar42, qk42, S42, N42_, Ha42, G42⟩ := id V_nb_c40
  have hin42 : ¬ ((12 : Int32) < 0 ∨ cl42.slots.size ≤ ((12 : Int32)).toNatClampNeg) := inb_of S42 ⟨by decide, by decide⟩
  have hat42 : cl42.slots[((12 : Int32)).toNatClampNeg]? = some (.int (0 : Int32)) := Ha42.at hin42 rfl
  refine own_go (G := T40.setTop (mkF m 33 #[.val (.ref r0), .val (.int (0 : Int32)), .val (.ref nb), .val (.ref b4), .val (.int (12 : Int32))] [(.int (0 : Int32)), (.int (12 : Int32)), (.ref b4)])) (X40.baloadBytes hx (j := (12 : Int32)) (v := (.int (0 : Int32))) (by rw [e40]; exact Ar42.1) (State.isArrayOf_alike hZ.alike Ar42.2.1) Ar42.2.2 hin42 hat42 (g := (mkF m 32 #[.val (.ref r0), .val (.int (0 : Int32)), .val (.ref nb), .val (.ref b4), .val (.int (12 : Int32))] [(.int (12 : Int32)), (.ref nb), (.int (12 : Int32)), (.ref b4)])) rfl rfl (hb hby d7_32)) ?_
  refine own_go (G := T40.setTop (mkF m 36 #[.val (.ref r0), .val (.int (0 : Int32)), .val (.ref nb), .val (.ref b4), .val (.int (12 : Int32))] [(.int (255 : Int32)), (.int (0 : Int32)), (.int (12 : Int32)), (.ref b4)])) (fun _ k => XS.sipush X40.here hx rfl (hb hby d7_33) k) ?_
  refine own_go (G := T40.setTop (mkF m 37 #[.val (.ref r0), .val (.int (0 : Int32)), .val (.ref nb), .val (.ref b4), .val (.int (12 : Int32))] [(.int ((0 : Int32) &&& (255 : Int32))), (.int (12 : Int32)), (.ref b4)])) (fun _ k => XS.iand X40.here hx rfl (hb hby d7_36) rfl k) ?_
  rw [show ((0 : Int32) &&& (255 : Int32)) = (0 : Int32) from by decide]
  refine own_go (G := T40.setTop (mkF m 38 #[.val (.ref r0), .val (.int (0 : Int32)), .val (.ref nb), .val (.ref b4), .val (.int (12 : Int32))] [(.int ((0 : Int32).toUInt32.toUInt16.toUInt32.toInt32)), (.int (12 : Int32)), (.ref b4)])) (fun _ k => XS.i2c X40.here hx rfl (hb hby d7_37) rfl k) ?_
  rw [show ((0 : Int32).toUInt32.toUInt16.toUInt32.toInt32) = (0 : Int32) from by decide]
  obtain ⟨cl43, Ar43, qk43, S43, N43_, Ha43, G43⟩ := id V40_b4
  have hin43 : ¬ ((12 : Int32) < 0 ∨ cl43.slots.size ≤ ((12 : Int32)).toNatClampNeg) := inb_of S43 ⟨by decide, by decide⟩
  obtain ⟨T43, h43, X43, e43, W43, st43⟩ := stC X40 hx hZ e40 Ar43 (j := (12 : Int32)) hin43 (g := (mkF m 38 #[.val (.ref r0), .val (.int (0 : Int32)), .val (.ref nb), .val (.ref b4), .val (.int (12 : Int32))] [(.int (0 : Int32)), (.int (12 : Int32)), (.ref b4)])) rfl rfl (hb hby d7_38)
  have V43_b4 : Arv Z h43 b4 k4 .char (64 : Int32) (own_B (nar .char ((x0 &&& (255 : Int32)).toUInt32.toUInt16.toUInt32.toInt32)) (nar .char ((x1 &&& (255 : Int32)).toUInt32.toUInt16.toUInt32.toInt32)) (nar .char ((x2 &&& (255 : Int32)).toUInt32.toUInt16.toUInt32.toInt32))) (.int (0 : Int32)) := Arv.set Ar43 qk43 S43 N43_ Ha43 G43 (fits_nar_char _) W43 12 rfl (Nat.le_of_ble_eq_true rfl)
  have E_r0_c43 : Exa Z h43 r0 "com/example/xrefloom/xrefloom/tree/CompactText" := E_r0_c40.wr W43
  have F_length_c43 : Fld Z h43 r0 "com/example/xrefloom/xrefloom/tree/CompactText" "length" "I" (.int len) := F_length_c40.other W43 (Or.inl ne_r0_b4)
  have F_narrow_c43 : Fld Z h43 r0 "com/example/xrefloom/xrefloom/tree/CompactText" "narrow" "[[B" (.ref na) := F_narrow_c40.other W43 (Or.inl ne_r0_b4)
  have F_wide_c43 : Fld Z h43 r0 "com/example/xrefloom/xrefloom/tree/CompactText" "wide" "[[C" (.ref wa) := F_wide_c40.other W43 (Or.inl ne_r0_b4)
  have V_na_c43 : Arv Z h43 na kn (.array .byte) (1 : Int32) [(.ref nb)] .null := V_na_c40.other W43 ne_na_b4
  have V_wa_c43 : Arv Z h43 wa kw (.array .char) (1 : Int32) [.null] .null := V_wa_c40.other W43 ne_wa_b4
  have V_nb_c43 : Arv Z h43 nb kb .byte (64 : Int32) (own_B x0 x1 x2) (.int (0 : Int32)) := V_nb_c40.other W43 ne_nb_b4
  have Ea4_c43 : Exa Z h43 b4 "[C" := Ea4_c40.wr W43
  have N43 := Fr.snoc X43 N40 gn_b4
  have Z43 : n0 ≤ h43.size := Nat.le_trans Z40 (Keep.of_wr W43).1
  refine own_go (G := T43.setTop (mkF m 39 #[.val (.ref r0), .val (.int (0 : Int32)), .val (.ref nb), .val (.ref b4), .val (.int (12 : Int32))] [])) (st43) ?_
  refine own_go (G := T43.setTop (mkF m 42 #[.val (.ref r0), .val (.int (0 : Int32)), .val (.ref nb), .val (.ref b4), .val (.int ((12 : Int32) + (1 : Int32)))] [])) (fun _ k => XS.iinc X43.here hx rfl (hb hby d7_39) rfl (l' := #[.val (.ref r0), .val (.int (0 : Int32)), .val (.ref nb), .val (.ref b4), .val (.int ((12 : Int32) + (1 : Int32)))]) rfl k) ?_
  rw [show ((12 : Int32) + (1 : Int32)) = (13 : Int32) from by decide]
  refine own_go (G := T43.setTop (mkF m 19 #[.val (.ref r0), .val (.int (0 : Int32)), .val (.ref nb), .val (.ref b4), .val (.int (13 : Int32))] [])) (fun _ k => XS.goto X43.here hx rfl (pc0 := 42) (pc' := 19) rfl (hb hby d7_42) (by decide) (by decide) k) ?_
  refine own_go (G := T43.setTop (mkF m 21 #[.val (.ref r0), .val (.int (0 : Int32)), .val (.ref nb), .val (.ref b4), .val (.int (13 : Int32))] [(.int (13 : Int32))])) (fun _ k => XS.iload X43.here hx rfl (hb hby d7_19) rfl k) ?_
  refine own_go (G := T43.setTop (mkF m 22 #[.val (.ref r0), .val (.int (0 : Int32)), .val (.ref nb), .val (.ref b4), .val (.int (13 : Int32))] [(.ref nb), (.int (13 : Int32))])) (fun _ k => XS.aloadN X43.here hx rfl (hb hby d7_21) rfl rfl k) ?_
  obtain ⟨cl44, Ar44, -, S44, N44_, -, -⟩ := id V_nb_c43
  refine own_go (G := T43.setTop (mkF m 23 #[.val (.ref r0), .val (.int (0 : Int32)), .val (.ref nb), .val (.ref b4), .val (.int (13 : Int32))] [(.int (64 : Int32)), (.int (13 : Int32))])) (fun t k => X43.arraylength hx (by rw [e43]; exact Ar44.1) (State.isArrayOf_alike hZ.alike Ar44.2.1) (g := (mkF m 22 #[.val (.ref r0), .val (.int (0 : Int32)), .val (.ref nb), .val (.ref b4), .val (.int (13 : Int32))] [(.ref nb), (.int (13 : Int32))])) rfl rfl (hb hby d7_22) t (by rw [len_of S44 N44_]; exact k)) ?_
  refine own_go (G := T43.setTop (mkF m 26 #[.val (.ref r0), .val (.int (0 : Int32)), .val (.ref nb), .val (.ref b4), .val (.int (13 : Int32))] [])) (fun _ k => XS.icmpNo X43.here hx rfl (hb hby d7_23) rfl (tlt (by decide : (13 : Int32) < (64 : Int32))).2.1 k) ?_
  refine own_go (G := T43.setTop (mkF m 27 #[.val (.ref r0), .val (.int (0 : Int32)), .val (.ref nb), .val (.ref b4), .val (.int (13 : Int32))] [(.ref b4)])) (fun _ k => XS.aloadN X43.here hx rfl (hb hby d7_26) rfl rfl k) ?_
  refine own_go (G := T43.setTop (mkF m 29 #[.val (.ref r0), .val (.int (0 : Int32)), .val (.ref nb), .val (.ref b4), .val (.int (13 : Int32))] [(.int (13 : Int32)), (.ref b4)])) (fun _ k => XS.iload X43.here hx rfl (hb hby d7_27) rfl k) ?_
  refine own_go (G := T43.setTop (mkF m 30 #[.val (.ref r0), .val (.int (0 : Int32)), .val (.ref nb), .val (.ref b4), .val (.int (13 : Int32))] [(.ref nb), (.int (13 : Int32)), (.ref b4)])) (fun _ k => XS.aloadN X43.here hx rfl (hb hby d7_29) rfl rfl k) ?_
  refine own_go (G := T43.setTop (mkF m 32 #[.val (.ref r0), .val (.int (0 : Int32)), .val (.ref nb), .val (.ref b4), .val (.int (13 : Int32))] [(.int (13 : Int32)), (.ref nb), (.int (13 : Int32)), (.ref b4)])) (fun _ k => XS.iload X43.here hx rfl (hb hby d7_30) rfl k) ?_
  obtain ⟨cl45, Ar45, qk45, S45, N45_, Ha45, G45⟩ := id V_nb_c43
  have hin45 : ¬ ((13 : Int32) < 0 ∨ cl45.slots.size ≤ ((13 : Int32)).toNatClampNeg) := inb_of S45 ⟨by decide, by decide⟩
  have hat45 : cl45.slots[((13 : Int32)).toNatClampNeg]? = some (.int (0 : Int32)) := Ha45.at hin45 rfl
  refine own_go (G := T43.setTop (mkF m 33 #[.val (.ref r0), .val (.int (0 : Int32)), .val (.ref nb), .val (.ref b4), .val (.int (13 : Int32))] [(.int (0 : Int32)), (.int (13 : Int32)), (.ref b4)])) (X43.baloadBytes hx (j := (13 : Int32)) (v := (.int (0 : Int32))) (by rw [e43]; exact Ar45.1) (State.isArrayOf_alike hZ.alike Ar45.2.1) Ar45.2.2 hin45 hat45 (g := (mkF m 32 #[.val (.ref r0), .val (.int (0 : Int32)), .val (.ref nb), .val (.ref b4), .val (.int (13 : Int32))] [(.int (13 : Int32)), (.ref nb), (.int (13 : Int32)), (.ref b4)])) rfl rfl (hb hby d7_32)) ?_
  refine own_go (G := T43.setTop (mkF m 36 #[.val (.ref r0), .val (.int (0 : Int32)), .val (.ref nb), .val (.ref b4), .val (.int (13 : Int32))] [(.int (255 : Int32)), (.int (0 : Int32)), (.int (13 : Int32)), (.ref b4)])) (fun _ k => XS.sipush X43.here hx rfl (hb hby d7_33) k) ?_
  refine own_go (G := T43.setTop (mkF m 37 #[.val (.ref r0), .val (.int (0 : Int32)), .val (.ref nb), .val (.ref b4), .val (.int (13 : Int32))] [(.int ((0 : Int32) &&& (255 : Int32))), (.int (13 : Int32)), (.ref b4)])) (fun _ k => XS.iand X43.here hx rfl (hb hby d7_36) rfl k) ?_
  rw [show ((0 : Int32) &&& (255 : Int32)) = (0 : Int32) from by decide]
  refine own_go (G := T43.setTop (mkF m 38 #[.val (.ref r0), .val (.int (0 : Int32)), .val (.ref nb), .val (.ref b4), .val (.int (13 : Int32))] [(.int ((0 : Int32).toUInt32.toUInt16.toUInt32.toInt32)), (.int (13 : Int32)), (.ref b4)])) (fun _ k => XS.i2c X43.here hx rfl (hb hby d7_37) rfl k) ?_
  rw [show ((0 : Int32).toUInt32.toUInt16.toUInt32.toInt32) = (0 : Int32) from by decide]
  obtain ⟨cl46, Ar46, qk46, S46, N46_, Ha46, G46⟩ := id V43_b4
  have hin46 : ¬ ((13 : Int32) < 0 ∨ cl46.slots.size ≤ ((13 : Int32)).toNatClampNeg) := inb_of S46 ⟨by decide, by decide⟩
  obtain ⟨T46, h46, X46, e46, W46, st46⟩ := stC X43 hx hZ e43 Ar46 (j := (13 : Int32)) hin46 (g := (mkF m 38 #[.val (.ref r0), .val (.int (0 : Int32)), .val (.ref nb), .val (.ref b4), .val (.int (13 : Int32))] [(.int (0 : Int32)), (.int (13 : Int32)), (.ref b4)])) rfl rfl (hb hby d7_38)
  have V46_b4 : Arv Z h46 b4 k4 .char (64 : Int32) (own_B (nar .char ((x0 &&& (255 : Int32)).toUInt32.toUInt16.toUInt32.toInt32)) (nar .char ((x1 &&& (255 : Int32)).toUInt32.toUInt16.toUInt32.toInt32)) (nar .char ((x2 &&& (255 : Int32)).toUInt32.toUInt16.toUInt32.toInt32))) (.int (0 : Int32)) := Arv.set Ar46 qk46 S46 N46_ Ha46 G46 (fits_nar_char _) W46 13 rfl (Nat.le_of_ble_eq_true rfl)
  have E_r0_c46 : Exa Z h46 r0 "com/example/xrefloom/xrefloom/tree/CompactText" := E_r0_c43.wr W46
  have F_length_c46 : Fld Z h46 r0 "com/example/xrefloom/xrefloom/tree/CompactText" "length" "I" (.int len) := F_length_c43.other W46 (Or.inl ne_r0_b4)
  have F_narrow_c46 : Fld Z h46 r0 "com/example/xrefloom/xrefloom/tree/CompactText" "narrow" "[[B" (.ref na) := F_narrow_c43.other W46 (Or.inl ne_r0_b4)
  have F_wide_c46 : Fld Z h46 r0 "com/example/xrefloom/xrefloom/tree/CompactText" "wide" "[[C" (.ref wa) := F_wide_c43.other W46 (Or.inl ne_r0_b4)
  have V_na_c46 : Arv Z h46 na kn (.array .byte) (1 : Int32) [(.ref nb)] .null := V_na_c43.other W46 ne_na_b4
  have V_wa_c46 : Arv Z h46 wa kw (.array .char) (1 : Int32) [.null] .null := V_wa_c43.other W46 ne_wa_b4
  have V_nb_c46 : Arv Z h46 nb kb .byte (64 : Int32) (own_B x0 x1 x2) (.int (0 : Int32)) := V_nb_c43.other W46 ne_nb_b4
  have Ea4_c46 : Exa Z h46 b4 "[C" := Ea4_c43.wr W46
  have N46 := Fr.snoc X46 N43 gn_b4
  have Z46 : n0 ≤ h46.size := Nat.le_trans Z43 (Keep.of_wr W46).1
  refine own_go (G := T46.setTop (mkF m 39 #[.val (.ref r0), .val (.int (0 : Int32)), .val (.ref nb), .val (.ref b4), .val (.int (13 : Int32))] [])) (st46) ?_
  refine own_go (G := T46.setTop (mkF m 42 #[.val (.ref r0), .val (.int (0 : Int32)), .val (.ref nb), .val (.ref b4), .val (.int ((13 : Int32) + (1 : Int32)))] [])) (fun _ k => XS.iinc X46.here hx rfl (hb hby d7_39) rfl (l' := #[.val (.ref r0), .val (.int (0 : Int32)), .val (.ref nb), .val (.ref b4), .val (.int ((13 : Int32) + (1 : Int32)))]) rfl k) ?_
  rw [show ((13 : Int32) + (1 : Int32)) = (14 : Int32) from by decide]
  refine own_go (G := T46.setTop (mkF m 19 #[.val (.ref r0), .val (.int (0 : Int32)), .val (.ref nb), .val (.ref b4), .val (.int (14 : Int32))] [])) (fun _ k => XS.goto X46.here hx rfl (pc0 := 42) (pc' := 19) rfl (hb hby d7_42) (by decide) (by decide) k) ?_
  refine own_go (G := T46.setTop (mkF m 21 #[.val (.ref r0), .val (.int (0 : Int32)), .val (.ref nb), .val (.ref b4), .val (.int (14 : Int32))] [(.int (14 : Int32))])) (fun _ k => XS.iload X46.here hx rfl (hb hby d7_19) rfl k) ?_
  refine own_go (G := T46.setTop (mkF m 22 #[.val (.ref r0), .val (.int (0 : Int32)), .val (.ref nb), .val (.ref b4), .val (.int (14 : Int32))] [(.ref nb), (.int (14 : Int32))])) (fun _ k => XS.aloadN X46.here hx rfl (hb hby d7_21) rfl rfl k) ?_
  obtain ⟨cl47, Ar47, -, S47, N47_, -, -⟩ := id V_nb_c46
  refine own_go (G := T46.setTop (mkF m 23 #[.val (.ref r0), .val (.int (0 : Int32)), .val (.ref nb), .val (.ref b4), .val (.int (14 : Int32))] [(.int (64 : Int32)), (.int (14 : Int32))])) (fun t k => X46.arraylength hx (by rw [e46]; exact Ar47.1) (State.isArrayOf_alike hZ.alike Ar47.2.1) (g := (mkF m 22 #[.val (.ref r0), .val (.int (0 : Int32)), .val (.ref nb), .val (.ref b4), .val (.int (14 : Int32))] [(.ref nb), (.int (14 : Int32))])) rfl rfl (hb hby d7_22) t (by rw [len_of S47 N47_]; exact k)) ?_
  refine own_go (G := T46.setTop (mkF m 26 #[.val (.ref r0), .val (.int (0 : Int32)), .val (.ref nb), .val (.ref b4), .val (.int (14 : Int32))] [])) (fun _ k => XS.icmpNo X46.here hx rfl (hb hby d7_23) rfl (tlt (by decide : (14 : Int32) < (64 : Int32))).2.1 k) ?_
  refine own_go (G := T46.setTop (mkF m 27 #[.val (.ref r0), .val (.int (0 : Int32)), .val (.ref nb), .val (.ref b4), .val (.int (14 : Int32))] [(.ref b4)])) (fun _ k => XS.aloadN X46.here hx rfl (hb hby d7_26) rfl rfl k) ?_
  refine own_go (G := T46.setTop (mkF m 29 #[.val (.ref r0), .val (.int (0 : Int32)), .val (.ref nb), .val (.ref b4), .val (.int (14 : Int32))] [(.int (14 : Int32)), (.ref b4)])) (fun _ k => XS.iload X46.here hx rfl (hb hby d7_27) rfl k) ?_
  refine own_go (G := T46.setTop (mkF m 30 #[.val (.ref r0), .val (.int (0 : Int32)), .val (.ref nb), .val (.ref b4), .val (.int (14 : Int32))] [(.ref nb), (.int (14 : Int32)), (.ref b4)])) (fun _ k => XS.aloadN X46.here hx rfl (hb hby d7_29) rfl rfl k) ?_
  refine own_go (G := T46.setTop (mkF m 32 #[.val (.ref r0), .val (.int (0 : Int32)), .val (.ref nb), .val (.ref b4), .val (.int (14 : Int32))] [(.int (14 : Int32)), (.ref nb), (.int (14 : Int32)), (.ref b4)])) (fun _ k => XS.iload X46.here hx rfl (hb hby d7_30) rfl k) ?_
  obtain ⟨cl48, Ar48, qk48, S48, N48_, Ha48, G48⟩ := id V_nb_c46
  have hin48 : ¬ ((14 : Int32) < 0 ∨ cl48.slots.size ≤ ((14 : Int32)).toNatClampNeg) := inb_of S48 ⟨by decide, by decide⟩
  have hat48 : cl48.slots[((14 : Int32)).toNatClampNeg]? = some (.int (0 : Int32)) := Ha48.at hin48 rfl
  refine own_go (G := T46.setTop (mkF m 33 #[.val (.ref r0), .val (.int (0 : Int32)), .val (.ref nb), .val (.ref b4), .val (.int (14 : Int32))] [(.int (0 : Int32)), (.int (14 : Int32)), (.ref b4)])) (X46.baloadBytes hx (j := (14 : Int32)) (v := (.int (0 : Int32))) (by rw [e46]; exact Ar48.1) (State.isArrayOf_alike hZ.alike Ar48.2.1) Ar48.2.2 hin48 hat48 (g := (mkF m 32 #[.val (.ref r0), .val (.int (0 : Int32)), .val (.ref nb), .val (.ref b4), .val (.int (14 : Int32))] [(.int (14 : Int32)), (.ref nb), (.int (14 : Int32)), (.ref b4)])) rfl rfl (hb hby d7_32)) ?_
  refine own_go (G := T46.setTop (mkF m 36 #[.val (.ref r0), .val (.int (0 : Int32)), .val (.ref nb), .val (.ref b4), .val (.int (14 : Int32))] [(.int (255 : Int32)), (.int (0 : Int32)), (.int (14 : Int32)), (.ref b4)])) (fun _ k => XS.sipush X46.here hx rfl (hb hby d7_33) k) ?_
  refine own_go (G := T46.setTop (mkF m 37 #[.val (.ref r0), .val (.int (0 : Int32)), .val (.ref nb), .val (.ref b4), .val (.int (14 : Int32))] [(.int ((0 : Int32) &&& (255 : Int32))), (.int (14 : Int32)), (.ref b4)])) (fun _ k => XS.iand X46.here hx rfl (hb hby d7_36) rfl k) ?_
  rw [show ((0 : Int32) &&& (255 : Int32)) = (0 : Int32) from by decide]
  refine own_go (G := T46.setTop (mkF m 38 #[.val (.ref r0), .val (.int (0 : Int32)), .val (.ref nb), .val (.ref b4), .val (.int (14 : Int32))] [(.int ((0 : Int32).toUInt32.toUInt16.toUInt32.toInt32)), (.int (14 : Int32)), (.ref b4)])) (fun _ k => XS.i2c X46.here hx rfl (hb hby d7_37) rfl k) ?_
  rw [show ((0 : Int32).toUInt32.toUInt16.toUInt32.toInt32) = (0 : Int32) from by decide]
  obtain ⟨cl49, Ar49, qk49, S49, N49_, Ha49, G49⟩ := id V46_b4
  have hin49 : ¬ ((14 : Int32) < 0 ∨ cl49.slots.size ≤ ((14 : Int32)).toNatClampNeg) := inb_of S49 ⟨by decide, by decide⟩
  obtain ⟨T49, h49, X49, e49, W49, st49⟩ := stC X46 hx hZ e46 Ar49 (j := (14 : Int32)) hin49 (g := (mkF m 38 #[.val (.ref r0), .val (.int (0 : Int32)), .val (.ref nb), .val (.ref b4), .val (.int (14 : Int32))] [(.int (0 : Int32)), (.int (14 : Int32)), (.ref b4)])) rfl rfl (hb hby d7_38)
  have V49_b4 : Arv Z h49 b4 k4 .char (64 : Int32) (own_B (nar .char ((x0 &&& (255 : Int32)).toUInt32.toUInt16.toUInt32.toInt32)) (nar .char ((x1 &&& (255 : Int32)).toUInt32.toUInt16.toUInt32.toInt32)) (nar .char ((x2 &&& (255 : Int32)).toUInt32.toUInt16.toUInt32.toInt32))) (.int (0 : Int32)) := Arv.set Ar49 qk49 S49 N49_ Ha49 G49 (fits_nar_char _) W49 14 rfl (Nat.le_of_ble_eq_true rfl)
  have E_r0_c49 : Exa Z h49 r0 "com/example/xrefloom/xrefloom/tree/CompactText" := E_r0_c46.wr W49
  have F_length_c49 : Fld Z h49 r0 "com/example/xrefloom/xrefloom/tree/CompactText" "length" "I" (.int len) := F_length_c46.other W49 (Or.inl ne_r0_b4)
  have F_narrow_c49 : Fld Z h49 r0 "com/example/xrefloom/xrefloom/tree/CompactText" "narrow" "[[B" (.ref na) := F_narrow_c46.other W49 (Or.inl ne_r0_b4)
  have F_wide_c49 : Fld Z h49 r0 "com/example/xrefloom/xrefloom/tree/CompactText" "wide" "[[C" (.ref wa) := F_wide_c46.other W49 (Or.inl ne_r0_b4)
  have V_na_c49 : Arv Z h49 na kn (.array .byte) (1 : Int32) [(.ref nb)] .null := V_na_c46.other W49 ne_na_b4
  have V_wa_c49 : Arv Z h49 wa kw (.array .char) (1 : Int32) [.null] .null := V_wa_c46.other W49 ne_wa_b4
  have V_nb_c49 : Arv Z h49 nb kb .byte (64 : Int32) (own_B x0 x1 x2) (.int (0 : Int32)) := V_nb_c46.other W49 ne_nb_b4
  have Ea4_c49 : Exa Z h49 b4 "[C" := Ea4_c46.wr W49
  have N49 := Fr.snoc X49 N46 gn_b4
  have Z49 : n0 ≤ h49.size := Nat.le_trans Z46 (Keep.of_wr W49).1
  refine own_go (G := T49.setTop (mkF m 39 #[.val (.ref r0), .val (.int (0 : Int32)), .val (.ref nb), .val (.ref b4), .val (.int (14 : Int32))] [])) (st49) ?_
  refine own_go (G := T49.setTop (mkF m 42 #[.val (.ref r0), .val (.int (0 : Int32)), .val (.ref nb), .val (.ref b4), .val (.int ((14 : Int32) + (1 : Int32)))] [])) (fun _ k => XS.iinc X49.here hx rfl (hb hby d7_39) rfl (l' := #[.val (.ref r0), .val (.int (0 : Int32)), .val (.ref nb), .val (.ref b4), .val (.int ((14 : Int32) + (1 : Int32)))]) rfl k) ?_
  rw [show ((14 : Int32) + (1 : Int32)) = (15 : Int32) from by decide]
  refine own_go (G := T49.setTop (mkF m 19 #[.val (.ref r0), .val (.int (0 : Int32)), .val (.ref nb), .val (.ref b4), .val (.int (15 : Int32))] [])) (fun _ k => XS.goto X49.here hx rfl (pc0 := 42) (pc' := 19) rfl (hb hby d7_42) (by decide) (by decide) k) ?_
  refine own_go (G := T49.setTop (mkF m 21 #[.val (.ref r0), .val (.int (0 : Int32)), .val (.ref nb), .val (.ref b4), .val (.int (15 : Int32))] [(.int (15 : Int32))])) (fun _ k => XS.iload X49.here hx rfl (hb hby d7_19) rfl k) ?_
  refine own_go (G := T49.setTop (mkF m 22 #[.val (.ref r0), .val (.int (0 : Int32)), .val (.ref nb), .val (.ref b4), .val (.int (15 : Int32))] [(.ref nb), (.int (15 : Int32))])) (fun _ k => XS.aloadN X49.here hx rfl (hb hby d7_21) rfl rfl k) ?_
  obtain ⟨cl50, Ar50, -, S50, N50_, -, -⟩ := id V_nb_c49
  refine own_go (G := T49.setTop (mkF m 23 #[.val (.ref r0), .val (.int (0 : Int32)), .val (.ref nb), .val (.ref b4), .val (.int (15 : Int32))] [(.int (64 : Int32)), (.int (15 : Int32))])) (fun t k => X49.arraylength hx (by rw [e49]; exact Ar50.1) (State.isArrayOf_alike hZ.alike Ar50.2.1) (g := (mkF m 22 #[.val (.ref r0), .val (.int (0 : Int32)), .val (.ref nb), .val (.ref b4), .val (.int (15 : Int32))] [(.ref nb), (.int (15 : Int32))])) rfl rfl (hb hby d7_22) t (by rw [len_of S50 N50_]; exact k)) ?_
  refine own_go (G := T49.setTop (mkF m 26 #[.val (.ref r0), .val (.int (0 : Int32)), .val (.ref nb), .val (.ref b4), .val (.int (15 : Int32))] [])) (fun _ k => XS.icmpNo X49.here hx rfl (hb hby d7_23) rfl (tlt (by decide : (15 : Int32) < (64 : Int32))).2.1 k) ?_
  refine own_go (G := T49.setTop (mkF m 27 #[.val (.ref r0), .val (.int (0 : Int32)), .val (.ref nb), .val (.ref b4), .val (.int (15 : Int32))] [(.ref b4)])) (fun _ k => XS.aloadN X49.here hx rfl (hb hby d7_26) rfl rfl k) ?_
  refine own_go (G := T49.setTop (mkF m 29 #[.val (.ref r0), .val (.int (0 : Int32)), .val (.ref nb), .val (.ref b4), .val (.int (15 : Int32))] [(.int (15 : Int32)), (.ref b4)])) (fun _ k => XS.iload X49.here hx rfl (hb hby d7_27) rfl k) ?_
  refine own_go (G := T49.setTop (mkF m 30 #[.val (.ref r0), .val (.int (0 : Int32)), .val (.ref nb), .val (.ref b4), .val (.int (15 : Int32))] [(.ref nb), (.int (15 : Int32)), (.ref b4)])) (fun _ k => XS.aloadN X49.here hx rfl (hb hby d7_29) rfl rfl k) ?_
  refine own_go (G := T49.setTop (mkF m 32 #[.val (.ref r0), .val (.int (0 : Int32)), .val (.ref nb), .val (.ref b4), .val (.int (15 : Int32))] [(.int (15 : Int32)), (.ref nb), (.int (15 : Int32)), (.ref b4)])) (fun _ k => XS.iload X49.here hx rfl (hb hby d7_30) rfl k) ?_
  obtain ⟨cl51, Ar51, qk51, S51, N51_, Ha51, G51⟩ := id V_nb_c49
  have hin51 : ¬ ((15 : Int32) < 0 ∨ cl51.slots.size ≤ ((15 : Int32)).toNatClampNeg) := inb_of S51 ⟨by decide, by decide⟩
  have hat51 : cl51.slots[((15 : Int32)).toNatClampNeg]? = some (.int (0 : Int32)) := Ha51.at hin51 rfl
  refine own_go (G := T49.setTop (mkF m 33 #[.val (.ref r0), .val (.int (0 : Int32)), .val (.ref nb), .val (.ref b4), .val (.int (15 : Int32))] [(.int (0 : Int32)), (.int (15 : Int32)), (.ref b4)])) (X49.baloadBytes hx (j := (15 : Int32)) (v := (.int (0 : Int32))) (by rw [e49]; exact Ar51.1) (State.isArrayOf_alike hZ.alike Ar51.2.1) Ar51.2.2 hin51 hat51 (g := (mkF m 32 #[.val (.ref r0), .val (.int (0 : Int32)), .val (.ref nb), .val (.ref b4), .val (.int (15 : Int32))] [(.int (15 : Int32)), (.ref nb), (.int (15 : Int32)), (.ref b4)])) rfl rfl (hb hby d7_32)) ?_
  refine own_go (G := T49.setTop (mkF m 36 #[.val (.ref r0), .val (.int (0 : Int32)), .val (.ref nb), .val (.ref b4), .val (.int (15 : Int32))] [(.int (255 : Int32)), (.int (0 : Int32)), (.int (15 : Int32)), (.ref b4)])) (fun _ k => XS.sipush X49.here hx rfl (hb hby d7_33) k) ?_
  refine own_go (G := T49.setTop (mkF m 37 #[.val (.ref r0), .val (.int (0 : Int32)), .val (.ref nb), .val (.ref b4), .val (.int (15 : Int32))] [(.int ((0 : Int32) &&& (255 : Int32))), (.int (15 : Int32)), (.ref b4)])) (fun _ k => XS.iand X49.here hx rfl (hb hby d7_36) rfl k) ?_
  rw [show ((0 : Int32) &&& (255 : Int32)) = (0 : Int32) from by decide]
  refine own_go (G := T49.setTop (mkF m 38 #[.val (.ref r0), .val (.int (0 : Int32)), .val (.ref nb), .val (.ref b4), .val (.int (15 : Int32))] [(.int ((0 : Int32).toUInt32.toUInt16.toUInt32.toInt32)), (.int (15 : Int32)), (.ref b4)])) (fun _ k => XS.i2c X49.here hx rfl (hb hby d7_37) rfl k) ?_
  rw [show ((0 : Int32).toUInt32.toUInt16.toUInt32.toInt32) = (0 : Int32) from by decide]
  obtain ⟨cl52, Ar52, qk52, S52, N52_, Ha52, G52⟩ := id V49_b4
  have hin52 : ¬ ((15 : Int32) < 0 ∨ cl52.slots.size ≤ ((15 : Int32)).toNatClampNeg) := inb_of S52 ⟨by decide, by decide⟩
  obtain ⟨T52, h52, X52, e52, W52, st52⟩ := stC X49 hx hZ e49 Ar52 (j := (15 : Int32)) hin52 (g := (mkF m 38 #[.val (.ref r0), .val (.int (0 : Int32)), .val (.ref nb), .val (.ref b4), .val (.int (15 : Int32))] [(.int (0 : Int32)), (.int (15 : Int32)), (.ref b4)])) rfl rfl (hb hby d7_38)
  have V52_b4 : Arv Z h52 b4 k4 .char (64 : Int32) (own_B (nar .char ((x0 &&& (255 : Int32)).toUInt32.toUInt16.toUInt32.toInt32)) (nar .char ((x1 &&& (255 : Int32)).toUInt32.toUInt16.toUInt32.toInt32)) (nar .char ((x2 &&& (255 : Int32)).toUInt32.toUInt16.toUInt32.toInt32))) (.int (0 : Int32)) := Arv.set Ar52 qk52 S52 N52_ Ha52 G52 (fits_nar_char _) W52 15 rfl (Nat.le_of_ble_eq_true rfl)
  have E_r0_c52 : Exa Z h52 r0 "com/example/xrefloom/xrefloom/tree/CompactText" := E_r0_c49.wr W52
  have F_length_c52 : Fld Z h52 r0 "com/example/xrefloom/xrefloom/tree/CompactText" "length" "I" (.int len) := F_length_c49.other W52 (Or.inl ne_r0_b4)
  have F_narrow_c52 : Fld Z h52 r0 "com/example/xrefloom/xrefloom/tree/CompactText" "narrow" "[[B" (.ref na) := F_narrow_c49.other W52 (Or.inl ne_r0_b4)
  have F_wide_c52 : Fld Z h52 r0 "com/example/xrefloom/xrefloom/tree/CompactText" "wide" "[[C" (.ref wa) := F_wide_c49.other W52 (Or.inl ne_r0_b4)
  have V_na_c52 : Arv Z h52 na kn (.array .byte) (1 : Int32) [(.ref nb)] .null := V_na_c49.other W52 ne_na_b4
  have V_wa_c52 : Arv Z h52 wa kw (.array .char) (1 : Int32) [.null] .null := V_wa_c49.other W52 ne_wa_b4
  have V_nb_c52 : Arv Z h52 nb kb .byte (64 : Int32) (own_B x0 x1 x2) (.int (0 : Int32)) := V_nb_c49.other W52 ne_nb_b4
  have Ea4_c52 : Exa Z h52 b4 "[C" := Ea4_c49.wr W52
  have N52 := Fr.snoc X52 N49 gn_b4
  have Z52 : n0 ≤ h52.size := Nat.le_trans Z49 (Keep.of_wr W52).1
  refine own_go (G := T52.setTop (mkF m 39 #[.val (.ref r0), .val (.int (0 : Int32)), .val (.ref nb), .val (.ref b4), .val (.int (15 : Int32))] [])) (st52) ?_
  refine own_go (G := T52.setTop (mkF m 42 #[.val (.ref r0), .val (.int (0 : Int32)), .val (.ref nb), .val (.ref b4), .val (.int ((15 : Int32) + (1 : Int32)))] [])) (fun _ k => XS.iinc X52.here hx rfl (hb hby d7_39) rfl (l' := #[.val (.ref r0), .val (.int (0 : Int32)), .val (.ref nb), .val (.ref b4), .val (.int ((15 : Int32) + (1 : Int32)))]) rfl k) ?_
  rw [show ((15 : Int32) + (1 : Int32)) = (16 : Int32) from by decide]
  refine own_go (G := T52.setTop (mkF m 19 #[.val (.ref r0), .val (.int (0 : Int32)), .val (.ref nb), .val (.ref b4), .val (.int (16 : Int32))] [])) (fun _ k => XS.goto X52.here hx rfl (pc0 := 42) (pc' := 19) rfl (hb hby d7_42) (by decide) (by decide) k) ?_
  refine own_go (G := T52.setTop (mkF m 21 #[.val (.ref r0), .val (.int (0 : Int32)), .val (.ref nb), .val (.ref b4), .val (.int (16 : Int32))] [(.int (16 : Int32))])) (fun _ k => XS.iload X52.here hx rfl (hb hby d7_19) rfl k) ?_
  refine own_go (G := T52.setTop (mkF m 22 #[.val (.ref r0), .val (.int (0 : Int32)), .val (.ref nb), .val (.ref b4), .val (.int (16 : Int32))] [(.ref nb), (.int (16 : Int32))])) (fun _ k => XS.aloadN X52.here hx rfl (hb hby d7_21) rfl rfl k) ?_
  obtain ⟨cl53, Ar53, -, S53, N53_, -, -⟩ := id V_nb_c52
  refine own_go (G := T52.setTop (mkF m 23 #[.val (.ref r0), .val (.int (0 : Int32)), .val (.ref nb), .val (.ref b4), .val (.int (16 : Int32))] [(.int (64 : Int32)), (.int (16 : Int32))])) (fun t k => X52.arraylength hx (by rw [e52]; exact Ar53.1) (State.isArrayOf_alike hZ.alike Ar53.2.1) (g := (mkF m 22 #[.val (.ref r0), .val (.int (0 : Int32)), .val (.ref nb), .val (.ref b4), .val (.int (16 : Int32))] [(.ref nb), (.int (16 : Int32))])) rfl rfl (hb hby d7_22) t (by rw [len_of S53 N53_]; exact k)) ?_
  refine own_go (G := T52.setTop (mkF m 26 #[.val (.ref r0), .val (.int (0 : Int32)), .val (.ref nb), .val (.ref b4), .val (.int (16 : Int32))] [])) (fun _ k => XS.icmpNo X52.here hx rfl (hb hby d7_23) rfl (tlt (by decide : (16 : Int32) < (64 : Int32))).2.1 k) ?_
  refine own_go (G := T52.setTop (mkF m 27 #[.val (.ref r0), .val (.int (0 : Int32)), .val (.ref nb), .val (.ref b4), .val (.int (16 : Int32))] [(.ref b4)])) (fun _ k => XS.aloadN X52.here hx rfl (hb hby d7_26) rfl rfl k) ?_
  refine own_go (G := T52.setTop (mkF m 29 #[.val (.ref r0), .val (.int (0 : Int32)), .val (.ref nb), .val (.ref b4), .val (.int (16 : Int32))] [(.int (16 : Int32)), (.ref b4)])) (fun _ k => XS.iload X52.here hx rfl (hb hby d7_27) rfl k) ?_
  refine own_go (G := T52.setTop (mkF m 30 #[.val (.ref r0), .val (.int (0 : Int32)), .val (.ref nb), .val (.ref b4), .val (.int (16 : Int32))] [(.ref nb), (.int (16 : Int32)), (.ref b4)])) (fun _ k => XS.aloadN X52.here hx rfl (hb hby d7_29) rfl rfl k) ?_
  refine own_go (G := T52.setTop (mkF m 32 #[.val (.ref r0), .val (.int (0 : Int32)), .val (.ref nb), .val (.ref b4), .val (.int (16 : Int32))] [(.int (16 : Int32)), (.ref nb), (.int (16 : Int32)), (.ref b4)])) (fun _ k => XS.iload X52.here hx rfl (hb hby d7_30) rfl k) ?_
  obtain ⟨cl54, Ar54, qk54, S54, N54_, Ha54, G54⟩ := id V_nb_c52
  have hin54 : ¬ ((16 : Int32) < 0 ∨ cl54.slots.size ≤ ((16 : Int32)).toNatClampNeg) := inb_of S54 ⟨by decide, by decide⟩
  have hat54 : cl54.slots[((16 : Int32)).toNatClampNeg]? = some (.int (0 : Int32)) := Ha54.at hin54 rfl
  refine own_go (G := T52.setTop (mkF m 33 #[.val (.ref r0), .val (.int (0 : Int32)), .val (.ref nb), .val (.ref b4), .val (.int (16 : Int32))] [(.int (0 : Int32)), (.int (16 : Int32)), (.ref b4)])) (X52.baloadBytes hx (j := (16 : Int32)) (v := (.int (0 : Int32))) (by rw [e52]; exact Ar54.1) (State.isArrayOf_alike hZ.alike Ar54.2.1) Ar54.2.2 hin54 hat54 (g := (mkF m 32 #[.val (.ref r0), .val (.int (0 : Int32)), .val (.ref nb), .val (.ref b4), .val (.int (16 : Int32))] [(.int (16 : Int32)), (.ref nb), (.int (16 : Int32)), (.ref b4)])) rfl rfl (hb hby d7_32)) ?_
  refine own_go (G := T52.setTop (mkF m 36 #[.val (.ref r0), .val (.int (0 : Int32)), .val (.ref nb), .val (.ref b4), .val (.int (16 : Int32))] [(.int (255 : Int32)), (.int (0 : Int32)), (.int (16 : Int32)), (.ref b4)])) (fun _ k => XS.sipush X52.here hx rfl (hb hby d7_33) k) ?_
  refine own_go (G := T52.setTop (mkF m 37 #[.val (.ref r0), .val (.int (0 : Int32)), .val (.ref nb), .val (.ref b4), .val (.int (16 : Int32))] [(.int ((0 : Int32) &&& (255 : Int32))), (.int (16 : Int32)), (.ref b4)])) (fun _ k => XS.iand X52.here hx rfl (hb hby d7_36) rfl k) ?_
  rw [show ((0 : Int32) &&& (255 : Int32)) = (0 : Int32) from by decide]
  refine own_go (G := T52.setTop (mkF m 38 #[.val (.ref r0), .val (.int (0 : Int32)), .val (.ref nb), .val (.ref b4), .val (.int (16 : Int32))] [(.int ((0 : Int32).toUInt32.toUInt16.toUInt32.toInt32)), (.int (16 : Int32)), (.ref b4)])) (fun _ k => XS.i2c X52.here hx rfl (hb hby d7_37) rfl k) ?_
  rw [show ((0 : Int32).toUInt32.toUInt16.toUInt32.toInt32) = (0 : Int32) from by decide]
  obtain ⟨cl55, Ar55, qk55, S55, N55_, Ha55, G55⟩ := id V52_b4
  have hin55 : ¬ ((16 : Int32) < 0 ∨ cl55.slots.size ≤ ((16 : Int32)).toNatClampNeg) := inb_of S55 ⟨by decide, by decide⟩
  obtain ⟨T55, h55, X55, e55, W55, st55⟩ := stC X52 hx hZ e52 Ar55 (j := (16 : Int32)) hin55 (g := (mkF m 38 #[.val (.ref r0), .val (.int (0 : Int32)), .val (.ref nb), .val (.ref b4), .val (.int (16 : Int32))] [(.int (0 : Int32)), (.int (16 : Int32)), (.ref b4)])) rfl rfl (hb hby d7_38)
  have V55_b4 : Arv Z h55 b4 k4 .char (64 : Int32) (own_B (nar .char ((x0 &&& (255 : Int32)).toUInt32.toUInt16.toUInt32.toInt32)) (nar .char ((x1 &&& (255 : Int32)).toUInt32.toUInt16.toUInt32.toInt32)) (nar .char ((x2 &&& (255 : Int32)).toUInt32.toUInt16.toUInt32.toInt32))) (.int (0 : Int32)) := Arv.set Ar55 qk55 S55 N55_ Ha55 G55 (fits_nar_char _) W55 16 rfl (Nat.le_of_ble_eq_true rfl)
  have E_r0_c55 : Exa Z h55 r0 "com/example/xrefloom/xrefloom/tree/CompactText" := E_r0_c52.wr W55
  have F_length_c55 : Fld Z h55 r0 "com/example/xrefloom/xrefloom/tree/CompactText" "length" "I" (.int len) := F_length_c52.other W55 (Or.inl ne_r0_b4)
  have F_narrow_c55 : Fld Z h55 r0 "com/example/xrefloom/xrefloom/tree/CompactText" "narrow" "[[B" (.ref na) := F_narrow_c52.other W55 (Or.inl ne_r0_b4)
  have F_wide_c55 : Fld Z h55 r0 "com/example/xrefloom/xrefloom/tree/CompactText" "wide" "[[C" (.ref wa) := F_wide_c52.other W55 (Or.inl ne_r0_b4)
  have V_na_c55 : Arv Z h55 na kn (.array .byte) (1 : Int32) [(.ref nb)] .null := V_na_c52.other W55 ne_na_b4
  have V_wa_c55 : Arv Z h55 wa kw (.array .char) (1 : Int32) [.null] .null := V_wa_c52.other W55 ne_wa_b4
  have V_nb_c55 : Arv Z h55 nb kb .byte (64 : Int32) (own_B x0 x1 x2) (.int (0 : Int32)) := V_nb_c52.other W55 ne_nb_b4
  have Ea4_c55 : Exa Z h55 b4 "[C" := Ea4_c52.wr W55
  have N55 := Fr.snoc X55 N52 gn_b4
  have Z55 : n0 ≤ h55.size := Nat.le_trans Z52 (Keep.of_wr W55).1
  refine own_go (G := T55.setTop (mkF m 39 #[.val (.ref r0), .val (.int (0 : Int32)), .val (.ref nb), .val (.ref b4), .val (.int (16 : Int32))] [])) (st55) ?_
  refine own_go (G := T55.setTop (mkF m 42 #[.val (.ref r0), .val (.int (0 : Int32)), .val (.ref nb), .val (.ref b4), .val (.int ((16 : Int32) + (1 : Int32)))] [])) (fun _ k => XS.iinc X55.here hx rfl (hb hby d7_39) rfl (l' := #[.val (.ref r0), .val (.int (0 : Int32)), .val (.ref nb), .val (.ref b4), .val (.int ((16 : Int32) + (1 : Int32)))]) rfl k) ?_
  rw [show ((16 : Int32) + (1 : Int32)) = (17 : Int32) from by decide]
  refine own_go (G := T55.setTop (mkF m 19 #[.val (.ref r0), .val (.int (0 : Int32)), .val (.ref nb), .val (.ref b4), .val (.int (17 : Int32))] [])) (fun _ k => XS.goto X55.here hx rfl (pc0 := 42) (pc' := 19) rfl (hb hby d7_42) (by decide) (by decide) k) ?_
  refine own_go (G := T55.setTop (mkF m 21 #[.val (.ref r0), .val (.int (0 : Int32)), .val (.ref nb), .val (.ref b4), .val (.int (17 : Int32))] [(.int (17 : Int32))])) (fun _ k => XS.iload X55.here hx rfl (hb hby d7_19) rfl k) ?_
  refine own_go (G := T55.setTop (mkF m 22 #[.val (.ref r0), .val (.int (0 : Int32)), .val (.ref nb), .val (.ref b4), .val (.int (17 : Int32))] [(.ref nb), (.int (17 : Int32))])) (fun _ k => XS.aloadN X55.here hx rfl (hb hby d7_21) rfl rfl k) ?_
  obtain ⟨cl56, Ar56, -, S56, N56_, -, -⟩ := id V_nb_c55
  refine own_go (G := T55.setTop (mkF m 23 #[.val (.ref r0), .val (.int (0 : Int32)), .val (.ref nb), .val (.ref b4), .val (.int (17 : Int32))] [(.int (64 : Int32)), (.int (17 : Int32))])) (fun t k => X55.arraylength hx (by rw [e55]; exact Ar56.1) (State.isArrayOf_alike hZ.alike Ar56.2.1) (g := (mkF m 22 #[.val (.ref r0), .val (.int (0 : Int32)), .val (.ref nb), .val (.ref b4), .val (.int (17 : Int32))] [(.ref nb), (.int (17 : Int32))])) rfl rfl (hb hby d7_22) t (by rw [len_of S56 N56_]; exact k)) ?_
  refine own_go (G := T55.setTop (mkF m 26 #[.val (.ref r0), .val (.int (0 : Int32)), .val (.ref nb), .val (.ref b4), .val (.int (17 : Int32))] [])) (fun _ k => XS.icmpNo X55.here hx rfl (hb hby d7_23) rfl (tlt (by decide : (17 : Int32) < (64 : Int32))).2.1 k) ?_
  refine own_go (G := T55.setTop (mkF m 27 #[.val (.ref r0), .val (.int (0 : Int32)), .val (.ref nb), .val (.ref b4), .val (.int (17 : Int32))] [(.ref b4)])) (fun _ k => XS.aloadN X55.here hx rfl (hb hby d7_26) rfl rfl k) ?_
  refine own_go (G := T55.setTop (mkF m 29 #[.val (.ref r0), .val (.int (0 : Int32)), .val (.ref nb), .val (.ref b4), .val (.int (17 : Int32))] [(.int (17 : Int32)), (.ref b4)])) (fun _ k => XS.iload X55.here hx rfl (hb hby d7_27) rfl k) ?_
  refine own_go (G := T55.setTop (mkF m 30 #[.val (.ref r0), .val (.int (0 : Int32)), .val (.ref nb), .val (.ref b4), .val (.int (17 : Int32))] [(.ref nb), (.int (17 : Int32)), (.ref b4)])) (fun _ k => XS.aloadN X55.here hx rfl (hb hby d7_29) rfl rfl k) ?_
  refine own_go (G := T55.setTop (mkF m 32 #[.val (.ref r0), .val (.int (0 : Int32)), .val (.ref nb), .val (.ref b4), .val (.int (17 : Int32))] [(.int (17 : Int32)), (.ref nb), (.int (17 : Int32)), (.ref b4)])) (fun _ k => XS.iload X55.here hx rfl (hb hby d7_30) rfl k) ?_
  obtain ⟨cl57, Ar57, qk57, S57, N57_, Ha57, G57⟩ := id V_nb_c55
  have hin57 : ¬ ((17 : Int32) < 0 ∨ cl57.slots.size ≤ ((17 : Int32)).toNatClampNeg) := inb_of S57 ⟨by decide, by decide⟩
  have hat57 : cl57.slots[((17 : Int32)).toNatClampNeg]? = some (.int (0 : Int32)) := Ha57.at hin57 rfl
  refine own_go (G := T55.setTop (mkF m 33 #[.val (.ref r0), .val (.int (0 : Int32)), .val (.ref nb), .val (.ref b4), .val (.int (17 : Int32))] [(.int (0 : Int32)), (.int (17 : Int32)), (.ref b4)])) (X55.baloadBytes hx (j := (17 : Int32)) (v := (.int (0 : Int32))) (by rw [e55]; exact Ar57.1) (State.isArrayOf_alike hZ.alike Ar57.2.1) Ar57.2.2 hin57 hat57 (g := (mkF m 32 #[.val (.ref r0), .val (.int (0 : Int32)), .val (.ref nb), .val (.ref b4), .val (.int (17 : Int32))] [(.int (17 : Int32)), (.ref nb), (.int (17 : Int32)), (.ref b4)])) rfl rfl (hb hby d7_32)) ?_
  refine own_go (G := T55.setTop (mkF m 36 #[.val (.ref r0), .val (.int (0 : Int32)), .val (.ref nb), .val (.ref b4), .val (.int (17 : Int32))] [(.int (255 : Int32)), (.int (0 : Int32)), (.int (17 : Int32)), (.ref b4)])) (fun _ k => XS.sipush X55.here hx rfl (hb hby d7_33) k) ?_
  refine own_go (G := T55.setTop (mkF m 37 #[.val (.ref r0), .val (.int (0 : Int32)), .val (.ref nb), .val (.ref b4), .val (.int (17 : Int32))] [(.int ((0 : Int32) &&& (255 : Int32))), (.int (17 : Int32)), (.ref b4)])) (fun _ k => XS.iand X55.here hx rfl (hb hby d7_36) rfl k) ?_
  rw [show ((0 : Int32) &&& (255 : Int32)) = (0 : Int32) from by decide]
  refine own_go (G := T55.setTop (mkF m 38 #[.val (.ref r0), .val (.int (0 : Int32)), .val (.ref nb), .val (.ref b4), .val (.int (17 : Int32))] [(.int ((0 : Int32).toUInt32.toUInt16.toUInt32.toInt32)), (.int (17 : Int32)), (.ref b4)])) (fun _ k => XS.i2c X55.here hx rfl (hb hby d7_37) rfl k) ?_
  rw [show ((0 : Int32).toUInt32.toUInt16.toUInt32.toInt32) = (0 : Int32) from by decide]
  obtain ⟨cl58, Ar58, qk58, S58, N58_, Ha58, G58⟩ := id V55_b4
  have hin58 : ¬ ((17 : Int32) < 0 ∨ cl58.slots.size ≤ ((17 : Int32)).toNatClampNeg) := inb_of S58 ⟨by decide, by decide⟩
  obtain ⟨T58, h58, X58, e58, W58, st58⟩ := stC X55 hx hZ e55 Ar58 (j := (17 : Int32)) hin58 (g := (mkF m 38 #[.val (.ref r0), .val (.int (0 : Int32)), .val (.ref nb), .val (.ref b4), .val (.int (17 : Int32))] [(.int (0 : Int32)), (.int (17 : Int32)), (.ref b4)])) rfl rfl (hb hby d7_38)
  have V58_b4 : Arv Z h58 b4 k4 .char (64 : Int32) (own_B (nar .char ((x0 &&& (255 : Int32)).toUInt32.toUInt16.toUInt32.toInt32)) (nar .char ((x1 &&& (255 : Int32)).toUInt32.toUInt16.toUInt32.toInt32)) (nar .char ((x2 &&& (255 : Int32)).toUInt32.toUInt16.toUInt32.toInt32))) (.int (0 : Int32)) := Arv.set Ar58 qk58 S58 N58_ Ha58 G58 (fits_nar_char _) W58 17 rfl (Nat.le_of_ble_eq_true rfl)
  have E_r0_c58 : Exa Z h58 r0 "com/example/xrefloom/xrefloom/tree/CompactText" := E_r0_c55.wr W58
  have F_length_c58 : Fld Z h58 r0 "com/example/xrefloom/xrefloom/tree/CompactText" "length" "I" (.int len) := F_length_c55.other W58 (Or.inl ne_r0_b4)
  have F_narrow_c58 : Fld Z h58 r0 "com/example/xrefloom/xrefloom/tree/CompactText" "narrow" "[[B" (.ref na) := F_narrow_c55.other W58 (Or.inl ne_r0_b4)
  have F_wide_c58 : Fld Z h58 r0 "com/example/xrefloom/xrefloom/tree/CompactText" "wide" "[[C" (.ref wa) := F_wide_c55.other W58 (Or.inl ne_r0_b4)
  have V_na_c58 : Arv Z h58 na kn (.array .byte) (1 : Int32) [(.ref nb)] .null := V_na_c55.other W58 ne_na_b4
  have V_wa_c58 : Arv Z h58 wa kw (.array .char) (1 : Int32) [.null] .null := V_wa_c55.other W58 ne_wa_b4
  have V_nb_c58 : Arv Z h58 nb kb .byte (64 : Int32) (own_B x0 x1 x2) (.int (0 : Int32)) := V_nb_c55.other W58 ne_nb_b4
  have Ea4_c58 : Exa Z h58 b4 "[C" := Ea4_c55.wr W58
  have N58 := Fr.snoc X58 N55 gn_b4
  have Z58 : n0 ≤ h58.size := Nat.le_trans Z55 (Keep.of_wr W58).1
  refine own_go (G := T58.setTop (mkF m 39 #[.val (.ref r0), .val (.int (0 : Int32)), .val (.ref nb), .val (.ref b4), .val (.int (17 : Int32))] [])) (st58) ?_
  refine own_go (G := T58.setTop (mkF m 42 #[.val (.ref r0), .val (.int (0 : Int32)), .val (.ref nb), .val (.ref b4), .val (.int ((17 : Int32) + (1 : Int32)))] [])) (fun _ k => XS.iinc X58.here hx rfl (hb hby d7_39) rfl (l' := #[.val (.ref r0), .val (.int (0 : Int32)), .val (.ref nb), .val (.ref b4), .val (.int ((17 : Int32) + (1 : Int32)))]) rfl k) ?_
  rw [show ((17 : Int32) + (1 : Int32)) = (18 : Int32) from by decide]
  refine own_go (G := T58.setTop (mkF m 19 #[.val (.ref r0), .val (.int (0 : Int32)), .val (.ref nb), .val (.ref b4), .val (.int (18 : Int32))] [])) (fun _ k => XS.goto X58.here hx rfl (pc0 := 42) (pc' := 19) rfl (hb hby d7_42) (by decide) (by decide) k) ?_
  refine own_go (G := T58.setTop (mkF m 21 #[.val (.ref r0), .val (.int (0 : Int32)), .val (.ref nb), .val (.ref b4), .val (.int (18 : Int32))] [(.int (18 : Int32))])) (fun _ k => XS.iload X58.here hx rfl (hb hby d7_19) rfl k) ?_
  refine own_go (G := T58.setTop (mkF m 22 #[.val (.ref r0), .val (.int (0 : Int32)), .val (.ref nb), .val (.ref b4), .val (.int (18 : Int32))] [(.ref nb), (.int (18 : Int32))])) (fun _ k => XS.aloadN X58.here hx rfl (hb hby d7_21) rfl rfl k) ?_
  obtain ⟨cl59, Ar59, -, S59, N59_, -, -⟩ := id V_nb_c58
  refine own_go (G := T58.setTop (mkF m 23 #[.val (.ref r0), .val (.int (0 : Int32)), .val (.ref nb), .val (.ref b4), .val (.int (18 : Int32))] [(.int (64 : Int32)), (.int (18 : Int32))])) (fun t k => X58.arraylength hx (by rw [e58]; exact Ar59.1) (State.isArrayOf_alike hZ.alike Ar59.2.1) (g := (mkF m 22 #[.val (.ref r0), .val (.int (0 : Int32)), .val (.ref nb), .val (.ref b4), .val (.int (18 : Int32))] [(.ref nb), (.int (18 : Int32))])) rfl rfl (hb hby d7_22) t (by rw [len_of S59 N59_]; exact k)) ?_
  refine own_go (G := T58.setTop (mkF m 26 #[.val (.ref r0), .val (.int (0 : Int32)), .val (.ref nb), .val (.ref b4), .val (.int (18 : Int32))] [])) (fun _ k => XS.icmpNo X58.here hx rfl (hb hby d7_23) rfl (tlt (by decide : (18 : Int32) < (64 : Int32))).2.1 k) ?_
  refine own_go (G := T58.setTop (mkF m 27 #[.val (.ref r0), .val (.int (0 : Int32)), .val (.ref nb), .val (.ref b4), .val (.int (18 : Int32))] [(.ref b4)])) (fun _ k => XS.aloadN X58.here hx rfl (hb hby d7_26) rfl rfl k) ?_
  refine own_go (G := T58.setTop (mkF m 29 #[.val (.ref r0), .val (.int (0 : Int32)), .val (.ref nb), .val (.ref b4), .val (.int (18 : Int32))] [(.int (18 : Int32)), (.ref b4)])) (fun _ k => XS.iload X58.here hx rfl (hb hby d7_27) rfl k) ?_
  refine own_go (G := T58.setTop (mkF m 30 #[.val (.ref r0), .val (.int (0 : Int32)), .val (.ref nb), .val (.ref b4), .val (.int (18 : Int32))] [(.ref nb), (.int (18 : Int32)), (.ref b4)])) (fun _ k => XS.aloadN X58.here hx rfl (hb hby d7_29) rfl rfl k) ?_
  refine own_go (G := T58.setTop (mkF m 32 #[.val (.ref r0), .val (.int (0 : Int32)), .val (.ref nb), .val (.ref b4), .val (.int (18 : Int32))] [(.int (18 : Int32)), (.ref nb), (.int (18 : Int32)), (.ref b4)])) (fun _ k => XS.iload X58.here hx rfl (hb hby d7_30) rfl k) ?_
  obtain ⟨cl60, Ar60, qk60, S60, N60_, Ha60, G60⟩ := id V_nb_c58
  have hin60 : ¬ ((18 : Int32) < 0 ∨ cl60.slots.size ≤ ((18 : Int32)).toNatClampNeg) := inb_of S60 ⟨by decide, by decide⟩
  have hat60 : cl60.slots[((18 : Int32)).toNatClampNeg]? = some (.int (0 : Int32)) := Ha60.at hin60 rfl
  refine own_go (G := T58.setTop (mkF m 33 #[.val (.ref r0), .val (.int (0 : Int32)), .val (.ref nb), .val (.ref b4), .val (.int (18 : Int32))] [(.int (0 : Int32)), (.int (18 : Int32)), (.ref b4)])) (X58.baloadBytes hx (j := (18 : Int32)) (v := (.int (0 : Int32))) (by rw [e58]; exact Ar60.1) (State.isArrayOf_alike hZ.alike Ar60.2.1) Ar60.2.2 hin60 hat60 (g := (mkF m 32 #[.val (.ref r0), .val (.int (0 : Int32)), .val (.ref nb), .val (.ref b4), .val (.int (18 : Int32))] [(.int (18 : Int32)), (.ref nb), (.int (18 : Int32)), (.ref b4)])) rfl rfl (hb hby d7_32)) ?_
  refine own_go (G := T58.setTop (mkF m 36 #[.val (.ref r0), .val (.int (0 : Int32)), .val (.ref nb), .val (.ref b4), .val (.int (18 : Int32))] [(.int (255 : Int32)), (.int (0 : Int32)), (.int (18 : Int32)), (.ref b4)])) (fun _ k => XS.sipush X58.here hx rfl (hb hby d7_33) k) ?_
  refine own_go (G := T58.setTop (mkF m 37 #[.val (.ref r0), .val (.int (0 : Int32)), .val (.ref nb), .val (.ref b4), .val (.int (18 : Int32))] [(.int ((0 : Int32) &&& (255 : Int32))), (.int (18 : Int32)), (.ref b4)])) (fun _ k => XS.iand X58.here hx rfl (hb hby d7_36) rfl k) ?_
  rw [show ((0 : Int32) &&& (255 : Int32)) = (0 : Int32) from by decide]
  refine own_go (G := T58.setTop (mkF m 38 #[.val (.ref r0), .val (.int (0 : Int32)), .val (.ref nb), .val (.ref b4), .val (.int (18 : Int32))] [(.int ((0 : Int32).toUInt32.toUInt16.toUInt32.toInt32)), (.int (18 : Int32)), (.ref b4)])) (fun _ k => XS.i2c X58.here hx rfl (hb hby d7_37) rfl k) ?_
  rw [show ((0 : Int32).toUInt32.toUInt16.toUInt32.toInt32) = (0 : Int32) from by decide]
  obtain ⟨cl61, Ar61, qk61, S61, N61_, Ha61, G61⟩ := id V58_b4
  have hin61 : ¬ ((18 : Int32) < 0 ∨ cl61.slots.size ≤ ((18 : Int32)).toNatClampNeg) := inb_of S61 ⟨by decide, by decide⟩
  obtain ⟨T61, h61, X61, e61, W61, st61⟩ := stC X58 hx hZ e58 Ar61 (j := (18 : Int32)) hin61 (g := (mkF m 38 #[.val (.ref r0), .val (.int (0 : Int32)), .val (.ref nb), .val (.ref b4), .val (.int (18 : Int32))] [(.int (0 : Int32)), (.int (18 : Int32)), (.ref b4)])) rfl rfl (hb hby d7_38)
  have V61_b4 : Arv Z h61 b4 k4 .char (64 : Int32) (own_B (nar .char ((x0 &&& (255 : Int32)).toUInt32.toUInt16.toUInt32.toInt32)) (nar .char ((x1 &&& (255 : Int32)).toUInt32.toUInt16.toUInt32.toInt32)) (nar .char ((x2 &&& (255 : Int32)).toUInt32.toUInt16.toUInt32.toInt32))) (.int (0 : Int32)) := Arv.set Ar61 qk61 S61 N61_ Ha61 G61 (fits_nar_char _) W61 18 rfl (Nat.le_of_ble_eq_true rfl)
  have E_r0_c61 : Exa Z h61 r0 "com/example/xrefloom/xrefloom/tree/CompactText" := E_r0_c58.wr W61
  have F_length_c61 : Fld Z h61 r0 "com/example/xrefloom/xrefloom/tree/CompactText" "length" "I" (.int len) := F_length_c58.other W61 (Or.inl ne_r0_b4)
  have F_narrow_c61 : Fld Z h61 r0 "com/example/xrefloom/xrefloom/tree/CompactText" "narrow" "[[B" (.ref na) := F_narrow_c58.other W61 (Or.inl ne_r0_b4)
  have F_wide_c61 : Fld Z h61 r0 "com/example/xrefloom/xrefloom/tree/CompactText" "wide" "[[C" (.ref wa) := F_wide_c58.other W61 (Or.inl ne_r0_b4)
  have V_na_c61 : Arv Z h61 na kn (.array .byte) (1 : Int32) [(.ref nb)] .null := V_na_c58.other W61 ne_na_b4
  have V_wa_c61 : Arv Z h61 wa kw (.array .char) (1 : Int32) [.null] .null := V_wa_c58.other W61 ne_wa_b4
  have V_nb_c61 : Arv Z h61 nb kb .byte (64 : Int32) (own_B x0 x1 x2) (.int (0 : Int32)) := V_nb_c58.other W61 ne_nb_b4
  have Ea4_c61 : Exa Z h61 b4 "[C" := Ea4_c58.wr W61
  have N61 := Fr.snoc X61 N58 gn_b4
  have Z61 : n0 ≤ h61.size := Nat.le_trans Z58 (Keep.of_wr W61).1
  refine own_go (G := T61.setTop (mkF m 39 #[.val (.ref r0), .val (.int (0 : Int32)), .val (.ref nb), .val (.ref b4), .val (.int (18 : Int32))] [])) (st61) ?_
  refine own_go (G := T61.setTop (mkF m 42 #[.val (.ref r0), .val (.int (0 : Int32)), .val (.ref nb), .val (.ref b4), .val (.int ((18 : Int32) + (1 : Int32)))] [])) (fun _ k => XS.iinc X61.here hx rfl (hb hby d7_39) rfl (l' := #[.val (.ref r0), .val (.int (0 : Int32)), .val (.ref nb), .val (.ref b4), .val (.int ((18 : Int32) + (1 : Int32)))]) rfl k) ?_
  rw [show ((18 : Int32) + (1 : Int32)) = (19 : Int32) from by decide]
  refine own_go (G := T61.setTop (mkF m 19 #[.val (.ref r0), .val (.int (0 : Int32)), .val (.ref nb), .val (.ref b4), .val (.int (19 : Int32))] [])) (fun _ k => XS.goto X61.here hx rfl (pc0 := 42) (pc' := 19) rfl (hb hby d7_42) (by decide) (by decide) k) ?_
  refine own_go (G := T61.setTop (mkF m 21 #[.val (.ref r0), .val (.int (0 : Int32)), .val (.ref nb), .val (.ref b4), .val (.int (19 : Int32))] [(.int (19 : Int32))])) (fun _ k => XS.iload X61.here hx rfl (hb hby d7_19) rfl k) ?_
  refine own_go (G := T61.setTop (mkF m 22 #[.val (.ref r0), .val (.int (0 : Int32)), .val (.ref nb), .val (.ref b4), .val (.int (19 : Int32))] [(.ref nb), (.int (19 : Int32))])) (fun _ k => XS.aloadN X61.here hx rfl (hb hby d7_21) rfl rfl k) ?_
  obtain ⟨cl62, Ar62, -, S62, N62_, -, -⟩ := id V_nb_c61
  refine own_go (G := T61.setTop (mkF m 23 #[.val (.ref r0), .val (.int (0 : Int32)), .val (.ref nb), .val (.ref b4), .val (.int (19 : Int32))] [(.int (64 : Int32)), (.int (19 : Int32))])) (fun t k => X61.arraylength hx (by rw [e61]; exact Ar62.1) (State.isArrayOf_alike hZ.alike Ar62.2.1) (g := (mkF m 22 #[.val (.ref r0), .val (.int (0 : Int32)), .val (.ref nb), .val (.ref b4), .val (.int (19 : Int32))] [(.ref nb), (.int (19 : Int32))])) rfl rfl (hb hby d7_22) t (by rw [len_of S62 N62_]; exact k)) ?_
  refine own_go (G := T61.setTop (mkF m 26 #[.val (.ref r0), .val (.int (0 : Int32)), .val (.ref nb), .val (.ref b4), .val (.int (19 : Int32))] [])) (fun _ k => XS.icmpNo X61.here hx rfl (hb hby d7_23) rfl (tlt (by decide : (19 : Int32) < (64 : Int32))).2.1 k) ?_
  refine own_go (G := T61.setTop (mkF m 27 #[.val (.ref r0), .val (.int (0 : Int32)), .val (.ref nb), .val (.ref b4), .val (.int (19 : Int32))] [(.ref b4)])) (fun _ k => XS.aloadN X61.here hx rfl (hb hby d7_26) rfl rfl k) ?_
  refine own_go (G := T61.setTop (mkF m 29 #[.val (.ref r0), .val (.int (0 : Int32)), .val (.ref nb), .val (.ref b4), .val (.int (19 : Int32))] [(.int (19 : Int32)), (.ref b4)])) (fun _ k => XS.iload X61.here hx rfl (hb hby d7_27) rfl k) ?_
  refine own_go (G := T61.setTop (mkF m 30 #[.val (.ref r0), .val (.int (0 : Int32)), .val (.ref nb), .val (.ref b4), .val (.int (19 : Int32))] [(.ref nb), (.int (19 : Int32)), (.ref b4)])) (fun _ k => XS.aloadN X61.here hx rfl (hb hby d7_29) rfl rfl k) ?_
  refine own_go (G := T61.setTop (mkF m 32 #[.val (.ref r0), .val (.int (0 : Int32)), .val (.ref nb), .val (.ref b4), .val (.int (19 : Int32))] [(.int (19 : Int32)), (.ref nb), (.int (19 : Int32)), (.ref b4)])) (fun _ k => XS.iload X61.here hx rfl (hb hby d7_30) rfl k) ?_
  obtain ⟨cl63, Ar63, qk63, S63, N63_, Ha63, G63⟩ := id V_nb_c61
  have hin63 : ¬ ((19 : Int32) < 0 ∨ cl63.slots.size ≤ ((19 : Int32)).toNatClampNeg) := inb_of S63 ⟨by decide, by decide⟩
  have hat63 : cl63.slots[((19 : Int32)).toNatClampNeg]? = some (.int (0 : Int32)) := Ha63.at hin63 rfl
  refine own_go (G := T61.setTop (mkF m 33 #[.val (.ref r0), .val (.int (0 : Int32)), .val (.ref nb), .val (.ref b4), .val (.int (19 : Int32))] [(.int (0 : Int32)), (.int (19 : Int32)), (.ref b4)])) (X61.baloadBytes hx (j := (19 : Int32)) (v := (.int (0 : Int32))) (by rw [e61]; exact Ar63.1) (State.isArrayOf_alike hZ.alike Ar63.2.1) Ar63.2.2 hin63 hat63 (g := (mkF m 32 #[.val (.ref r0), .val (.int (0 : Int32)), .val (.ref nb), .val (.ref b4), .val (.int (19 : Int32))] [(.int (19 : Int32)), (.ref nb), (.int (19 : Int32)), (.ref b4)])) rfl rfl (hb hby d7_32)) ?_
  refine own_go (G := T61.setTop (mkF m 36 #[.val (.ref r0), .val (.int (0 : Int32)), .val (.ref nb), .val (.ref b4), .val (.int (19 : Int32))] [(.int (255 : Int32)), (.int (0 : Int32)), (.int (19 : Int32)), (.ref b4)])) (fun _ k => XS.sipush X61.here hx rfl (hb hby d7_33) k) ?_
  refine own_go (G := T61.setTop (mkF m 37 #[.val (.ref r0), .val (.int (0 : Int32)), .val (.ref nb), .val (.ref b4), .val (.int (19 : Int32))] [(.int ((0 : Int32) &&& (255 : Int32))), (.int (19 : Int32)), (.ref b4)])) (fun _ k => XS.iand X61.here hx rfl (hb hby d7_36) rfl k) ?_
  rw [show ((0 : Int32) &&& (255 : Int32)) = (0 : Int32) from by decide]
  refine own_go (G := T61.setTop (mkF m 38 #[.val (.ref r0), .val (.int (0 : Int32)), .val (.ref nb), .val (.ref b4), .val (.int (19 : Int32))] [(.int ((0 : Int32).toUInt32.toUInt16.toUInt32.toInt32)), (.int (19 : Int32)), (.ref b4)])) (fun _ k => XS.i2c X61.here hx rfl (hb hby d7_37) rfl k) ?_
  rw [show ((0 : Int32).toUInt32.toUInt16.toUInt32.toInt32) = (0 : Int32) from by decide]
  obtain ⟨cl64, Ar64, qk64, S64, N64_, Ha64, G64⟩ := id V61_b4
  have hin64 : ¬ ((19 : Int32) < 0 ∨ cl64.slots.size ≤ ((19 : Int32)).toNatClampNeg) := inb_of S64 ⟨by decide, by decide⟩
  obtain ⟨T64, h64, X64, e64, W64, st64⟩ := stC X61 hx hZ e61 Ar64 (j := (19 : Int32)) hin64 (g := (mkF m 38 #[.val (.ref r0), .val (.int (0 : Int32)), .val (.ref nb), .val (.ref b4), .val (.int (19 : Int32))] [(.int (0 : Int32)), (.int (19 : Int32)), (.ref b4)])) rfl rfl (hb hby d7_38)
  have V64_b4 : Arv Z h64 b4 k4 .char (64 : Int32) (own_B (nar .char ((x0 &&& (255 : Int32)).toUInt32.toUInt16.toUInt32.toInt32)) (nar .char ((x1 &&& (255 : Int32)).toUInt32.toUInt16.toUInt32.toInt32)) (nar .char ((x2 &&& (255 : Int32)).toUInt32.toUInt16.toUInt32.toInt32))) (.int (0 : Int32)) := Arv.set Ar64 qk64 S64 N64_ Ha64 G64 (fits_nar_char _) W64 19 rfl (Nat.le_of_ble_eq_true rfl)
  have E_r0_c64 : Exa Z h64 r0 "com/example/xrefloom/xrefloom/tree/CompactText" := E_r0_c61.wr W64
  have F_length_c64 : Fld Z h64 r0 "com/example/xrefloom/xrefloom/tree/CompactText" "length" "I" (.int len) := F_length_c61.other W64 (Or.inl ne_r0_b4)
  have F_narrow_c64 : Fld Z h64 r0 "com/example/xrefloom/xrefloom/tree/CompactText" "narrow" "[[B" (.ref na) := F_narrow_c61.other W64 (Or.inl ne_r0_b4)
  have F_wide_c64 : Fld Z h64 r0 "com/example/xrefloom/xrefloom/tree/CompactText" "wide" "[[C" (.ref wa) := F_wide_c61.other W64 (Or.inl ne_r0_b4)
  have V_na_c64 : Arv Z h64 na kn (.array .byte) (1 : Int32) [(.ref nb)] .null := V_na_c61.other W64 ne_na_b4
  have V_wa_c64 : Arv Z h64 wa kw (.array .char) (1 : Int32) [.null] .null := V_wa_c61.other W64 ne_wa_b4
  have V_nb_c64 : Arv Z h64 nb kb .byte (64 : Int32) (own_B x0 x1 x2) (.int (0 : Int32)) := V_nb_c61.other W64 ne_nb_b4
  have Ea4_c64 : Exa Z h64 b4 "[C" := Ea4_c61.wr W64
  have N64 := Fr.snoc X64 N61 gn_b4
  have Z64 : n0 ≤ h64.size := Nat.le_trans Z61 (Keep.of_wr W64).1
  refine own_go (G := T64.setTop (mkF m 39 #[.val (.ref r0), .val (.int (0 : Int32)), .val (.ref nb), .val (.ref b4), .val (.int (19 : Int32))] [])) (st64) ?_
  refine own_go (G := T64.setTop (mkF m 42 #[.val (.ref r0), .val (.int (0 : Int32)), .val (.ref nb), .val (.ref b4), .val (.int ((19 : Int32) + (1 : Int32)))] [])) (fun _ k => XS.iinc X64.here hx rfl (hb hby d7_39) rfl (l' := #[.val (.ref r0), .val (.int (0 : Int32)), .val (.ref nb), .val (.ref b4), .val (.int ((19 : Int32) + (1 : Int32)))]) rfl k) ?_
  rw [show ((19 : Int32) + (1 : Int32)) = (20 : Int32) from by decide]
  refine own_go (G := T64.setTop (mkF m 19 #[.val (.ref r0), .val (.int (0 : Int32)), .val (.ref nb), .val (.ref b4), .val (.int (20 : Int32))] [])) (fun _ k => XS.goto X64.here hx rfl (pc0 := 42) (pc' := 19) rfl (hb hby d7_42) (by decide) (by decide) k) ?_
  refine own_go (G := T64.setTop (mkF m 21 #[.val (.ref r0), .val (.int (0 : Int32)), .val (.ref nb), .val (.ref b4), .val (.int (20 : Int32))] [(.int (20 : Int32))])) (fun _ k => XS.iload X64.here hx rfl (hb hby d7_19) rfl k) ?_
  refine own_go (G := T64.setTop (mkF m 22 #[.val (.ref r0), .val (.int (0 : Int32)), .val (.ref nb), .val (.ref b4), .val (.int (20 : Int32))] [(.ref nb), (.int (20 : Int32))])) (fun _ k => XS.aloadN X64.here hx rfl (hb hby d7_21) rfl rfl k) ?_
  obtain ⟨cl65, Ar65, -, S65, N65_, -, -⟩ := id V_nb_c64
  refine own_go (G := T64.setTop (mkF m 23 #[.val (.ref r0), .val (.int (0 : Int32)), .val (.ref nb), .val (.ref b4), .val (.int (20 : Int32))] [(.int (64 : Int32)), (.int (20 : Int32))])) (fun t k => X64.arraylength hx (by rw [e64]; exact Ar65.1) (State.isArrayOf_alike hZ.alike Ar65.2.1) (g := (mkF m 22 #[.val (.ref r0), .val (.int (0 : Int32)), .val (.ref nb), .val (.ref b4), .val (.int (20 : Int32))] [(.ref nb), (.int (20 : Int32))])) rfl rfl (hb hby d7_22) t (by rw [len_of S65 N65_]; exact k)) ?_
  refine own_go (G := T64.setTop (mkF m 26 #[.val (.ref r0), .val (.int (0 : Int32)), .val (.ref nb), .val (.ref b4), .val (.int (20 : Int32))] [])) (fun _ k => XS.icmpNo X64.here hx rfl (hb hby d7_23) rfl (tlt (by decide : (20 : Int32) < (64 : Int32))).2.1 k) ?_
  refine own_go (G := T64.setTop (mkF m 27 #[.val (.ref r0), .val (.int (0 : Int32)), .val (.ref nb), .val (.ref b4), .val (.int (20 : Int32))] [(.ref b4)])) (fun _ k => XS.aloadN X64.here hx rfl (hb hby d7_26) rfl rfl k) ?_
  refine own_go (G := T64.setTop (mkF m 29 #[.val (.ref r0), .val (.int (0 : Int32)), .val (.ref nb), .val (.ref b4), .val (.int (20 : Int32))] [(.int (20 : Int32)), (.ref b4)])) (fun _ k => XS.iload X64.here hx rfl (hb hby d7_27) rfl k) ?_
  refine own_go (G := T64.setTop (mkF m 30 #[.val (.ref r0), .val (.int (0 : Int32)), .val (.ref nb), .val (.ref b4), .val (.int (20 : Int32))] [(.ref nb), (.int (20 : Int32)), (.ref b4)])) (fun _ k => XS.aloadN X64.here hx rfl (hb hby d7_29) rfl rfl k) ?_
  refine own_go (G := T64.setTop (mkF m 32 #[.val (.ref r0), .val (.int (0 : Int32)), .val (.ref nb), .val (.ref b4), .val (.int (20 : Int32))] [(.int (20 : Int32)), (.ref nb), (.int (20 : Int32)), (.ref b4)])) (fun _ k => XS.iload X64.here hx rfl (hb hby d7_30) rfl k) ?_
  obtain ⟨cl66, Ar66, qk66, S66, N66_, Ha66, G66⟩ := id V_nb_c64
  have hin66 : ¬ ((20 : Int32) < 0 ∨ cl66.slots.size ≤ ((20 : Int32)).toNatClampNeg) := inb_of S66 ⟨by decide, by decide⟩
  have hat66 : cl66.slots[((20 : Int32)).toNatClampNeg]? = some (.int (0 : Int32)) := Ha66.at hin66 rfl
  refine own_go (G := T64.setTop (mkF m 33 #[.val (.ref r0), .val (.int (0 : Int32)), .val (.ref nb), .val (.ref b4), .val (.int (20 : Int32))] [(.int (0 : Int32)), (.int (20 : Int32)), (.ref b4)])) (X64.baloadBytes hx (j := (20 : Int32)) (v := (.int (0 : Int32))) (by rw [e64]; exact Ar66.1) (State.isArrayOf_alike hZ.alike Ar66.2.1) Ar66.2.2 hin66 hat66 (g := (mkF m 32 #[.val (.ref r0), .val (.int (0 : Int32)), .val (.ref nb), .val (.ref b4), .val (.int (20 : Int32))] [(.int (20 : Int32)), (.ref nb), (.int (20 : Int32)), (.ref b4)])) rfl rfl (hb hby d7_32)) ?_
  refine own_go (G := T64.setTop (mkF m 36 #[.val (.ref r0), .val (.int (0 : Int32)), .val (.ref nb), .val (.ref b4), .val (.int (20 : Int32))] [(.int (255 : Int32)), (.int (0 : Int32)), (.int (20 : Int32)), (.ref b4)])) (fun _ k => XS.sipush X64.here hx rfl (hb hby d7_33) k) ?_
  refine own_go (G := T64.setTop (mkF m 37 #[.val (.ref r0), .val (.int (0 : Int32)), .val (.ref nb), .val (.ref b4), .val (.int (20 : Int32))] [(.int ((0 : Int32) &&& (255 : Int32))), (.int (20 : Int32)), (.ref b4)])) (fun _ k => XS.iand X64.here hx rfl (hb hby d7_36) rfl k) ?_
  rw [show ((0 : Int32) &&& (255 : Int32)) = (0 : Int32) from by decide]
  refine own_go (G := T64.setTop (mkF m 38 #[.val (.ref r0), .val (.int (0 : Int32)), .val (.ref nb), .val (.ref b4), .val (.int (20 : Int32))] [(.int ((0 : Int32).toUInt32.toUInt16.toUInt32.toInt32)), (.int (20 : Int32)), (.ref b4)])) (fun _ k => XS.i2c X64.here hx rfl (hb hby d7_37) rfl k) ?_
  rw [show ((0 : Int32).toUInt32.toUInt16.toUInt32.toInt32) = (0 : Int32) from by decide]
  obtain ⟨cl67, Ar67, qk67, S67, N67_, Ha67, G67⟩ := id V64_b4
  have hin67 : ¬ ((20 : Int32) < 0 ∨ cl67.slots.size ≤ ((20 : Int32)).toNatClampNeg) := inb_of S67 ⟨by decide, by decide⟩
  obtain ⟨T67, h67, X67, e67, W67, st67⟩ := stC X64 hx hZ e64 Ar67 (j := (20 : Int32)) hin67 (g := (mkF m 38 #[.val (.ref r0), .val (.int (0 : Int32)), .val (.ref nb), .val (.ref b4), .val (.int (20 : Int32))] [(.int (0 : Int32)), (.int (20 : Int32)), (.ref b4)])) rfl rfl (hb hby d7_38)
  have V67_b4 : Arv Z h67 b4 k4 .char (64 : Int32) (own_B (nar .char ((x0 &&& (255 : Int32)).toUInt32.toUInt16.toUInt32.toInt32)) (nar .char ((x1 &&& (255 : Int32)).toUInt32.toUInt16.toUInt32.toInt32)) (nar .char ((x2 &&& (255 : Int32)).toUInt32.toUInt16.toUInt32.toInt32))) (.int (0 : Int32)) := Arv.set Ar67 qk67 S67 N67_ Ha67 G67 (fits_nar_char _) W67 20 rfl (Nat.le_of_ble_eq_true rfl)
  have E_r0_c67 : Exa Z h67 r0 "com/example/xrefloom/xrefloom/tree/CompactText" := E_r0_c64.wr W67
  have F_length_c67 : Fld Z h67 r0 "com/example/xrefloom/xrefloom/tree/CompactText" "length" "I" (.int len) := F_length_c64.other W67 (Or.inl ne_r0_b4)
  have F_narrow_c67 : Fld Z h67 r0 "com/example/xrefloom/xrefloom/tree/CompactText" "narrow" "[[B" (.ref na) := F_narrow_c64.other W67 (Or.inl ne_r0_b4)
  have F_wide_c67 : Fld Z h67 r0 "com/example/xrefloom/xrefloom/tree/CompactText" "wide" "[[C" (.ref wa) := F_wide_c64.other W67 (Or.inl ne_r0_b4)
  have V_na_c67 : Arv Z h67 na kn (.array .byte) (1 : Int32) [(.ref nb)] .null := V_na_c64.other W67 ne_na_b4
  have V_wa_c67 : Arv Z h67 wa kw (.array .char) (1 : Int32) [.null] .null := V_wa_c64.other W67 ne_wa_b4
  have V_nb_c67 : Arv Z h67 nb kb .byte (64 : Int32) (own_B x0 x1 x2) (.int (0 : Int32)) := V_nb_c64.other W67 ne_nb_b4
  have Ea4_c67 : Exa Z h67 b4 "[C" := Ea4_c64.wr W67
  have N67 := Fr.snoc X67 N64 gn_b4
  have Z67 : n0 ≤ h67.size := Nat.le_trans Z64 (Keep.of_wr W67).1
  refine own_go (G := T67.setTop (mkF m 39 #[.val (.ref r0), .val (.int (0 : Int32)), .val (.ref nb), .val (.ref b4), .val (.int (20 : Int32))] [])) (st67) ?_
  refine own_go (G := T67.setTop (mkF m 42 #[.val (.ref r0), .val (.int (0 : Int32)), .val (.ref nb), .val (.ref b4), .val (.int ((20 : Int32) + (1 : Int32)))] [])) (fun _ k => XS.iinc X67.here hx rfl (hb hby d7_39) rfl (l' := #[.val (.ref r0), .val (.int (0 : Int32)), .val (.ref nb), .val (.ref b4), .val (.int ((20 : Int32) + (1 : Int32)))]) rfl k) ?_
  rw [show ((20 : Int32) + (1 : Int32)) = (21 : Int32) from by decide]
  refine own_go (G := T67.setTop (mkF m 19 #[.val (.ref r0), .val (.int (0 : Int32)), .val (.ref nb), .val (.ref b4), .val (.int (21 : Int32))] [])) (fun _ k => XS.goto X67.here hx rfl (pc0 := 42) (pc' := 19) rfl (hb hby d7_42) (by decide) (by decide) k) ?_
  refine own_go (G := T67.setTop (mkF m 21 #[.val (.ref r0), .val (.int (0 : Int32)), .val (.ref nb), .val (.ref b4), .val (.int (21 : Int32))] [(.int (21 : Int32))])) (fun _ k => XS.iload X67.here hx rfl (hb hby d7_19) rfl k) ?_
  refine own_go (G := T67.setTop (mkF m 22 #[.val (.ref r0), .val (.int (0 : Int32)), .val (.ref nb), .val (.ref b4), .val (.int (21 : Int32))] [(.ref nb), (.int (21 : Int32))])) (fun _ k => XS.aloadN X67.here hx rfl (hb hby d7_21) rfl rfl k) ?_
  obtain ⟨cl68, Ar68, -, S68, N68_, -, -⟩ := id V_nb_c67
  refine own_go (G := T67.setTop (mkF m 23 #[.val (.ref r0), .val (.int (0 : Int32)), .val (.ref nb), .val (.ref b4), .val (.int (21 : Int32))] [(.int (64 : Int32)), (.int (21 : Int32))])) (fun t k => X67.arraylength hx (by rw [e67]; exact Ar68.1) (State.isArrayOf_alike hZ.alike Ar68.2.1) (g := (mkF m 22 #[.val (.ref r0), .val (.int (0 : Int32)), .val (.ref nb), .val (.ref b4), .val (.int (21 : Int32))] [(.ref nb), (.int (21 : Int32))])) rfl rfl (hb hby d7_22) t (by rw [len_of S68 N68_]; exact k)) ?_
  refine own_go (G := T67.setTop (mkF m 26 #[.val (.ref r0), .val (.int (0 : Int32)), .val (.ref nb), .val (.ref b4), .val (.int (21 : Int32))] [])) (fun _ k => XS.icmpNo X67.here hx rfl (hb hby d7_23) rfl (tlt (by decide : (21 : Int32) < (64 : Int32))).2.1 k) ?_
  refine own_go (G := T67.setTop (mkF m 27 #[.val (.ref r0), .val (.int (0 : Int32)), .val (.ref nb), .val (.ref b4), .val (.int (21 : Int32))] [(.ref b4)])) (fun _ k => XS.aloadN X67.here hx rfl (hb hby d7_26) rfl rfl k) ?_
  refine own_go (G := T67.setTop (mkF m 29 #[.val (.ref r0), .val (.int (0 : Int32)), .val (.ref nb), .val (.ref b4), .val (.int (21 : Int32))] [(.int (21 : Int32)), (.ref b4)])) (fun _ k => XS.iload X67.here hx rfl (hb hby d7_27) rfl k) ?_
  refine own_go (G := T67.setTop (mkF m 30 #[.val (.ref r0), .val (.int (0 : Int32)), .val (.ref nb), .val (.ref b4), .val (.int (21 : Int32))] [(.ref nb), (.int (21 : Int32)), (.ref b4)])) (fun _ k => XS.aloadN X67.here hx rfl (hb hby d7_29) rfl rfl k) ?_
  refine own_go (G := T67.setTop (mkF m 32 #[.val (.ref r0), .val (.int (0 : Int32)), .val (.ref nb), .val (.ref b4), .val (.int (21 : Int32))] [(.int (21 : Int32)), (.ref nb), (.int (21 : Int32)), (.ref b4)])) (fun _ k => XS.iload X67.here hx rfl (hb hby d7_30) rfl k) ?_
  obtain ⟨cl69, Ar69, qk69, S69, N69_, Ha69, G69⟩ := id V_nb_c67
  have hin69 : ¬ ((21 : Int32) < 0 ∨ cl69.slots.size ≤ ((21 : Int32)).toNatClampNeg) := inb_of S69 ⟨by decide, by decide⟩
  have hat69 : cl69.slots[((21 : Int32)).toNatClampNeg]? = some (.int (0 : Int32)) := Ha69.at hin69 rfl
  refine own_go (G := T67.setTop (mkF m 33 #[.val (.ref r0), .val (.int (0 : Int32)), .val (.ref nb), .val (.ref b4), .val (.int (21 : Int32))] [(.int (0 : Int32)), (.int (21 : Int32)), (.ref b4)])) (X67.baloadBytes hx (j := (21 : Int32)) (v := (.int (0 : Int32))) (by rw [e67]; exact Ar69.1) (State.isArrayOf_alike hZ.alike Ar69.2.1) Ar69.2.2 hin69 hat69 (g := (mkF m 32 #[.val (.ref r0), .val (.int (0 : Int32)), .val (.ref nb), .val (.ref b4), .val (.int (21 : Int32))] [(.int (21 : Int32)), (.ref nb), (.int (21 : Int32)), (.ref b4)])) rfl rfl (hb hby d7_32)) ?_
  refine own_go (G := T67.setTop (mkF m 36 #[.val (.ref r0), .val (.int (0 : Int32)), .val (.ref nb), .val (.ref b4), .val (.int (21 : Int32))] [(.int (255 : Int32)), (.int (0 : Int32)), (.int (21 : Int32)), (.ref b4)])) (fun _ k => XS.sipush X67.here hx rfl (hb hby d7_33) k) ?_
  refine own_go (G := T67.setTop (mkF m 37 #[.val (.ref r0), .val (.int (0 : Int32)), .val (.ref nb), .val (.ref b4), .val (.int (21 : Int32))] [(.int ((0 : Int32) &&& (255 : Int32))), (.int (21 : Int32)), (.ref b4)])) (fun _ k => XS.iand X67.here hx rfl (hb hby d7_36) rfl k) ?_
  rw [show ((0 : Int32) &&& (255 : Int32)) = (0 : Int32) from by decide]
  refine own_go (G := T67.setTop (mkF m 38 #[.val (.ref r0), .val (.int (0 : Int32)), .val (.ref nb), .val (.ref b4), .val (.int (21 : Int32))] [(.int ((0 : Int32).toUInt32.toUInt16.toUInt32.toInt32)), (.int (21 : Int32)), (.ref b4)])) (fun _ k => XS.i2c X67.here hx rfl (hb hby d7_37) rfl k) ?_
  rw [show ((0 : Int32).toUInt32.toUInt16.toUInt32.toInt32) = (0 : Int32) from by decide]
  obtain ⟨cl70, Ar70, qk70, S70, N70_, Ha70, G70⟩ := id V67_b4
  have hin70 : ¬ ((21 : Int32) < 0 ∨ cl70.slots.size ≤ ((21 : Int32)).toNatClampNeg) := inb_of S70 ⟨by decide, by decide⟩
  obtain ⟨T70, h70, X70, e70, W70, st70⟩ := stC X67 hx hZ e67 Ar70 (j := (21 : Int32)) hin70 (g := (mkF m 38 #[.val (.ref r0), .val (.int (0 : Int32)), .val (.ref nb), .val (.ref b4), .val (.int (21 : Int32))] [(.int (0 : Int32)), (.int (21 : Int32)), (.ref b4)])) rfl rfl (hb hby d7_38)
  have V70_b4 : Arv Z h70 b4 k4 .char (64 : Int32) (own_B (nar .char ((x0 &&& (255 : Int32)).toUInt32.toUInt16.toUInt32.toInt32)) (nar .char ((x1 &&& (255 : Int32)).toUInt32.toUInt16.toUInt32.toInt32)) (nar .char ((x2 &&& (255 : Int32)).toUInt32.toUInt16.toUInt32.toInt32))) (.int (0 : Int32)) := Arv.set Ar70 qk70 S70 N70_ Ha70 G70 (fits_nar_char _) W70 21 rfl (Nat.le_of_ble_eq_true rfl)
  have E_r0_c70 : Exa Z h70 r0 "com/example/xrefloom/xrefloom/tree/CompactText" := E_r0_c67.wr W70
  have F_length_c70 : Fld Z h70 r0 "com/example/xrefloom/xrefloom/tree/CompactText" "length" "I" (.int len) := F_length_c67.other W70 (Or.inl ne_r0_b4)
  have F_narrow_c70 : Fld Z h70 r0 "com/example/xrefloom/xrefloom/tree/CompactText" "narrow" "[[B" (.ref na) := F_narrow_c67.other W70 (Or.inl ne_r0_b4)
  have F_wide_c70 : Fld Z h70 r0 "com/example/xrefloom/xrefloom/tree/CompactText" "wide" "[[C" (.ref wa) := F_wide_c67.other W70 (Or.inl ne_r0_b4)
  have V_na_c70 : Arv Z h70 na kn (.array .byte) (1 : Int32) [(.ref nb)] .null := V_na_c67.other W70 ne_na_b4
  have V_wa_c70 : Arv Z h70 wa kw (.array .char) (1 : Int32) [.null] .null := V_wa_c67.other W70 ne_wa_b4
  have V_nb_c70 : Arv Z h70 nb kb .byte (64 : Int32) (own_B x0 x1 x2) (.int (0 : Int32)) := V_nb_c67.other W70 ne_nb_b4
  have Ea4_c70 : Exa Z h70 b4 "[C" := Ea4_c67.wr W70
  have N70 := Fr.snoc X70 N67 gn_b4
  have Z70 : n0 ≤ h70.size := Nat.le_trans Z67 (Keep.of_wr W70).1
  refine own_go (G := T70.setTop (mkF m 39 #[.val (.ref r0), .val (.int (0 : Int32)), .val (.ref nb), .val (.ref b4), .val (.int (21 : Int32))] [])) (st70) ?_
  refine own_go (G := T70.setTop (mkF m 42 #[.val (.ref r0), .val (.int (0 : Int32)), .val (.ref nb), .val (.ref b4), .val (.int ((21 : Int32) + (1 : Int32)))] [])) (fun _ k => XS.iinc X70.here hx rfl (hb hby d7_39) rfl (l' := #[.val (.ref r0), .val (.int (0 : Int32)), .val (.ref nb), .val (.ref b4), .val (.int ((21 : Int32) + (1 : Int32)))]) rfl k) ?_
  rw [show ((21 : Int32) + (1 : Int32)) = (22 : Int32) from by decide]
  refine own_go (G := T70.setTop (mkF m 19 #[.val (.ref r0), .val (.int (0 : Int32)), .val (.ref nb), .val (.ref b4), .val (.int (22 : Int32))] [])) (fun _ k => XS.goto X70.here hx rfl (pc0 := 42) (pc' := 19) rfl (hb hby d7_42) (by decide) (by decide) k) ?_
  refine own_go (G := T70.setTop (mkF m 21 #[.val (.ref r0), .val (.int (0 : Int32)), .val (.ref nb), .val (.ref b4), .val (.int (22 : Int32))] [(.int (22 : Int32))])) (fun _ k => XS.iload X70.here hx rfl (hb hby d7_19) rfl k) ?_
  refine own_go (G := T70.setTop (mkF m 22 #[.val (.ref r0), .val (.int (0 : Int32)), .val (.ref nb), .val (.ref b4), .val (.int (22 : Int32))] [(.ref nb), (.int (22 : Int32))])) (fun _ k => XS.aloadN X70.here hx rfl (hb hby d7_21) rfl rfl k) ?_
  obtain ⟨cl71, Ar71, -, S71, N71_, -, -⟩ := id V_nb_c70
  refine own_go (G := T70.setTop (mkF m 23 #[.val (.ref r0), .val (.int (0 : Int32)), .val (.ref nb), .val (.ref b4), .val (.int (22 : Int32))] [(.int (64 : Int32)), (.int (22 : Int32))])) (fun t k => X70.arraylength hx (by rw [e70]; exact Ar71.1) (State.isArrayOf_alike hZ.alike Ar71.2.1) (g := (mkF m 22 #[.val (.ref r0), .val (.int (0 : Int32)), .val (.ref nb), .val (.ref b4), .val (.int (22 : Int32))] [(.ref nb), (.int (22 : Int32))])) rfl rfl (hb hby d7_22) t (by rw [len_of S71 N71_]; exact k)) ?_
  refine own_go (G := T70.setTop (mkF m 26 #[.val (.ref r0), .val (.int (0 : Int32)), .val (.ref nb), .val (.ref b4), .val (.int (22 : Int32))] [])) (fun _ k => XS.icmpNo X70.here hx rfl (hb hby d7_23) rfl (tlt (by decide : (22 : Int32) < (64 : Int32))).2.1 k) ?_
  refine own_go (G := T70.setTop (mkF m 27 #[.val (.ref r0), .val (.int (0 : Int32)), .val (.ref nb), .val (.ref b4), .val (.int (22 : Int32))] [(.ref b4)])) (fun _ k => XS.aloadN X70.here hx rfl (hb hby d7_26) rfl rfl k) ?_
  refine own_go (G := T70.setTop (mkF m 29 #[.val (.ref r0), .val (.int (0 : Int32)), .val (.ref nb), .val (.ref b4), .val (.int (22 : Int32))] [(.int (22 : Int32)), (.ref b4)])) (fun _ k => XS.iload X70.here hx rfl (hb hby d7_27) rfl k) ?_
  refine own_go (G := T70.setTop (mkF m 30 #[.val (.ref r0), .val (.int (0 : Int32)), .val (.ref nb), .val (.ref b4), .val (.int (22 : Int32))] [(.ref nb), (.int (22 : Int32)), (.ref b4)])) (fun _ k => XS.aloadN X70.here hx rfl (hb hby d7_29) rfl rfl k) ?_
  refine own_go (G := T70.setTop (mkF m 32 #[.val (.ref r0), .val (.int (0 : Int32)), .val (.ref nb), .val (.ref b4), .val (.int (22 : Int32))] [(.int (22 : Int32)), (.ref nb), (.int (22 : Int32)), (.ref b4)])) (fun _ k => XS.iload X70.here hx rfl (hb hby d7_30) rfl k) ?_
  obtain ⟨cl72, Ar72, qk72, S72, N72_, Ha72, G72⟩ := id V_nb_c70
  have hin72 : ¬ ((22 : Int32) < 0 ∨ cl72.slots.size ≤ ((22 : Int32)).toNatClampNeg) := inb_of S72 ⟨by decide, by decide⟩
  have hat72 : cl72.slots[((22 : Int32)).toNatClampNeg]? = some (.int (0 : Int32)) := Ha72.at hin72 rfl
  refine own_go (G := T70.setTop (mkF m 33 #[.val (.ref r0), .val (.int (0 : Int32)), .val (.ref nb), .val (.ref b4), .val (.int (22 : Int32))] [(.int (0 : Int32)), (.int (22 : Int32)), (.ref b4)])) (X70.baloadBytes hx (j := (22 : Int32)) (v := (.int (0 : Int32))) (by rw [e70]; exact Ar72.1) (State.isArrayOf_alike hZ.alike Ar72.2.1) Ar72.2.2 hin72 hat72 (g := (mkF m 32 #[.val (.ref r0), .val (.int (0 : Int32)), .val (.ref nb), .val (.ref b4), .val (.int (22 : Int32))] [(.int (22 : Int32)), (.ref nb), (.int (22 : Int32)), (.ref b4)])) rfl rfl (hb hby d7_32)) ?_
  refine own_go (G := T70.setTop (mkF m 36 #[.val (.ref r0), .val (.int (0 : Int32)), .val (.ref nb), .val (.ref b4), .val (.int (22 : Int32))] [(.int (255 : Int32)), (.int (0 : Int32)), (.int (22 : Int32)), (.ref b4)])) (fun _ k => XS.sipush X70.here hx rfl (hb hby d7_33) k) ?_
  refine own_go (G := T70.setTop (mkF m 37 #[.val (.ref r0), .val (.int (0 : Int32)), .val (.ref nb), .val (.ref b4), .val (.int (22 : Int32))] [(.int ((0 : Int32) &&& (255 : Int32))), (.int (22 : Int32)), (.ref b4)])) (fun _ k => XS.iand X70.here hx rfl (hb hby d7_36) rfl k) ?_
  rw [show ((0 : Int32) &&& (255 : Int32)) = (0 : Int32) from by decide]
  refine own_go (G := T70.setTop (mkF m 38 #[.val (.ref r0), .val (.int (0 : Int32)), .val (.ref nb), .val (.ref b4), .val (.int (22 : Int32))] [(.int ((0 : Int32).toUInt32.toUInt16.toUInt32.toInt32)), (.int (22 : Int32)), (.ref b4)])) (fun _ k => XS.i2c X70.here hx rfl (hb hby d7_37) rfl k) ?_
  rw [show ((0 : Int32).toUInt32.toUInt16.toUInt32.toInt32) = (0 : Int32) from by decide]
  obtain ⟨cl73, Ar73, qk73, S73, N73_, Ha73, G73⟩ := id V70_b4
  have hin73 : ¬ ((22 : Int32) < 0 ∨ cl73.slots.size ≤ ((22 : Int32)).toNatClampNeg) := inb_of S73 ⟨by decide, by decide⟩
  obtain ⟨T73, h73, X73, e73, W73, st73⟩ := stC X70 hx hZ e70 Ar73 (j := (22 : Int32)) hin73 (g := (mkF m 38 #[.val (.ref r0), .val (.int (0 : Int32)), .val (.ref nb), .val (.ref b4), .val (.int (22 : Int32))] [(.int (0 : Int32)), (.int (22 : Int32)), (.ref b4)])) rfl rfl (hb hby d7_38)
  have V73_b4 : Arv Z h73 b4 k4 .char (64 : Int32) (own_B (nar .char ((x0 &&& (255 : Int32)).toUInt32.toUInt16.toUInt32.toInt32)) (nar .char ((x1 &&& (255 : Int32)).toUInt32.toUInt16.toUInt32.toInt32)) (nar .char ((x2 &&& (255 : Int32)).toUInt32.toUInt16.toUInt32.toInt32))) (.int (0 : Int32)) := Arv.set Ar73 qk73 S73 N73_ Ha73 G73 (fits_nar_char _) W73 22 rfl (Nat.le_of_ble_eq_true rfl)
  have E_r0_c73 : Exa Z h73 r0 "com/example/xrefloom/xrefloom/tree/CompactText" := E_r0_c70.wr W73
  have F_length_c73 : Fld Z h73 r0 "com/example/xrefloom/xrefloom/tree/CompactText" "length" "I" (.int len) := F_length_c70.other W73 (Or.inl ne_r0_b4)
  have F_narrow_c73 : Fld Z h73 r0 "com/example/xrefloom/xrefloom/tree/CompactText" "narrow" "[[B" (.ref na) := F_narrow_c70.other W73 (Or.inl ne_r0_b4)
  have F_wide_c73 : Fld Z h73 r0 "com/example/xrefloom/xrefloom/tree/CompactText" "wide" "[[C" (.ref wa) := F_wide_c70.other W73 (Or.inl ne_r0_b4)
  have V_na_c73 : Arv Z h73 na kn (.array .byte) (1 : Int32) [(.ref nb)] .null := V_na_c70.other W73 ne_na_b4
  have V_wa_c73 : Arv Z h73 wa kw (.array .char) (1 : Int32) [.null] .null := V_wa_c70.other W73 ne_wa_b4
  have V_nb_c73 : Arv Z h73 nb kb .byte (64 : Int32) (own_B x0 x1 x2) (.int (0 : Int32)) := V_nb_c70.other W73 ne_nb_b4
  have Ea4_c73 : Exa Z h73 b4 "[C" := Ea4_c70.wr W73
  have N73 := Fr.snoc X73 N70 gn_b4
  have Z73 : n0 ≤ h73.size := Nat.le_trans Z70 (Keep.of_wr W73).1
  refine own_go (G := T73.setTop (mkF m 39 #[.val (.ref r0), .val (.int (0 : Int32)), .val (.ref nb), .val (.ref b4), .val (.int (22 : Int32))] [])) (st73) ?_
  refine own_go (G := T73.setTop (mkF m 42 #[.val (.ref r0), .val (.int (0 : Int32)), .val (.ref nb), .val (.ref b4), .val (.int ((22 : Int32) + (1 : Int32)))] [])) (fun _ k => XS.iinc X73.here hx rfl (hb hby d7_39) rfl (l' := #[.val (.ref r0), .val (.int (0 : Int32)), .val (.ref nb), .val (.ref b4), .val (.int ((22 : Int32) + (1 : Int32)))]) rfl k) ?_
  rw [show ((22 : Int32) + (1 : Int32)) = (23 : Int32) from by decide]
  refine own_go (G := T73.setTop (mkF m 19 #[.val (.ref r0), .val (.int (0 : Int32)), .val (.ref nb), .val (.ref b4), .val (.int (23 : Int32))] [])) (fun _ k => XS.goto X73.here hx rfl (pc0 := 42) (pc' := 19) rfl (hb hby d7_42) (by decide) (by decide) k) ?_
  refine own_go (G := T73.setTop (mkF m 21 #[.val (.ref r0), .val (.int (0 : Int32)), .val (.ref nb), .val (.ref b4), .val (.int (23 : Int32))] [(.int (23 : Int32))])) (fun _ k => XS.iload X73.here hx rfl (hb hby d7_19) rfl k) ?_
  refine own_go (G := T73.setTop (mkF m 22 #[.val (.ref r0), .val (.int (0 : Int32)), .val (.ref nb), .val (.ref b4), .val (.int (23 : Int32))] [(.ref nb), (.int (23 : Int32))])) (fun _ k => XS.aloadN X73.here hx rfl (hb hby d7_21) rfl rfl k) ?_
  obtain ⟨cl74, Ar74, -, S74, N74_, -, -⟩ := id V_nb_c73
  refine own_go (G := T73.setTop (mkF m 23 #[.val (.ref r0), .val (.int (0 : Int32)), .val (.ref nb), .val (.ref b4), .val (.int (23 : Int32))] [(.int (64 : Int32)), (.int (23 : Int32))])) (fun t k => X73.arraylength hx (by rw [e73]; exact Ar74.1) (State.isArrayOf_alike hZ.alike Ar74.2.1) (g := (mkF m 22 #[.val (.ref r0), .val (.int (0 : Int32)), .val (.ref nb), .val (.ref b4), .val (.int (23 : Int32))] [(.ref nb), (.int (23 : Int32))])) rfl rfl (hb hby d7_22) t (by rw [len_of S74 N74_]; exact k)) ?_
  refine own_go (G := T73.setTop (mkF m 26 #[.val (.ref r0), .val (.int (0 : Int32)), .val (.ref nb), .val (.ref b4), .val (.int (23 : Int32))] [])) (fun _ k => XS.icmpNo X73.here hx rfl (hb hby d7_23) rfl (tlt (by decide : (23 : Int32) < (64 : Int32))).2.1 k) ?_
  refine own_go (G := T73.setTop (mkF m 27 #[.val (.ref r0), .val (.int (0 : Int32)), .val (.ref nb), .val (.ref b4), .val (.int (23 : Int32))] [(.ref b4)])) (fun _ k => XS.aloadN X73.here hx rfl (hb hby d7_26) rfl rfl k) ?_
  refine own_go (G := T73.setTop (mkF m 29 #[.val (.ref r0), .val (.int (0 : Int32)), .val (.ref nb), .val (.ref b4), .val (.int (23 : Int32))] [(.int (23 : Int32)), (.ref b4)])) (fun _ k => XS.iload X73.here hx rfl (hb hby d7_27) rfl k) ?_
  refine own_go (G := T73.setTop (mkF m 30 #[.val (.ref r0), .val (.int (0 : Int32)), .val (.ref nb), .val (.ref b4), .val (.int (23 : Int32))] [(.ref nb), (.int (23 : Int32)), (.ref b4)])) (fun _ k => XS.aloadN X73.here hx rfl (hb hby d7_29) rfl rfl k) ?_
  refine own_go (G := T73.setTop (mkF m 32 #[.val (.ref r0), .val (.int (0 : Int32)), .val (.ref nb), .val (.ref b4), .val (.int (23 : Int32))] [(.int (23 : Int32)), (.ref nb), (.int (23 : Int32)), (.ref b4)])) (fun _ k => XS.iload X73.here hx rfl (hb hby d7_30) rfl k) ?_
  obtain ⟨cl75, Ar75, qk75, S75, N75_, Ha75, G75⟩ := id V_nb_c73
  have hin75 : ¬ ((23 : Int32) < 0 ∨ cl75.slots.size ≤ ((23 : Int32)).toNatClampNeg) := inb_of S75 ⟨by decide, by decide⟩
  have hat75 : cl75.slots[((23 : Int32)).toNatClampNeg]? = some (.int (0 : Int32)) := Ha75.at hin75 rfl
  refine own_go (G := T73.setTop (mkF m 33 #[.val (.ref r0), .val (.int (0 : Int32)), .val (.ref nb), .val (.ref b4), .val (.int (23 : Int32))] [(.int (0 : Int32)), (.int (23 : Int32)), (.ref b4)])) (X73.baloadBytes hx (j := (23 : Int32)) (v := (.int (0 : Int32))) (by rw [e73]; exact Ar75.1) (State.isArrayOf_alike hZ.alike Ar75.2.1) Ar75.2.2 hin75 hat75 (g := (mkF m 32 #[.val (.ref r0), .val (.int (0 : Int32)), .val (.ref nb), .val (.ref b4), .val (.int (23 : Int32))] [(.int (23 : Int32)), (.ref nb), (.int (23 : Int32)), (.ref b4)])) rfl rfl (hb hby d7_32)) ?_
  refine own_go (G := T73.setTop (mkF m 36 #[.val (.ref r0), .val (.int (0 : Int32)), .val (.ref nb), .val (.ref b4), .val (.int (23 : Int32))] [(.int (255 : Int32)), (.int (0 : Int32)), (.int (23 : Int32)), (.ref b4)])) (fun _ k => XS.sipush X73.here hx rfl (hb hby d7_33) k) ?_
  refine own_go (G := T73.setTop (mkF m 37 #[.val (.ref r0), .val (.int (0 : Int32)), .val (.ref nb), .val (.ref b4), .val (.int (23 : Int32))] [(.int ((0 : Int32) &&& (255 : Int32))), (.int (23 : Int32)), (.ref b4)])) (fun _ k => XS.iand X73.here hx rfl (hb hby d7_36) rfl k) ?_
  rw [show ((0 : Int32) &&& (255 : Int32)) = (0 : Int32) from by decide]
  refine own_go (G := T73.setTop (mkF m 38 #[.val (.ref r0), .val (.int (0 : Int32)), .val (.ref nb), .val (.ref b4), .val (.int (23 : Int32))] [(.int ((0 : Int32).toUInt32.toUInt16.toUInt32.toInt32)), (.int (23 : Int32)), (.ref b4)])) (fun _ k => XS.i2c X73.here hx rfl (hb hby d7_37) rfl k) ?_
  rw [show ((0 : Int32).toUInt32.toUInt16.toUInt32.toInt32) = (0 : Int32) from by decide]
  obtain ⟨cl76, Ar76, qk76, S76, N76_, Ha76, G76⟩ := id V73_b4
  have hin76 : ¬ ((23 : Int32) < 0 ∨ cl76.slots.size ≤ ((23 : Int32)).toNatClampNeg) := inb_of S76 ⟨by decide, by decide⟩
  obtain ⟨T76, h76, X76, e76, W76, st76⟩ := stC X73 hx hZ e73 Ar76 (j := (23 : Int32)) hin76 (g := (mkF m 38 #[.val (.ref r0), .val (.int (0 : Int32)), .val (.ref nb), .val (.ref b4), .val (.int (23 : Int32))] [(.int (0 : Int32)), (.int (23 : Int32)), (.ref b4)])) rfl rfl (hb hby d7_38)
  have V76_b4 : Arv Z h76 b4 k4 .char (64 : Int32) (own_B (nar .char ((x0 &&& (255 : Int32)).toUInt32.toUInt16.toUInt32.toInt32)) (nar .char ((x1 &&& (255 : Int32)).toUInt32.toUInt16.toUInt32.toInt32)) (nar .char ((x2 &&& (255 : Int32)).toUInt32.toUInt16.toUInt32.toInt32))) (.int (0 : Int32)) := Arv.set Ar76 qk76 S76 N76_ Ha76 G76 (fits_nar_char _) W76 23 rfl (Nat.le_of_ble_eq_true rfl)
  have E_r0_c76 : Exa Z h76 r0 "com/example/xrefloom/xrefloom/tree/CompactText" := E_r0_c73.wr W76
  have F_length_c76 : Fld Z h76 r0 "com/example/xrefloom/xrefloom/tree/CompactText" "length" "I" (.int len) := F_length_c73.other W76 (Or.inl ne_r0_b4)
  have F_narrow_c76 : Fld Z h76 r0 "com/example/xrefloom/xrefloom/tree/CompactText" "narrow" "[[B" (.ref na) := F_narrow_c73.other W76 (Or.inl ne_r0_b4)
  have F_wide_c76 : Fld Z h76 r0 "com/example/xrefloom/xrefloom/tree/CompactText" "wide" "[[C" (.ref wa) := F_wide_c73.other W76 (Or.inl ne_r0_b4)
  have V_na_c76 : Arv Z h76 na kn (.array .byte) (1 : Int32) [(.ref nb)] .null := V_na_c73.other W76 ne_na_b4
  have V_wa_c76 : Arv Z h76 wa kw (.array .char) (1 : Int32) [.null] .null := V_wa_c73.other W76 ne_wa_b4
  have V_nb_c76 : Arv Z h76 nb kb .byte (64 : Int32) (own_B x0 x1 x2) (.int (0 : Int32)) := V_nb_c73.other W76 ne_nb_b4
  have Ea4_c76 : Exa Z h76 b4 "[C" := Ea4_c73.wr W76
  have N76 := Fr.snoc X76 N73 gn_b4
  have Z76 : n0 ≤ h76.size := Nat.le_trans Z73 (Keep.of_wr W76).1
  refine own_go (G := T76.setTop (mkF m 39 #[.val (.ref r0), .val (.int (0 : Int32)), .val (.ref nb), .val (.ref b4), .val (.int (23 : Int32))] [])) (st76) ?_
  refine own_go (G := T76.setTop (mkF m 42 #[.val (.ref r0), .val (.int (0 : Int32)), .val (.ref nb), .val (.ref b4), .val (.int ((23 : Int32) + (1 : Int32)))] [])) (fun _ k => XS.iinc X76.here hx rfl (hb hby d7_39) rfl (l' := #[.val (.ref r0), .val (.int (0 : Int32)), .val (.ref nb), .val (.ref b4), .val (.int ((23 : Int32) + (1 : Int32)))]) rfl k) ?_
  rw [show ((23 : Int32) + (1 : Int32)) = (24 : Int32) from by decide]
  refine own_go (G := T76.setTop (mkF m 19 #[.val (.ref r0), .val (.int (0 : Int32)), .val (.ref nb), .val (.ref b4), .val (.int (24 : Int32))] [])) (fun _ k => XS.goto X76.here hx rfl (pc0 := 42) (pc' := 19) rfl (hb hby d7_42) (by decide) (by decide) k) ?_
  refine own_go (G := T76.setTop (mkF m 21 #[.val (.ref r0), .val (.int (0 : Int32)), .val (.ref nb), .val (.ref b4), .val (.int (24 : Int32))] [(.int (24 : Int32))])) (fun _ k => XS.iload X76.here hx rfl (hb hby d7_19) rfl k) ?_
  refine own_go (G := T76.setTop (mkF m 22 #[.val (.ref r0), .val (.int (0 : Int32)), .val (.ref nb), .val (.ref b4), .val (.int (24 : Int32))] [(.ref nb), (.int (24 : Int32))])) (fun _ k => XS.aloadN X76.here hx rfl (hb hby d7_21) rfl rfl k) ?_
  obtain ⟨cl77, Ar77, -, S77, N77_, -, -⟩ := id V_nb_c76
  refine own_go (G := T76.setTop (mkF m 23 #[.val (.ref r0), .val (.int (0 : Int32)), .val (.ref nb), .val (.ref b4), .val (.int (24 : Int32))] [(.int (64 : Int32)), (.int (24 : Int32))])) (fun t k => X76.arraylength hx (by rw [e76]; exact Ar77.1) (State.isArrayOf_alike hZ.alike Ar77.2.1) (g := (mkF m 22 #[.val (.ref r0), .val (.int (0 : Int32)), .val (.ref nb), .val (.ref b4), .val (.int (24 : Int32))] [(.ref nb), (.int (24 : Int32))])) rfl rfl (hb hby d7_22) t (by rw [len_of S77 N77_]; exact k)) ?_
  refine own_go (G := T76.setTop (mkF m 26 #[.val (.ref r0), .val (.int (0 : Int32)), .val (.ref nb), .val (.ref b4), .val (.int (24 : Int32))] [])) (fun _ k => XS.icmpNo X76.here hx rfl (hb hby d7_23) rfl (tlt (by decide : (24 : Int32) < (64 : Int32))).2.1 k) ?_
  refine own_go (G := T76.setTop (mkF m 27 #[.val (.ref r0), .val (.int (0 : Int32)), .val (.ref nb), .val (.ref b4), .val (.int (24 : Int32))] [(.ref b4)])) (fun _ k => XS.aloadN X76.here hx rfl (hb hby d7_26) rfl rfl k) ?_
  refine own_go (G := T76.setTop (mkF m 29 #[.val (.ref r0), .val (.int (0 : Int32)), .val (.ref nb), .val (.ref b4), .val (.int (24 : Int32))] [(.int (24 : Int32)), (.ref b4)])) (fun _ k => XS.iload X76.here hx rfl (hb hby d7_27) rfl k) ?_
  refine own_go (G := T76.setTop (mkF m 30 #[.val (.ref r0), .val (.int (0 : Int32)), .val (.ref nb), .val (.ref b4), .val (.int (24 : Int32))] [(.ref nb), (.int (24 : Int32)), (.ref b4)])) (fun _ k => XS.aloadN X76.here hx rfl (hb hby d7_29) rfl rfl k) ?_
  refine own_go (G := T76.setTop (mkF m 32 #[.val (.ref r0), .val (.int (0 : Int32)), .val (.ref nb), .val (.ref b4), .val (.int (24 : Int32))] [(.int (24 : Int32)), (.ref nb), (.int (24 : Int32)), (.ref b4)])) (fun _ k => XS.iload X76.here hx rfl (hb hby d7_30) rfl k) ?_
  obtain ⟨cl78, Ar78, qk78, S78, N78_, Ha78, G78⟩ := id V_nb_c76
  have hin78 : ¬ ((24 : Int32) < 0 ∨ cl78.slots.size ≤ ((24 : Int32)).toNatClampNeg) := inb_of S78 ⟨by decide, by decide⟩
  have hat78 : cl78.slots[((24 : Int32)).toNatClampNeg]? = some (.int (0 : Int32)) := Ha78.at hin78 rfl
  refine own_go (G := T76.setTop (mkF m 33 #[.val (.ref r0), .val (.int (0 : Int32)), .val (.ref nb), .val (.ref b4), .val (.int (24 : Int32))] [(.int (0 : Int32)), (.int (24 : Int32)), (.ref b4)])) (X76.baloadBytes hx (j := (24 : Int32)) (v := (.int (0 : Int32))) (by rw [e76]; exact Ar78.1) (State.isArrayOf_alike hZ.alike Ar78.2.1) Ar78.2.2 hin78 hat78 (g := (mkF m 32 #[.val (.ref r0), .val (.int (0 : Int32)), .val (.ref nb), .val (.ref b4), .val (.int (24 : Int32))] [(.int (24 : Int32)), (.ref nb), (.int (24 : Int32)), (.ref b4)])) rfl rfl (hb hby d7_32)) ?_
  refine own_go (G := T76.setTop (mkF m 36 #[.val (.ref r0), .val (.int (0 : Int32)), .val (.ref nb), .val (.ref b4), .val (.int (24 : Int32))] [(.int (255 : Int32)), (.int (0 : Int32)), (.int (24 : Int32)), (.ref b4)])) (fun _ k => XS.sipush X76.here hx rfl (hb hby d7_33) k) ?_
  refine own_go (G := T76.setTop (mkF m 37 #[.val (.ref r0), .val (.int (0 : Int32)), .val (.ref nb), .val (.ref b4), .val (.int (24 : Int32))] [(.int ((0 : Int32) &&& (255 : Int32))), (.int (24 : Int32)), (.ref b4)])) (fun _ k => XS.iand X76.here hx rfl (hb hby d7_36) rfl k) ?_
  rw [show ((0 : Int32) &&& (255 : Int32)) = (0 : Int32) from by decide]
  refine own_go (G := T76.setTop (mkF m 38 #[.val (.ref r0), .val (.int (0 : Int32)), .val (.ref nb), .val (.ref b4), .val (.int (24 : Int32))] [(.int ((0 : Int32).toUInt32.toUInt16.toUInt32.toInt32)), (.int (24 : Int32)), (.ref b4)])) (fun _ k => XS.i2c X76.here hx rfl (hb hby d7_37) rfl k) ?_
  rw [show ((0 : Int32).toUInt32.toUInt16.toUInt32.toInt32) = (0 : Int32) from by decide]
  obtain ⟨cl79, Ar79, qk79, S79, N79_, Ha79, G79⟩ := id V76_b4
  have hin79 : ¬ ((24 : Int32) < 0 ∨ cl79.slots.size ≤ ((24 : Int32)).toNatClampNeg) := inb_of S79 ⟨by decide, by decide⟩
  obtain ⟨T79, h79, X79, e79, W79, st79⟩ := stC X76 hx hZ e76 Ar79 (j := (24 : Int32)) hin79 (g := (mkF m 38 #[.val (.ref r0), .val (.int (0 : Int32)), .val (.ref nb), .val (.ref b4), .val (.int (24 : Int32))] [(.int (0 : Int32)), (.int (24 : Int32)), (.ref b4)])) rfl rfl (hb hby d7_38)
  have V79_b4 : Arv Z h79 b4 k4 .char (64 : Int32) (own_B (nar .char ((x0 &&& (255 : Int32)).toUInt32.toUInt16.toUInt32.toInt32)) (nar .char ((x1 &&& (255 : Int32)).toUInt32.toUInt16.toUInt32.toInt32)) (nar .char ((x2 &&& (255 : Int32)).toUInt32.toUInt16.toUInt32.toInt32))) (.int (0 : Int32)) := Arv.set Ar79 qk79 S79 N79_ Ha79 G79 (fits_nar_char _) W79 24 rfl (Nat.le_of_ble_eq_true rfl)
  have E_r0_c79 : Exa Z h79 r0 "com/example/xrefloom/xrefloom/tree/CompactText" := E_r0_c76.wr W79
  have F_length_c79 : Fld Z h79 r0 "com/example/xrefloom/xrefloom/tree/CompactText" "length" "I" (.int len) := F_length_c76.other W79 (Or.inl ne_r0_b4)
  have F_narrow_c79 : Fld Z h79 r0 "com/example/xrefloom/xrefloom/tree/CompactText" "narrow" "[[B" (.ref na) := F_narrow_c76.other W79 (Or.inl ne_r0_b4)
  have F_wide_c79 : Fld Z h79 r0 "com/example/xrefloom/xrefloom/tree/CompactText" "wide" "[[C" (.ref wa) := F_wide_c76.other W79 (Or.inl ne_r0_b4)
  have V_na_c79 : Arv Z h79 na kn (.array .byte) (1 : Int32) [(.ref nb)] .null := V_na_c76.other W79 ne_na_b4
  have V_wa_c79 : Arv Z h79 wa kw (.array .char) (1 : Int32) [.null] .null := V_wa_c76.other W79 ne_wa_b4
  have V_nb_c79 : Arv Z h79 nb kb .byte (64 : Int32) (own_B x0 x1 x2) (.int (0 : Int32)) := V_nb_c76.other W79 ne_nb_b4
  have Ea4_c79 : Exa Z h79 b4 "[C" := Ea4_c76.wr W79
  have N79 := Fr.snoc X79 N76 gn_b4
  have Z79 : n0 ≤ h79.size := Nat.le_trans Z76 (Keep.of_wr W79).1
  refine own_go (G := T79.setTop (mkF m 39 #[.val (.ref r0), .val (.int (0 : Int32)), .val (.ref nb), .val (.ref b4), .val (.int (24 : Int32))] [])) (st79) ?_
  refine own_go (G := T79.setTop (mkF m 42 #[.val (.ref r0), .val (.int (0 : Int32)), .val (.ref nb), .val (.ref b4), .val (.int ((24 : Int32) + (1 : Int32)))] [])) (fun _ k => XS.iinc X79.here hx rfl (hb hby d7_39) rfl (l' := #[.val (.ref r0), .val (.int (0 : Int32)), .val (.ref nb), .val (.ref b4), .val (.int ((24 : Int32) + (1 : Int32)))]) rfl k) ?_
  rw [show ((24 : Int32) + (1 : Int32)) = (25 : Int32) from by decide]
  refine own_go (G := T79.setTop (mkF m 19 #[.val (.ref r0), .val (.int (0 : Int32)), .val (.ref nb), .val (.ref b4), .val (.int (25 : Int32))] [])) (fun _ k => XS.goto X79.here hx rfl (pc0 := 42) (pc' := 19) rfl (hb hby d7_42) (by decide) (by decide) k) ?_
  refine own_go (G := T79.setTop (mkF m 21 #[.val (.ref r0), .val (.int (0 : Int32)), .val (.ref nb), .val (.ref b4), .val (.int (25 : Int32))] [(.int (25 : Int32))])) (fun _ k => XS.iload X79.here hx rfl (hb hby d7_19) rfl k) ?_
  refine own_go (G := T79.setTop (mkF m 22 #[.val (.ref r0), .val (.int (0 : Int32)), .val (.ref nb), .val (.ref b4), .val (.int (25 : Int32))] [(.ref nb), (.int (25 : Int32))])) (fun _ k => XS.aloadN X79.here hx rfl (hb hby d7_21) rfl rfl k) ?_
  obtain ⟨cl80, Ar80, -, S80, N80_, -, -⟩ := id V_nb_c79
  refine own_go (G := T79.setTop (mkF m 23 #[.val (.ref r0), .val (.int (0 : Int32)), .val (.ref nb), .val (.ref b4), .val (.int (25 : Int32))] [(.int (64 : Int32)), (.int (25 : Int32))])) (fun t k => X79.arraylength hx (by rw [e79]; exact Ar80.1) (State.isArrayOf_alike hZ.alike Ar80.2.1) (g := (mkF m 22 #[.val (.ref r0), .val (.int (0 : Int32)), .val (.ref nb), .val (.ref b4), .val (.int (25 : Int32))] [(.ref nb), (.int (25 : Int32))])) rfl rfl (hb hby d7_22) t (by rw [len_of S80 N80_]; exact k)) ?_
  refine own_go (G := T79.setTop (mkF m 26 #[.val (.ref r0), .val (.int (0 : Int32)), .val (.ref nb), .val (.ref b4), .val (.int (25 : Int32))] [])) (fun _ k => XS.icmpNo X79.here hx rfl (hb hby d7_23) rfl (tlt (by decide : (25 : Int32) < (64 : Int32))).2.1 k) ?_
  refine own_go (G := T79.setTop (mkF m 27 #[.val (.ref r0), .val (.int (0 : Int32)), .val (.ref nb), .val (.ref b4), .val (.int (25 : Int32))] [(.ref b4)])) (fun _ k => XS.aloadN X79.here hx rfl (hb hby d7_26) rfl rfl k) ?_
  refine own_go (G := T79.setTop (mkF m 29 #[.val (.ref r0), .val (.int (0 : Int32)), .val (.ref nb), .val (.ref b4), .val (.int (25 : Int32))] [(.int (25 : Int32)), (.ref b4)])) (fun _ k => XS.iload X79.here hx rfl (hb hby d7_27) rfl k) ?_
  refine own_go (G := T79.setTop (mkF m 30 #[.val (.ref r0), .val (.int (0 : Int32)), .val (.ref nb), .val (.ref b4), .val (.int (25 : Int32))] [(.ref nb), (.int (25 : Int32)), (.ref b4)])) (fun _ k => XS.aloadN X79.here hx rfl (hb hby d7_29) rfl rfl k) ?_
  refine own_go (G := T79.setTop (mkF m 32 #[.val (.ref r0), .val (.int (0 : Int32)), .val (.ref nb), .val (.ref b4), .val (.int (25 : Int32))] [(.int (25 : Int32)), (.ref nb), (.int (25 : Int32)), (.ref b4)])) (fun _ k => XS.iload X79.here hx rfl (hb hby d7_30) rfl k) ?_
  obtain ⟨cl81, Ar81, qk81, S81, N81_, Ha81, G81⟩ := id V_nb_c79
  have hin81 : ¬ ((25 : Int32) < 0 ∨ cl81.slots.size ≤ ((25 : Int32)).toNatClampNeg) := inb_of S81 ⟨by decide, by decide⟩
  have hat81 : cl81.slots[((25 : Int32)).toNatClampNeg]? = some (.int (0 : Int32)) := Ha81.at hin81 rfl
  refine own_go (G := T79.setTop (mkF m 33 #[.val (.ref r0), .val (.int (0 : Int32)), .val (.ref nb), .val (.ref b4), .val (.int (25 : Int32))] [(.int (0 : Int32)), (.int (25 : Int32)), (.ref b4)])) (X79.baloadBytes hx (j := (25 : Int32)) (v := (.int (0 : Int32))) (by rw [e79]; exact Ar81.1) (State.isArrayOf_alike hZ.alike Ar81.2.1) Ar81.2.2 hin81 hat81 (g := (mkF m 32 #[.val (.ref r0), .val (.int (0 : Int32)), .val (.ref nb), .val (.ref b4), .val (.int (25 : Int32))] [(.int (25 : Int32)), (.ref nb), (.int (25 : Int32)), (.ref b4)])) rfl rfl (hb hby d7_32)) ?_
  refine own_go (G := T79.setTop (mkF m 36 #[.val (.ref r0), .val (.int (0 : Int32)), .val (.ref nb), .val (.ref b4), .val (.int (25 : Int32))] [(.int (255 : Int32)), (.int (0 : Int32)), (.int (25 : Int32)), (.ref b4)])) (fun _ k => XS.sipush X79.here hx rfl (hb hby d7_33) k) ?_
  refine own_go (G := T79.setTop (mkF m 37 #[.val (.ref r0), .val (.int (0 : Int32)), .val (.ref nb), .val (.ref b4), .val (.int (25 : Int32))] [(.int ((0 : Int32) &&& (255 : Int32))), (.int (25 : Int32)), (.ref b4)])) (fun _ k => XS.iand X79.here hx rfl (hb hby d7_36) rfl k) ?_
  rw [show ((0 : Int32) &&& (255 : Int32)) = (0 : Int32) from by decide]
  refine own_go (G := T79.setTop (mkF m 38 #[.val (.ref r0), .val (.int (0 : Int32)), .val (.ref nb), .val (.ref b4), .val (.int (25 : Int32))] [(.int ((0 : Int32).toUInt32.toUInt16.toUInt32.toInt32)), (.int (25 : Int32)), (.ref b4)])) (fun _ k => XS.i2c X79.here hx rfl (hb hby d7_37) rfl k) ?_
  rw [show ((0 : Int32).toUInt32.toUInt16.toUInt32.toInt32) = (0 : Int32) from by decide]
  obtain ⟨cl82, Ar82, qk82, S82, N82_, Ha82, G82⟩ := id V79_b4
  have hin82 : ¬ ((25 : Int32) < 0 ∨ cl82.slots.size ≤ ((25 : Int32)).toNatClampNeg) := inb_of S82 ⟨by decide, by decide⟩
  obtain ⟨T82, h82, X82, e82, W82, st82⟩ := stC X79 hx hZ e79 Ar82 (j := (25 : Int32)) hin82 (g := (mkF m 38 #[.val (.ref r0), .val (.int (0 : Int32)), .val (.ref nb), .val (.ref b4), .val (.int (25 : Int32))] [(.int (0 : Int32)), (.int (25 : Int32)), (.ref b4)])) rfl rfl (hb hby d7_38)
  have V82_b4 : Arv Z h82 b4 k4 .char (64 : Int32) (own_B (nar .char ((x0 &&& (255 : Int32)).toUInt32.toUInt16.toUInt32.toInt32)) (nar .char ((x1 &&& (255 : Int32)).toUInt32.toUInt16.toUInt32.toInt32)) (nar .char ((x2 &&& (255 : Int32)).toUInt32.toUInt16.toUInt32.toInt32))) (.int (0 : Int32)) := Arv.set Ar82 qk82 S82 N82_ Ha82 G82 (fits_nar_char _) W82 25 rfl (Nat.le_of_ble_eq_true rfl)
  have E_r0_c82 : Exa Z h82 r0 "com/example/xrefloom/xrefloom/tree/CompactText" := E_r0_c79.wr W82
  have F_length_c82 : Fld Z h82 r0 "com/example/xrefloom/xrefloom/tree/CompactText" "length" "I" (.int len) := F_length_c79.other W82 (Or.inl ne_r0_b4)
  have F_narrow_c82 : Fld Z h82 r0 "com/example/xrefloom/xrefloom/tree/CompactText" "narrow" "[[B" (.ref na) := F_narrow_c79.other W82 (Or.inl ne_r0_b4)
  have F_wide_c82 : Fld Z h82 r0 "com/example/xrefloom/xrefloom/tree/CompactText" "wide" "[[C" (.ref wa) := F_wide_c79.other W82 (Or.inl ne_r0_b4)
  have V_na_c82 : Arv Z h82 na kn (.array .byte) (1 : Int32) [(.ref nb)] .null := V_na_c79.other W82 ne_na_b4
  have V_wa_c82 : Arv Z h82 wa kw (.array .char) (1 : Int32) [.null] .null := V_wa_c79.other W82 ne_wa_b4
  have V_nb_c82 : Arv Z h82 nb kb .byte (64 : Int32) (own_B x0 x1 x2) (.int (0 : Int32)) := V_nb_c79.other W82 ne_nb_b4
  have Ea4_c82 : Exa Z h82 b4 "[C" := Ea4_c79.wr W82
  have N82 := Fr.snoc X82 N79 gn_b4
  have Z82 : n0 ≤ h82.size := Nat.le_trans Z79 (Keep.of_wr W82).1
  refine own_go (G := T82.setTop (mkF m 39 #[.val (.ref r0), .val (.int (0 : Int32)), .val (.ref nb), .val (.ref b4), .val (.int (25 : Int32))] [])) (st82) ?_
  refine own_go (G := T82.setTop (mkF m 42 #[.val (.ref r0), .val (.int (0 : Int32)), .val (.ref nb), .val (.ref b4), .val (.int ((25 : Int32) + (1 : Int32)))] [])) (fun _ k => XS.iinc X82.here hx rfl (hb hby d7_39) rfl (l' := #[.val (.ref r0), .val (.int (0 : Int32)), .val (.ref nb), .val (.ref b4), .val (.int ((25 : Int32) + (1 : Int32)))]) rfl k) ?_
  rw [show ((25 : Int32) + (1 : Int32)) = (26 : Int32) from by decide]
  refine own_go (G := T82.setTop (mkF m 19 #[.val (.ref r0), .val (.int (0 : Int32)), .val (.ref nb), .val (.ref b4), .val (.int (26 : Int32))] [])) (fun _ k => XS.goto X82.here hx rfl (pc0 := 42) (pc' := 19) rfl (hb hby d7_42) (by decide) (by decide) k) ?_
  refine own_go (G := T82.setTop (mkF m 21 #[.val (.ref r0), .val (.int (0 : Int32)), .val (.ref nb), .val (.ref b4), .val (.int (26 : Int32))] [(.int (26 : Int32))])) (fun _ k => XS.iload X82.here hx rfl (hb hby d7_19) rfl k) ?_
  refine own_go (G := T82.setTop (mkF m 22 #[.val (.ref r0), .val (.int (0 : Int32)), .val (.ref nb), .val (.ref b4), .val (.int (26 : Int32))] [(.ref nb), (.int (26 : Int32))])) (fun _ k => XS.aloadN X82.here hx rfl (hb hby d7_21) rfl rfl k) ?_
  obtain ⟨cl83, Ar83, -, S83, N83_, -, -⟩ := id V_nb_c82
  refine own_go (G := T82.setTop (mkF m 23 #[.val (.ref r0), .val (.int (0 : Int32)), .val (.ref nb), .val (.ref b4), .val (.int (26 : Int32))] [(.int (64 : Int32)), (.int (26 : Int32))])) (fun t k => X82.arraylength hx (by rw [e82]; exact Ar83.1) (State.isArrayOf_alike hZ.alike Ar83.2.1) (g := (mkF m 22 #[.val (.ref r0), .val (.int (0 : Int32)), .val (.ref nb), .val (.ref b4), .val (.int (26 : Int32))] [(.ref nb), (.int (26 : Int32))])) rfl rfl (hb hby d7_22) t (by rw [len_of S83 N83_]; exact k)) ?_
  refine own_go (G := T82.setTop (mkF m 26 #[.val (.ref r0), .val (.int (0 : Int32)), .val (.ref nb), .val (.ref b4), .val (.int (26 : Int32))] [])) (fun _ k => XS.icmpNo X82.here hx rfl (hb hby d7_23) rfl (tlt (by decide : (26 : Int32) < (64 : Int32))).2.1 k) ?_
  refine own_go (G := T82.setTop (mkF m 27 #[.val (.ref r0), .val (.int (0 : Int32)), .val (.ref nb), .val (.ref b4), .val (.int (26 : Int32))] [(.ref b4)])) (fun _ k => XS.aloadN X82.here hx rfl (hb hby d7_26) rfl rfl k) ?_
  refine own_go (G := T82.setTop (mkF m 29 #[.val (.ref r0), .val (.int (0 : Int32)), .val (.ref nb), .val (.ref b4), .val (.int (26 : Int32))] [(.int (26 : Int32)), (.ref b4)])) (fun _ k => XS.iload X82.here hx rfl (hb hby d7_27) rfl k) ?_
  refine own_go (G := T82.setTop (mkF m 30 #[.val (.ref r0), .val (.int (0 : Int32)), .val (.ref nb), .val (.ref b4), .val (.int (26 : Int32))] [(.ref nb), (.int (26 : Int32)), (.ref b4)])) (fun _ k => XS.aloadN X82.here hx rfl (hb hby d7_29) rfl rfl k) ?_
  refine own_go (G := T82.setTop (mkF m 32 #[.val (.ref r0), .val (.int (0 : Int32)), .val (.ref nb), .val (.ref b4), .val (.int (26 : Int32))] [(.int (26 : Int32)), (.ref nb), (.int (26 : Int32)), (.ref b4)])) (fun _ k => XS.iload X82.here hx rfl (hb hby d7_30) rfl k) ?_
  obtain ⟨cl84, Ar84, qk84, S84, N84_, Ha84, G84⟩ := id V_nb_c82
  have hin84 : ¬ ((26 : Int32) < 0 ∨ cl84.slots.size ≤ ((26 : Int32)).toNatClampNeg) := inb_of S84 ⟨by decide, by decide⟩
  have hat84 : cl84.slots[((26 : Int32)).toNatClampNeg]? = some (.int (0 : Int32)) := Ha84.at hin84 rfl
  refine own_go (G := T82.setTop (mkF m 33 #[.val (.ref r0), .val (.int (0 : Int32)), .val (.ref nb), .val (.ref b4), .val (.int (26 : Int32))] [(.int (0 : Int32)), (.int (26 : Int32)), (.ref b4)])) (X82.baloadBytes hx (j := (26 : Int32)) (v := (.int (0 : Int32))) (by rw [e82]; exact Ar84.1) (State.isArrayOf_alike hZ.alike Ar84.2.1) Ar84.2.2 hin84 hat84 (g := (mkF m 32 #[.val (.ref r0), .val (.int (0 : Int32)), .val (.ref nb), .val (.ref b4), .val (.int (26 : Int32))] [(.int (26 : Int32)), (.ref nb), (.int (26 : Int32)), (.ref b4)])) rfl rfl (hb hby d7_32)) ?_
  refine own_go (G := T82.setTop (mkF m 36 #[.val (.ref r0), .val (.int (0 : Int32)), .val (.ref nb), .val (.ref b4), .val (.int (26 : Int32))] [(.int (255 : Int32)), (.int (0 : Int32)), (.int (26 : Int32)), (.ref b4)])) (fun _ k => XS.sipush X82.here hx rfl (hb hby d7_33) k) ?_
  refine own_go (G := T82.setTop (mkF m 37 #[.val (.ref r0), .val (.int (0 : Int32)), .val (.ref nb), .val (.ref b4), .val (.int (26 : Int32))] [(.int ((0 : Int32) &&& (255 : Int32))), (.int (26 : Int32)), (.ref b4)])) (fun _ k => XS.iand X82.here hx rfl (hb hby d7_36) rfl k) ?_
  rw [show ((0 : Int32) &&& (255 : Int32)) = (0 : Int32) from by decide]
  refine own_go (G := T82.setTop (mkF m 38 #[.val (.ref r0), .val (.int (0 : Int32)), .val (.ref nb), .val (.ref b4), .val (.int (26 : Int32))] [(.int ((0 : Int32).toUInt32.toUInt16.toUInt32.toInt32)), (.int (26 : Int32)), (.ref b4)])) (fun _ k => XS.i2c X82.here hx rfl (hb hby d7_37) rfl k) ?_
  rw [show ((0 : Int32).toUInt32.toUInt16.toUInt32.toInt32) = (0 : Int32) from by decide]
  obtain ⟨cl85, Ar85, qk85, S85, N85_, Ha85, G85⟩ := id V82_b4
  have hin85 : ¬ ((26 : Int32) < 0 ∨ cl85.slots.size ≤ ((26 : Int32)).toNatClampNeg) := inb_of S85 ⟨by decide, by decide⟩
  obtain ⟨T85, h85, X85, e85, W85, st85⟩ := stC X82 hx hZ e82 Ar85 (j := (26 : Int32)) hin85 (g := (mkF m 38 #[.val (.ref r0), .val (.int (0 : Int32)), .val (.ref nb), .val (.ref b4), .val (.int (26 : Int32))] [(.int (0 : Int32)), (.int (26 : Int32)), (.ref b4)])) rfl rfl (hb hby d7_38)
  have V85_b4 : Arv Z h85 b4 k4 .char (64 : Int32) (own_B (nar .char ((x0 &&& (255 : Int32)).toUInt32.toUInt16.toUInt32.toInt32)) (nar .char ((x1 &&& (255 : Int32)).toUInt32.toUInt16.toUInt32.toInt32)) (nar .char ((x2 &&& (255 : Int32)).toUInt32.toUInt16.toUInt32.toInt32))) (.int (0 : Int32)) := Arv.set Ar85 qk85 S85 N85_ Ha85 G85 (fits_nar_char _) W85 26 rfl (Nat.le_of_ble_eq_true rfl)
  have E_r0_c85 : Exa Z h85 r0 "com/example/xrefloom/xrefloom/tree/CompactText" := E_r0_c82.wr W85
  have F_length_c85 : Fld Z h85 r0 "com/example/xrefloom/xrefloom/tree/CompactText" "length" "I" (.int len) := F_length_c82.other W85 (Or.inl ne_r0_b4)
  have F_narrow_c85 : Fld Z h85 r0 "com/example/xrefloom/xrefloom/tree/CompactText" "narrow" "[[B" (.ref na) := F_narrow_c82.other W85 (Or.inl ne_r0_b4)
  have F_wide_c85 : Fld Z h85 r0 "com/example/xrefloom/xrefloom/tree/CompactText" "wide" "[[C" (.ref wa) := F_wide_c82.other W85 (Or.inl ne_r0_b4)
  have V_na_c85 : Arv Z h85 na kn (.array .byte) (1 : Int32) [(.ref nb)] .null := V_na_c82.other W85 ne_na_b4
  have V_wa_c85 : Arv Z h85 wa kw (.array .char) (1 : Int32) [.null] .null := V_wa_c82.other W85 ne_wa_b4
  have V_nb_c85 : Arv Z h85 nb kb .byte (64 : Int32) (own_B x0 x1 x2) (.int (0 : Int32)) := V_nb_c82.other W85 ne_nb_b4
  have Ea4_c85 : Exa Z h85 b4 "[C" := Ea4_c82.wr W85
  have N85 := Fr.snoc X85 N82 gn_b4
  have Z85 : n0 ≤ h85.size := Nat.le_trans Z82 (Keep.of_wr W85).1
  refine own_go (G := T85.setTop (mkF m 39 #[.val (.ref r0), .val (.int (0 : Int32)), .val (.ref nb), .val (.ref b4), .val (.int (26 : Int32))] [])) (st85) ?_
  refine own_go (G := T85.setTop (mkF m 42 #[.val (.ref r0), .val (.int (0 : Int32)), .val (.ref nb), .val (.ref b4), .val (.int ((26 : Int32) + (1 : Int32)))] [])) (fun _ k => XS.iinc X85.here hx rfl (hb hby d7_39) rfl (l' := #[.val (.ref r0), .val (.int (0 : Int32)), .val (.ref nb), .val (.ref b4), .val (.int ((26 : Int32) + (1 : Int32)))]) rfl k) ?_
  rw [show ((26 : Int32) + (1 : Int32)) = (27 : Int32) from by decide]
  refine own_go (G := T85.setTop (mkF m 19 #[.val (.ref r0), .val (.int (0 : Int32)), .val (.ref nb), .val (.ref b4), .val (.int (27 : Int32))] [])) (fun _ k => XS.goto X85.here hx rfl (pc0 := 42) (pc' := 19) rfl (hb hby d7_42) (by decide) (by decide) k) ?_
  refine own_go (G := T85.setTop (mkF m 21 #[.val (.ref r0), .val (.int (0 : Int32)), .val (.ref nb), .val (.ref b4), .val (.int (27 : Int32))] [(.int (27 : Int32))])) (fun _ k => XS.iload X85.here hx rfl (hb hby d7_19) rfl k) ?_
  refine own_go (G := T85.setTop (mkF m 22 #[.val (.ref r0), .val (.int (0 : Int32)), .val (.ref nb), .val (.ref b4), .val (.int (27 : Int32))] [(.ref nb), (.int (27 : Int32))])) (fun _ k => XS.aloadN X85.here hx rfl (hb hby d7_21) rfl rfl k) ?_
  obtain ⟨cl86, Ar86, -, S86, N86_, -, -⟩ := id V_nb_c85
  refine own_go (G := T85.setTop (mkF m 23 #[.val (.ref r0), .val (.int (0 : Int32)), .val (.ref nb), .val (.ref b4), .val (.int (27 : Int32))] [(.int (64 : Int32)), (.int (27 : Int32))])) (fun t k => X85.arraylength hx (by rw [e85]; exact Ar86.1) (State.isArrayOf_alike hZ.alike Ar86.2.1) (g := (mkF m 22 #[.val (.ref r0), .val (.int (0 : Int32)), .val (.ref nb), .val (.ref b4), .val (.int (27 : Int32))] [(.ref nb), (.int (27 : Int32))])) rfl rfl (hb hby d7_22) t (by rw [len_of S86 N86_]; exact k)) ?_
  refine own_go (G := T85.setTop (mkF m 26 #[.val (.ref r0), .val (.int (0 : Int32)), .val (.ref nb), .val (.ref b4), .val (.int (27 : Int32))] [])) (fun _ k => XS.icmpNo X85.here hx rfl (hb hby d7_23) rfl (tlt (by decide : (27 : Int32) < (64 : Int32))).2.1 k) ?_
  refine own_go (G := T85.setTop (mkF m 27 #[.val (.ref r0), .val (.int (0 : Int32)), .val (.ref nb), .val (.ref b4), .val (.int (27 : Int32))] [(.ref b4)])) (fun _ k => XS.aloadN X85.here hx rfl (hb hby d7_26) rfl rfl k) ?_
  refine own_go (G := T85.setTop (mkF m 29 #[.val (.ref r0), .val (.int (0 : Int32)), .val (.ref nb), .val (.ref b4), .val (.int (27 : Int32))] [(.int (27 : Int32)), (.ref b4)])) (fun _ k => XS.iload X85.here hx rfl (hb hby d7_27) rfl k) ?_
  refine own_go (G := T85.setTop (mkF m 30 #[.val (.ref r0), .val (.int (0 : Int32)), .val (.ref nb), .val (.ref b4), .val (.int (27 : Int32))] [(.ref nb), (.int (27 : Int32)), (.ref b4)])) (fun _ k => XS.aloadN X85.here hx rfl (hb hby d7_29) rfl rfl k) ?_
  refine own_go (G := T85.setTop (mkF m 32 #[.val (.ref r0), .val (.int (0 : Int32)), .val (.ref nb), .val (.ref b4), .val (.int (27 : Int32))] [(.int (27 : Int32)), (.ref nb), (.int (27 : Int32)), (.ref b4)])) (fun _ k => XS.iload X85.here hx rfl (hb hby d7_30) rfl k) ?_
  obtain ⟨cl87, Ar87, qk87, S87, N87_, Ha87, G87⟩ := id V_nb_c85
  have hin87 : ¬ ((27 : Int32) < 0 ∨ cl87.slots.size ≤ ((27 : Int32)).toNatClampNeg) := inb_of S87 ⟨by decide, by decide⟩
  have hat87 : cl87.slots[((27 : Int32)).toNatClampNeg]? = some (.int (0 : Int32)) := Ha87.at hin87 rfl
  refine own_go (G := T85.setTop (mkF m 33 #[.val (.ref r0), .val (.int (0 : Int32)), .val (.ref nb), .val (.ref b4), .val (.int (27 : Int32))] [(.int (0 : Int32)), (.int (27 : Int32)), (.ref b4)])) (X85.baloadBytes hx (j := (27 : Int32)) (v := (.int (0 : Int32))) (by rw [e85]; exact Ar87.1) (State.isArrayOf_alike hZ.alike Ar87.2.1) Ar87.2.2 hin87 hat87 (g := (mkF m 32 #[.val (.ref r0), .val (.int (0 : Int32)), .val (.ref nb), .val (.ref b4), .val (.int (27 : Int32))] [(.int (27 : Int32)), (.ref nb), (.int (27 : Int32)), (.ref b4)])) rfl rfl (hb hby d7_32)) ?_
  refine own_go (G := T85.setTop (mkF m 36 #[.val (.ref r0), .val (.int (0 : Int32)), .val (.ref nb), .val (.ref b4), .val (.int (27 : Int32))] [(.int (255 : Int32)), (.int (0 : Int32)), (.int (27 : Int32)), (.ref b4)])) (fun _ k => XS.sipush X85.here hx rfl (hb hby d7_33) k) ?_
  refine own_go (G := T85.setTop (mkF m 37 #[.val (.ref r0), .val (.int (0 : Int32)), .val (.ref nb), .val (.ref b4), .val (.int (27 : Int32))] [(.int ((0 : Int32) &&& (255 : Int32))), (.int (27 : Int32)), (.ref b4)])) (fun _ k => XS.iand X85.here hx rfl (hb hby d7_36) rfl k) ?_
  rw [show ((0 : Int32) &&& (255 : Int32)) = (0 : Int32) from by decide]
  refine own_go (G := T85.setTop (mkF m 38 #[.val (.ref r0), .val (.int (0 : Int32)), .val (.ref nb), .val (.ref b4), .val (.int (27 : Int32))] [(.int ((0 : Int32).toUInt32.toUInt16.toUInt32.toInt32)), (.int (27 : Int32)), (.ref b4)])) (fun _ k => XS.i2c X85.here hx rfl (hb hby d7_37) rfl k) ?_
  rw [show ((0 : Int32).toUInt32.toUInt16.toUInt32.toInt32) = (0 : Int32) from by decide]
  obtain ⟨cl88, Ar88, qk88, S88, N88_, Ha88, G88⟩ := id V85_b4
  have hin88 : ¬ ((27 : Int32) < 0 ∨ cl88.slots.size ≤ ((27 : Int32)).toNatClampNeg) := inb_of S88 ⟨by decide, by decide⟩
  obtain ⟨T88, h88, X88, e88, W88, st88⟩ := stC X85 hx hZ e85 Ar88 (j := (27 : Int32)) hin88 (g := (mkF m 38 #[.val (.ref r0), .val (.int (0 : Int32)), .val (.ref nb), .val (.ref b4), .val (.int (27 : Int32))] [(.int (0 : Int32)), (.int (27 : Int32)), (.ref b4)])) rfl rfl (hb hby d7_38)
  have V88_b4 : Arv Z h88 b4 k4 .char (64 : Int32) (own_B (nar .char ((x0 &&& (255 : Int32)).toUInt32.toUInt16.toUInt32.toInt32)) (nar .char ((x1 &&& (255 : Int32)).toUInt32.toUInt16.toUInt32.toInt32)) (nar .char ((x2 &&& (255 : Int32)).toUInt32.toUInt16.toUInt32.toInt32))) (.int (0 : Int32)) := Arv.set Ar88 qk88 S88 N88_ Ha88 G88 (fits_nar_char _) W88 27 rfl (Nat.le_of_ble_eq_true rfl)
  have E_r0_c88 : Exa Z h88 r0 "com/example/xrefloom/xrefloom/tree/CompactText" := E_r0_c85.wr W88
  have F_length_c88 : Fld Z h88 r0 "com/example/xrefloom/xrefloom/tree/CompactText" "length" "I" (.int len) := F_length_c85.other W88 (Or.inl ne_r0_b4)
  have F_narrow_c88 : Fld Z h88 r0 "com/example/xrefloom/xrefloom/tree/CompactText" "narrow" "[[B" (.ref na) := F_narrow_c85.other W88 (Or.inl ne_r0_b4)
  have F_wide_c88 : Fld Z h88 r0 "com/example/xrefloom/xrefloom/tree/CompactText" "wide" "[[C" (.ref wa) := F_wide_c85.other W88 (Or.inl ne_r0_b4)
  have V_na_c88 : Arv Z h88 na kn (.array .byte) (1 : Int32) [(.ref nb)] .null := V_na_c85.other W88 ne_na_b4
  have V_wa_c88 : Arv Z h88 wa kw (.array .char) (1 : Int32) [.null] .null := V_wa_c85.other W88 ne_wa_b4
  have V_nb_c88 : Arv Z h88 nb kb .byte (64 : Int32) (own_B x0 x1 x2) (.int (0 : Int32)) := V_nb_c85.other W88 ne_nb_b4
  have Ea4_c88 : Exa Z h88 b4 "[C" := Ea4_c85.wr W88
  have N88 := Fr.snoc X88 N85 gn_b4
  have Z88 : n0 ≤ h88.size := Nat.le_trans Z85 (Keep.of_wr W88).1
  refine own_go (G := T88.setTop (mkF m 39 #[.val (.ref r0), .val (.int (0 : Int32)), .val (.ref nb), .val (.ref b4), .val (.int (27 : Int32))] [])) (st88) ?_
  refine own_go (G := T88.setTop (mkF m 42 #[.val (.ref r0), .val (.int (0 : Int32)), .val (.ref nb), .val (.ref b4), .val (.int ((27 : Int32) + (1 : Int32)))] [])) (fun _ k => XS.iinc X88.here hx rfl (hb hby d7_39) rfl (l' := #[.val (.ref r0), .val (.int (0 : Int32)), .val (.ref nb), .val (.ref b4), .val (.int ((27 : Int32) + (1 : Int32)))]) rfl k) ?_
  rw [show ((27 : Int32) + (1 : Int32)) = (28 : Int32) from by decide]
  refine own_go (G := T88.setTop (mkF m 19 #[.val (.ref r0), .val (.int (0 : Int32)), .val (.ref nb), .val (.ref b4), .val (.int (28 : Int32))] [])) (fun _ k => XS.goto X88.here hx rfl (pc0 := 42) (pc' := 19) rfl (hb hby d7_42) (by decide) (by decide) k) ?_
  refine own_go (G := T88.setTop (mkF m 21 #[.val (.ref r0), .val (.int (0 : Int32)), .val (.ref nb), .val (.ref b4), .val (.int (28 : Int32))] [(.int (28 : Int32))])) (fun _ k => XS.iload X88.here hx rfl (hb hby d7_19) rfl k) ?_
  refine own_go (G := T88.setTop (mkF m 22 #[.val (.ref r0), .val (.int (0 : Int32)), .val (.ref nb), .val (.ref b4), .val (.int (28 : Int32))] [(.ref nb), (.int (28 : Int32))])) (fun _ k => XS.aloadN X88.here hx rfl (hb hby d7_21) rfl rfl k) ?_
  obtain ⟨cl89, Ar89, -, S89, N89_, -, -⟩ := id V_nb_c88
  refine own_go (G := T88.setTop (mkF m 23 #[.val (.ref r0), .val (.int (0 : Int32)), .val (.ref nb), .val (.ref b4), .val (.int (28 : Int32))] [(.int (64 : Int32)), (.int (28 : Int32))])) (fun t k => X88.arraylength hx (by rw [e88]; exact Ar89.1) (State.isArrayOf_alike hZ.alike Ar89.2.1) (g := (mkF m 22 #[.val (.ref r0), .val (.int (0 : Int32)), .val (.ref nb), .val (.ref b4), .val (.int (28 : Int32))] [(.ref nb), (.int (28 : Int32))])) rfl rfl (hb hby d7_22) t (by rw [len_of S89 N89_]; exact k)) ?_
  refine own_go (G := T88.setTop (mkF m 26 #[.val (.ref r0), .val (.int (0 : Int32)), .val (.ref nb), .val (.ref b4), .val (.int (28 : Int32))] [])) (fun _ k => XS.icmpNo X88.here hx rfl (hb hby d7_23) rfl (tlt (by decide : (28 : Int32) < (64 : Int32))).2.1 k) ?_
  refine own_go (G := T88.setTop (mkF m 27 #[.val (.ref r0), .val (.int (0 : Int32)), .val (.ref nb), .val (.ref b4), .val (.int (28 : Int32))] [(.ref b4)])) (fun _ k => XS.aloadN X88.here hx rfl (hb hby d7_26) rfl rfl k) ?_
  refine own_go (G := T88.setTop (mkF m 29 #[.val (.ref r0), .val (.int (0 : Int32)), .val (.ref nb), .val (.ref b4), .val (.int (28 : Int32))] [(.int (28 : Int32)), (.ref b4)])) (fun _ k => XS.iload X88.here hx rfl (hb hby d7_27) rfl k) ?_
  refine own_go (G := T88.setTop (mkF m 30 #[.val (.ref r0), .val (.int (0 : Int32)), .val (.ref nb), .val (.ref b4), .val (.int (28 : Int32))] [(.ref nb), (.int (28 : Int32)), (.ref b4)])) (fun _ k => XS.aloadN X88.here hx rfl (hb hby d7_29) rfl rfl k) ?_
  refine own_go (G := T88.setTop (mkF m 32 #[.val (.ref r0), .val (.int (0 : Int32)), .val (.ref nb), .val (.ref b4), .val (.int (28 : Int32))] [(.int (28 : Int32)), (.ref nb), (.int (28 : Int32)), (.ref b4)])) (fun _ k => XS.iload X88.here hx rfl (hb hby d7_30) rfl k) ?_
  obtain ⟨cl90, Ar90, qk90, S90, N90_, Ha90, G90⟩ := id V_nb_c88
  have hin90 : ¬ ((28 : Int32) < 0 ∨ cl90.slots.size ≤ ((28 : Int32)).toNatClampNeg) := inb_of S90 ⟨by decide, by decide⟩
  have hat90 : cl90.slots[((28 : Int32)).toNatClampNeg]? = some (.int (0 : Int32)) := Ha90.at hin90 rfl
  refine own_go (G := T88.setTop (mkF m 33 #[.val (.ref r0), .val (.int (0 : Int32)), .val (.ref nb), .val (.ref b4), .val (.int (28 : Int32))] [(.int (0 : Int32)), (.int (28 : Int32)), (.ref b4)])) (X88.baloadBytes hx (j := (28 : Int32)) (v := (.int (0 : Int32))) (by rw [e88]; exact Ar90.1) (State.isArrayOf_alike hZ.alike Ar90.2.1) Ar90.2.2 hin90 hat90 (g := (mkF m 32 #[.val (.ref r0), .val (.int (0 : Int32)), .val (.ref nb), .val (.ref b4), .val (.int (28 : Int32))] [(.int (28 : Int32)), (.ref nb), (.int (28 : Int32)), (.ref b4)])) rfl rfl (hb hby d7_32)) ?_
  refine own_go (G := T88.setTop (mkF m 36 #[.val (.ref r0), .val (.int (0 : Int32)), .val (.ref nb), .val (.ref b4), .val (.int (28 : Int32))] [(.int (255 : Int32)), (.int (0 : Int32)), (.int (28 : Int32)), (.ref b4)])) (fun _ k => XS.sipush X88.here hx rfl (hb hby d7_33) k) ?_
  refine own_go (G := T88.setTop (mkF m 37 #[.val (.ref r0), .val (.int (0 : Int32)), .val (.ref nb), .val (.ref b4), .val (.int (28 : Int32))] [(.int ((0 : Int32) &&& (255 : Int32))), (.int (28 : Int32)), (.ref b4)])) (fun _ k => XS.iand X88.here hx rfl (hb hby d7_36) rfl k) ?_
  rw [show ((0 : Int32) &&& (255 : Int32)) = (0 : Int32) from by decide]
  refine own_go (G := T88.setTop (mkF m 38 #[.val (.ref r0), .val (.int (0 : Int32)), .val (.ref nb), .val (.ref b4), .val (.int (28 : Int32))] [(.int ((0 : Int32).toUInt32.toUInt16.toUInt32.toInt32)), (.int (28 : Int32)), (.ref b4)])) (fun _ k => XS.i2c X88.here hx rfl (hb hby d7_37) rfl k) ?_
  rw [show ((0 : Int32).toUInt32.toUInt16.toUInt32.toInt32) = (0 : Int32) from by decide]
  obtain ⟨cl91, Ar91, qk91, S91, N91_, Ha91, G91⟩ := id V88_b4
  have hin91 : ¬ ((28 : Int32) < 0 ∨ cl91.slots.size ≤ ((28 : Int32)).toNatClampNeg) := inb_of S91 ⟨by decide, by decide⟩
  obtain ⟨T91, h91, X91, e91, W91, st91⟩ := stC X88 hx hZ e88 Ar91 (j := (28 : Int32)) hin91 (g := (mkF m 38 #[.val (.ref r0), .val (.int (0 : Int32)), .val (.ref nb), .val (.ref b4), .val (.int (28 : Int32))] [(.int (0 : Int32)), (.int (28 : Int32)), (.ref b4)])) rfl rfl (hb hby d7_38)
  have V91_b4 : Arv Z h91 b4 k4 .char (64 : Int32) (own_B (nar .char ((x0 &&& (255 : Int32)).toUInt32.toUInt16.toUInt32.toInt32)) (nar .char ((x1 &&& (255 : Int32)).toUInt32.toUInt16.toUInt32.toInt32)) (nar .char ((x2 &&& (255 : Int32)).toUInt32.toUInt16.toUInt32.toInt32))) (.int (0 : Int32)) := Arv.set Ar91 qk91 S91 N91_ Ha91 G91 (fits_nar_char _) W91 28 rfl (Nat.le_of_ble_eq_true rfl)
  have E_r0_c91 : Exa Z h91 r0 "com/example/xrefloom/xrefloom/tree/CompactText" := E_r0_c88.wr W91
  have F_length_c91 : Fld Z h91 r0 "com/example/xrefloom/xrefloom/tree/CompactText" "length" "I" (.int len) := F_length_c88.other W91 (Or.inl ne_r0_b4)
  have F_narrow_c91 : Fld Z h91 r0 "com/example/xrefloom/xrefloom/tree/CompactText" "narrow" "[[B" (.ref na) := F_narrow_c88.other W91 (Or.inl ne_r0_b4)
  have F_wide_c91 : Fld Z h91 r0 "com/example/xrefloom/xrefloom/tree/CompactText" "wide" "[[C" (.ref wa) := F_wide_c88.other W91 (Or.inl ne_r0_b4)
  have V_na_c91 : Arv Z h91 na kn (.array .byte) (1 : Int32) [(.ref nb)] .null := V_na_c88.other W91 ne_na_b4
  have V_wa_c91 : Arv Z h91 wa kw (.array .char) (1 : Int32) [.null] .null := V_wa_c88.other W91 ne_wa_b4
  have V_nb_c91 : Arv Z h91 nb kb .byte (64 : Int32) (own_B x0 x1 x2) (.int (0 : Int32)) := V_nb_c88.other W91 ne_nb_b4
  have Ea4_c91 : Exa Z h91 b4 "[C" := Ea4_c88.wr W91
  have N91 := Fr.snoc X91 N88 gn_b4
  have Z91 : n0 ≤ h91.size := Nat.le_trans Z88 (Keep.of_wr W91).1
  refine own_go (G := T91.setTop (mkF m 39 #[.val (.ref r0), .val (.int (0 : Int32)), .val (.ref nb), .val (.ref b4), .val (.int (28 : Int32))] [])) (st91) ?_
  refine own_go (G := T91.setTop (mkF m 42 #[.val (.ref r0), .val (.int (0 : Int32)), .val (.ref nb), .val (.ref b4), .val (.int ((28 : Int32) + (1 : Int32)))] [])) (fun _ k => XS.iinc X91.here hx rfl (hb hby d7_39) rfl (l' := #[.val (.ref r0), .val (.int (0 : Int32)), .val (.ref nb), .val (.ref b4), .val (.int ((28 : Int32) + (1 : Int32)))]) rfl k) ?_
  rw [show ((28 : Int32) + (1 : Int32)) = (29 : Int32) from by decide]
  refine own_go (G := T91.setTop (mkF m 19 #[.val (.ref r0), .val (.int (0 : Int32)), .val (.ref nb), .val (.ref b4), .val (.int (29 : Int32))] [])) (fun _ k => XS.goto X91.here hx rfl (pc0 := 42) (pc' := 19) rfl (hb hby d7_42) (by decide) (by decide) k) ?_
  refine own_go (G := T91.setTop (mkF m 21 #[.val (.ref r0), .val (.int (0 : Int32)), .val (.ref nb), .val (.ref b4), .val (.int (29 : Int32))] [(.int (29 : Int32))])) (fun _ k => XS.iload X91.here hx rfl (hb hby d7_19) rfl k) ?_
  refine own_go (G := T91.setTop (mkF m 22 #[.val (.ref r0), .val (.int (0 : Int32)), .val (.ref nb), .val (.ref b4), .val (.int (29 : Int32))] [(.ref nb), (.int (29 : Int32))])) (fun _ k => XS.aloadN X91.here hx rfl (hb hby d7_21) rfl rfl k) ?_
  obtain ⟨cl92, Ar92, -, S92, N92_, -, -⟩ := id V_nb_c91
  refine own_go (G := T91.setTop (mkF m 23 #[.val (.ref r0), .val (.int (0 : Int32)), .val (.ref nb), .val (.ref b4), .val (.int (29 : Int32))] [(.int (64 : Int32)), (.int (29 : Int32))])) (fun t k => X91.arraylength hx (by rw [e91]; exact Ar92.1) (State.isArrayOf_alike hZ.alike Ar92.2.1) (g := (mkF m 22 #[.val (.ref r0), .val (.int (0 : Int32)), .val (.ref nb), .val (.ref b4), .val (.int (29 : Int32))] [(.ref nb), (.int (29 : Int32))])) rfl rfl (hb hby d7_22) t (by rw [len_of S92 N92_]; exact k)) ?_
  refine own_go (G := T91.setTop (mkF m 26 #[.val (.ref r0), .val (.int (0 : Int32)), .val (.ref nb), .val (.ref b4), .val (.int (29 : Int32))] [])) (fun _ k => XS.icmpNo X91.here hx rfl (hb hby d7_23) rfl (tlt (by decide : (29 : Int32) < (64 : Int32))).2.1 k) ?_
  refine own_go (G := T91.setTop (mkF m 27 #[.val (.ref r0), .val (.int (0 : Int32)), .val (.ref nb), .val (.ref b4), .val (.int (29 : Int32))] [(.ref b4)])) (fun _ k => XS.aloadN X91.here hx rfl (hb hby d7_26) rfl rfl k) ?_
  refine own_go (G := T91.setTop (mkF m 29 #[.val (.ref r0), .val (.int (0 : Int32)), .val (.ref nb), .val (.ref b4), .val (.int (29 : Int32))] [(.int (29 : Int32)), (.ref b4)])) (fun _ k => XS.iload X91.here hx rfl (hb hby d7_27) rfl k) ?_
  refine own_go (G := T91.setTop (mkF m 30 #[.val (.ref r0), .val (.int (0 : Int32)), .val (.ref nb), .val (.ref b4), .val (.int (29 : Int32))] [(.ref nb), (.int (29 : Int32)), (.ref b4)])) (fun _ k => XS.aloadN X91.here hx rfl (hb hby d7_29) rfl rfl k) ?_
  refine own_go (G := T91.setTop (mkF m 32 #[.val (.ref r0), .val (.int (0 : Int32)), .val (.ref nb), .val (.ref b4), .val (.int (29 : Int32))] [(.int (29 : Int32)), (.ref nb), (.int (29 : Int32)), (.ref b4)])) (fun _ k => XS.iload X91.here hx rfl (hb hby d7_30) rfl k) ?_
  obtain ⟨cl93, Ar93, qk93, S93, N93_, Ha93, G93⟩ := id V_nb_c91
  have hin93 : ¬ ((29 : Int32) < 0 ∨ cl93.slots.size ≤ ((29 : Int32)).toNatClampNeg) := inb_of S93 ⟨by decide, by decide⟩
  have hat93 : cl93.slots[((29 : Int32)).toNatClampNeg]? = some (.int (0 : Int32)) := Ha93.at hin93 rfl
  refine own_go (G := T91.setTop (mkF m 33 #[.val (.ref r0), .val (.int (0 : Int32)), .val (.ref nb), .val (.ref b4), .val (.int (29 : Int32))] [(.int (0 : Int32)), (.int (29 : Int32)), (.ref b4)])) (X91.baloadBytes hx (j := (29 : Int32)) (v := (.int (0 : Int32))) (by rw [e91]; exact Ar93.1) (State.isArrayOf_alike hZ.alike Ar93.2.1) Ar93.2.2 hin93 hat93 (g := (mkF m 32 #[.val (.ref r0), .val (.int (0 : Int32)), .val (.ref nb), .val (.ref b4), .val (.int (29 : Int32))] [(.int (29 : Int32)), (.ref nb), (.int (29 : Int32)), (.ref b4)])) rfl rfl (hb hby d7_32)) ?_
  refine own_go (G := T91.setTop (mkF m 36 #[.val (.ref r0), .val (.int (0 : Int32)), .val (.ref nb), .val (.ref b4), .val (.int (29 : Int32))] [(.int (255 : Int32)), (.int (0 : Int32)), (.int (29 : Int32)), (.ref b4)])) (fun _ k => XS.sipush X91.here hx rfl (hb hby d7_33) k) ?_
  refine own_go (G := T91.setTop (mkF m 37 #[.val (.ref r0), .val (.int (0 : Int32)), .val (.ref nb), .val (.ref b4), .val (.int (29 : Int32))] [(.int ((0 : Int32) &&& (255 : Int32))), (.int (29 : Int32)), (.ref b4)])) (fun _ k => XS.iand X91.here hx rfl (hb hby d7_36) rfl k) ?_
  rw [show ((0 : Int32) &&& (255 : Int32)) = (0 : Int32) from by decide]
  refine own_go (G := T91.setTop (mkF m 38 #[.val (.ref r0), .val (.int (0 : Int32)), .val (.ref nb), .val (.ref b4), .val (.int (29 : Int32))] [(.int ((0 : Int32).toUInt32.toUInt16.toUInt32.toInt32)), (.int (29 : Int32)), (.ref b4)])) (fun _ k => XS.i2c X91.here hx rfl (hb hby d7_37) rfl k) ?_
  rw [show ((0 : Int32).toUInt32.toUInt16.toUInt32.toInt32) = (0 : Int32) from by decide]
  obtain ⟨cl94, Ar94, qk94, S94, N94_, Ha94, G94⟩ := id V91_b4
  have hin94 : ¬ ((29 : Int32) < 0 ∨ cl94.slots.size ≤ ((29 : Int32)).toNatClampNeg) := inb_of S94 ⟨by decide, by decide⟩
  obtain ⟨T94, h94, X94, e94, W94, st94⟩ := stC X91 hx hZ e91 Ar94 (j := (29 : Int32)) hin94 (g := (mkF m 38 #[.val (.ref r0), .val (.int (0 : Int32)), .val (.ref nb), .val (.ref b4), .val (.int (29 : Int32))] [(.int (0 : Int32)), (.int (29 : Int32)), (.ref b4)])) rfl rfl (hb hby d7_38)
  have V94_b4 : Arv Z h94 b4 k4 .char (64 : Int32) (own_B (nar .char ((x0 &&& (255 : Int32)).toUInt32.toUInt16.toUInt32.toInt32)) (nar .char ((x1 &&& (255 : Int32)).toUInt32.toUInt16.toUInt32.toInt32)) (nar .char ((x2 &&& (255 : Int32)).toUInt32.toUInt16.toUInt32.toInt32))) (.int (0 : Int32)) := Arv.set Ar94 qk94 S94 N94_ Ha94 G94 (fits_nar_char _) W94 29 rfl (Nat.le_of_ble_eq_true rfl)
  have E_r0_c94 : Exa Z h94 r0 "com/example/xrefloom/xrefloom/tree/CompactText" := E_r0_c91.wr W94
  have F_length_c94 : Fld Z h94 r0 "com/example/xrefloom/xrefloom/tree/CompactText" "length" "I" (.int len) := F_length_c91.other W94 (Or.inl ne_r0_b4)
  have F_narrow_c94 : Fld Z h94 r0 "com/example/xrefloom/xrefloom/tree/CompactText" "narrow" "[[B" (.ref na) := F_narrow_c91.other W94 (Or.inl ne_r0_b4)
  have F_wide_c94 : Fld Z h94 r0 "com/example/xrefloom/xrefloom/tree/CompactText" "wide" "[[C" (.ref wa) := F_wide_c91.other W94 (Or.inl ne_r0_b4)
  have V_na_c94 : Arv Z h94 na kn (.array .byte) (1 : Int32) [(.ref nb)] .null := V_na_c91.other W94 ne_na_b4
  have V_wa_c94 : Arv Z h94 wa kw (.array .char) (1 : Int32) [.null] .null := V_wa_c91.other W94 ne_wa_b4
  have V_nb_c94 : Arv Z h94 nb kb .byte (64 : Int32) (own_B x0 x1 x2) (.int (0 : Int32)) := V_nb_c91.other W94 ne_nb_b4
  have Ea4_c94 : Exa Z h94 b4 "[C" := Ea4_c91.wr W94
  have N94 := Fr.snoc X94 N91 gn_b4
  have Z94 : n0 ≤ h94.size := Nat.le_trans Z91 (Keep.of_wr W94).1
  refine own_go (G := T94.setTop (mkF m 39 #[.val (.ref r0), .val (.int (0 : Int32)), .val (.ref nb), .val (.ref b4), .val (.int (29 : Int32))] [])) (st94) ?_
  refine own_go (G := T94.setTop (mkF m 42 #[.val (.ref r0), .val (.int (0 : Int32)), .val (.ref nb), .val (.ref b4), .val (.int ((29 : Int32) + (1 : Int32)))] [])) (fun _ k => XS.iinc X94.here hx rfl (hb hby d7_39) rfl (l' := #[.val (.ref r0), .val (.int (0 : Int32)), .val (.ref nb), .val (.ref b4), .val (.int ((29 : Int32) + (1 : Int32)))]) rfl k) ?_
  rw [show ((29 : Int32) + (1 : Int32)) = (30 : Int32) from by decide]
  refine own_go (G := T94.setTop (mkF m 19 #[.val (.ref r0), .val (.int (0 : Int32)), .val (.ref nb), .val (.ref b4), .val (.int (30 : Int32))] [])) (fun _ k => XS.goto X94.here hx rfl (pc0 := 42) (pc' := 19) rfl (hb hby d7_42) (by decide) (by decide) k) ?_
  refine own_go (G := T94.setTop (mkF m 21 #[.val (.ref r0), .val (.int (0 : Int32)), .val (.ref nb), .val (.ref b4), .val (.int (30 : Int32))] [(.int (30 : Int32))])) (fun _ k => XS.iload X94.here hx rfl (hb hby d7_19) rfl k) ?_
  refine own_go (G := T94.setTop (mkF m 22 #[.val (.ref r0), .val (.int (0 : Int32)), .val (.ref nb), .val (.ref b4), .val (.int (30 : Int32))] [(.ref nb), (.int (30 : Int32))])) (fun _ k => XS.aloadN X94.here hx rfl (hb hby d7_21) rfl rfl k) ?_
  obtain ⟨cl95, Ar95, -, S95, N95_, -, -⟩ := id V_nb_c94
  refine own_go (G := T94.setTop (mkF m 23 #[.val (.ref r0), .val (.int (0 : Int32)), .val (.ref nb), .val (.ref b4), .val (.int (30 : Int32))] [(.int (64 : Int32)), (.int (30 : Int32))])) (fun t k => X94.arraylength hx (by rw [e94]; exact Ar95.1) (State.isArrayOf_alike hZ.alike Ar95.2.1) (g := (mkF m 22 #[.val (.ref r0), .val (.int (0 : Int32)), .val (.ref nb), .val (.ref b4), .val (.int (30 : Int32))] [(.ref nb), (.int (30 : Int32))])) rfl rfl (hb hby d7_22) t (by rw [len_of S95 N95_]; exact k)) ?_
  refine own_go (G := T94.setTop (mkF m 26 #[.val (.ref r0), .val (.int (0 : Int32)), .val (.ref nb), .val (.ref b4), .val (.int (30 : Int32))] [])) (fun _ k => XS.icmpNo X94.here hx rfl (hb hby d7_23) rfl (tlt (by decide : (30 : Int32) < (64 : Int32))).2.1 k) ?_
  refine own_go (G := T94.setTop (mkF m 27 #[.val (.ref r0), .val (.int (0 : Int32)), .val (.ref nb), .val (.ref b4), .val (.int (30 : Int32))] [(.ref b4)])) (fun _ k => XS.aloadN X94.here hx rfl (hb hby d7_26) rfl rfl k) ?_
  refine own_go (G := T94.setTop (mkF m 29 #[.val (.ref r0), .val (.int (0 : Int32)), .val (.ref nb), .val (.ref b4), .val (.int (30 : Int32))] [(.int (30 : Int32)), (.ref b4)])) (fun _ k => XS.iload X94.here hx rfl (hb hby d7_27) rfl k) ?_
  refine own_go (G := T94.setTop (mkF m 30 #[.val (.ref r0), .val (.int (0 : Int32)), .val (.ref nb), .val (.ref b4), .val (.int (30 : Int32))] [(.ref nb), (.int (30 : Int32)), (.ref b4)])) (fun _ k => XS.aloadN X94.here hx rfl (hb hby d7_29) rfl rfl k) ?_
  refine own_go (G := T94.setTop (mkF m 32 #[.val (.ref r0), .val (.int (0 : Int32)), .val (.ref nb), .val (.ref b4), .val (.int (30 : Int32))] [(.int (30 : Int32)), (.ref nb), (.int (30 : Int32)), (.ref b4)])) (fun _ k => XS.iload X94.here hx rfl (hb hby d7_30) rfl k) ?_
  obtain ⟨cl96, Ar96, qk96, S96, N96_, Ha96, G96⟩ := id V_nb_c94
  have hin96 : ¬ ((30 : Int32) < 0 ∨ cl96.slots.size ≤ ((30 : Int32)).toNatClampNeg) := inb_of S96 ⟨by decide, by decide⟩
  have hat96 : cl96.slots[((30 : Int32)).toNatClampNeg]? = some (.int (0 : Int32)) := Ha96.at hin96 rfl
  refine own_go (G := T94.setTop (mkF m 33 #[.val (.ref r0), .val (.int (0 : Int32)), .val (.ref nb), .val (.ref b4), .val (.int (30 : Int32))] [(.int (0 : Int32)), (.int (30 : Int32)), (.ref b4)])) (X94.baloadBytes hx (j := (30 : Int32)) (v := (.int (0 : Int32))) (by rw [e94]; exact Ar96.1) (State.isArrayOf_alike hZ.alike Ar96.2.1) Ar96.2.2 hin96 hat96 (g := (mkF m 32 #[.val (.ref r0), .val (.int (0 : Int32)), .val (.ref nb), .val (.ref b4), .val (.int (30 : Int32))] [(.int (30 : Int32)), (.ref nb), (.int (30 : Int32)), (.ref b4)])) rfl rfl (hb hby d7_32)) ?_
  refine own_go (G := T94.setTop (mkF m 36 #[.val (.ref r0), .val (.int (0 : Int32)), .val (.ref nb), .val (.ref b4), .val (.int (30 : Int32))] [(.int (255 : Int32)), (.int (0 : Int32)), (.int (30 : Int32)), (.ref b4)])) (fun _ k => XS.sipush X94.here hx rfl (hb hby d7_33) k) ?_
  refine own_go (G := T94.setTop (mkF m 37 #[.val (.ref r0), .val (.int (0 : Int32)), .val (.ref nb), .val (.ref b4), .val (.int (30 : Int32))] [(.int ((0 : Int32) &&& (255 : Int32))), (.int (30 : Int32)), (.ref b4)])) (fun _ k => XS.iand X94.here hx rfl (hb hby d7_36) rfl k) ?_
  rw [show ((0 : Int32) &&& (255 : Int32)) = (0 : Int32) from by decide]
  refine own_go (G := T94.setTop (mkF m 38 #[.val (.ref r0), .val (.int (0 : Int32)), .val (.ref nb), .val (.ref b4), .val (.int (30 : Int32))] [(.int ((0 : Int32).toUInt32.toUInt16.toUInt32.toInt32)), (.int (30 : Int32)), (.ref b4)])) (fun _ k => XS.i2c X94.here hx rfl (hb hby d7_37) rfl k) ?_
  rw [show ((0 : Int32).toUInt32.toUInt16.toUInt32.toInt32) = (0 : Int32) from by decide]
  obtain ⟨cl97, Ar97, qk97, S97, N97_, Ha97, G97⟩ := id V94_b4
  have hin97 : ¬ ((30 : Int32) < 0 ∨ cl97.slots.size ≤ ((30 : Int32)).toNatClampNeg) := inb_of S97 ⟨by decide, by decide⟩
  obtain ⟨T97, h97, X97, e97, W97, st97⟩ := stC X94 hx hZ e94 Ar97 (j := (30 : Int32)) hin97 (g := (mkF m 38 #[.val (.ref r0), .val (.int (0 : Int32)), .val (.ref nb), .val (.ref b4), .val (.int (30 : Int32))] [(.int (0 : Int32)), (.int (30 : Int32)), (.ref b4)])) rfl rfl (hb hby d7_38)
  have V97_b4 : Arv Z h97 b4 k4 .char (64 : Int32) (own_B (nar .char ((x0 &&& (255 : Int32)).toUInt32.toUInt16.toUInt32.toInt32)) (nar .char ((x1 &&& (255 : Int32)).toUInt32.toUInt16.toUInt32.toInt32)) (nar .char ((x2 &&& (255 : Int32)).toUInt32.toUInt16.toUInt32.toInt32))) (.int (0 : Int32)) := Arv.set Ar97 qk97 S97 N97_ Ha97 G97 (fits_nar_char _) W97 30 rfl (Nat.le_of_ble_eq_true rfl)
  have E_r0_c97 : Exa Z h97 r0 "com/example/xrefloom/xrefloom/tree/CompactText" := E_r0_c94.wr W97
  have F_length_c97 : Fld Z h97 r0 "com/example/xrefloom/xrefloom/tree/CompactText" "length" "I" (.int len) := F_length_c94.other W97 (Or.inl ne_r0_b4)
  have F_narrow_c97 : Fld Z h97 r0 "com/example/xrefloom/xrefloom/tree/CompactText" "narrow" "[[B" (.ref na) := F_narrow_c94.other W97 (Or.inl ne_r0_b4)
  have F_wide_c97 : Fld Z h97 r0 "com/example/xrefloom/xrefloom/tree/CompactText" "wide" "[[C" (.ref wa) := F_wide_c94.other W97 (Or.inl ne_r0_b4)
  have V_na_c97 : Arv Z h97 na kn (.array .byte) (1 : Int32) [(.ref nb)] .null := V_na_c94.other W97 ne_na_b4
  have V_wa_c97 : Arv Z h97 wa kw (.array .char) (1 : Int32) [.null] .null := V_wa_c94.other W97 ne_wa_b4
  have V_nb_c97 : Arv Z h97 nb kb .byte (64 : Int32) (own_B x0 x1 x2) (.int (0 : Int32)) := V_nb_c94.other W97 ne_nb_b4
  have Ea4_c97 : Exa Z h97 b4 "[C" := Ea4_c94.wr W97
  have N97 := Fr.snoc X97 N94 gn_b4
  have Z97 : n0 ≤ h97.size := Nat.le_trans Z94 (Keep.of_wr W97).1
  refine own_go (G := T97.setTop (mkF m 39 #[.val (.ref r0), .val (.int (0 : Int32)), .val (.ref nb), .val (.ref b4), .val (.int (30 : Int32))] [])) (st97) ?_
  refine own_go (G := T97.setTop (mkF m 42 #[.val (.ref r0), .val (.int (0 : Int32)), .val (.ref nb), .val (.ref b4), .val (.int ((30 : Int32) + (1 : Int32)))] [])) (fun _ k => XS.iinc X97.here hx rfl (hb hby d7_39) rfl (l' := #[.val (.ref r0), .val (.int (0 : Int32)), .val (.ref nb), .val (.ref b4), .val (.int ((30 : Int32) + (1 : Int32)))]) rfl k) ?_
  rw [show ((30 : Int32) + (1 : Int32)) = (31 : Int32) from by decide]
  refine own_go (G := T97.setTop (mkF m 19 #[.val (.ref r0), .val (.int (0 : Int32)), .val (.ref nb), .val (.ref b4), .val (.int (31 : Int32))] [])) (fun _ k => XS.goto X97.here hx rfl (pc0 := 42) (pc' := 19) rfl (hb hby d7_42) (by decide) (by decide) k) ?_
  refine own_go (G := T97.setTop (mkF m 21 #[.val (.ref r0), .val (.int (0 : Int32)), .val (.ref nb), .val (.ref b4), .val (.int (31 : Int32))] [(.int (31 : Int32))])) (fun _ k => XS.iload X97.here hx rfl (hb hby d7_19) rfl k) ?_
  refine own_go (G := T97.setTop (mkF m 22 #[.val (.ref r0), .val (.int (0 : Int32)), .val (.ref nb), .val (.ref b4), .val (.int (31 : Int32))] [(.ref nb), (.int (31 : Int32))])) (fun _ k => XS.aloadN X97.here hx rfl (hb hby d7_21) rfl rfl k) ?_
  obtain ⟨cl98, Ar98, -, S98, N98_, -, -⟩ := id V_nb_c97
  refine own_go (G := T97.setTop (mkF m 23 #[.val (.ref r0), .val (.int (0 : Int32)), .val (.ref nb), .val (.ref b4), .val (.int (31 : Int32))] [(.int (64 : Int32)), (.int (31 : Int32))])) (fun t k => X97.arraylength hx (by rw [e97]; exact Ar98.1) (State.isArrayOf_alike hZ.alike Ar98.2.1) (g := (mkF m 22 #[.val (.ref r0), .val (.int (0 : Int32)), .val (.ref nb), .val (.ref b4), .val (.int (31 : Int32))] [(.ref nb), (.int (31 : Int32))])) rfl rfl (hb hby d7_22) t (by rw [len_of S98 N98_]; exact k)) ?_
  refine own_go (G := T97.setTop (mkF m 26 #[.val (.ref r0), .val (.int (0 : Int32)), .val (.ref nb), .val (.ref b4), .val (.int (31 : Int32))] [])) (fun _ k => XS.icmpNo X97.here hx rfl (hb hby d7_23) rfl (tlt (by decide : (31 : Int32) < (64 : Int32))).2.1 k) ?_
  refine own_go (G := T97.setTop (mkF m 27 #[.val (.ref r0), .val (.int (0 : Int32)), .val (.ref nb), .val (.ref b4), .val (.int (31 : Int32))] [(.ref b4)])) (fun _ k => XS.aloadN X97.here hx rfl (hb hby d7_26) rfl rfl k) ?_
  refine own_go (G := T97.setTop (mkF m 29 #[.val (.ref r0), .val (.int (0 : Int32)), .val (.ref nb), .val (.ref b4), .val (.int (31 : Int32))] [(.int (31 : Int32)), (.ref b4)])) (fun _ k => XS.iload X97.here hx rfl (hb hby d7_27) rfl k) ?_
  refine own_go (G := T97.setTop (mkF m 30 #[.val (.ref r0), .val (.int (0 : Int32)), .val (.ref nb), .val (.ref b4), .val (.int (31 : Int32))] [(.ref nb), (.int (31 : Int32)), (.ref b4)])) (fun _ k => XS.aloadN X97.here hx rfl (hb hby d7_29) rfl rfl k) ?_
  refine own_go (G := T97.setTop (mkF m 32 #[.val (.ref r0), .val (.int (0 : Int32)), .val (.ref nb), .val (.ref b4), .val (.int (31 : Int32))] [(.int (31 : Int32)), (.ref nb), (.int (31 : Int32)), (.ref b4)])) (fun _ k => XS.iload X97.here hx rfl (hb hby d7_30) rfl k) ?_
  obtain ⟨cl99, Ar99, qk99, S99, N99_, Ha99, G99⟩ := id V_nb_c97
  have hin99 : ¬ ((31 : Int32) < 0 ∨ cl99.slots.size ≤ ((31 : Int32)).toNatClampNeg) := inb_of S99 ⟨by decide, by decide⟩
  have hat99 : cl99.slots[((31 : Int32)).toNatClampNeg]? = some (.int (0 : Int32)) := Ha99.at hin99 rfl
  refine own_go (G := T97.setTop (mkF m 33 #[.val (.ref r0), .val (.int (0 : Int32)), .val (.ref nb), .val (.ref b4), .val (.int (31 : Int32))] [(.int (0 : Int32)), (.int (31 : Int32)), (.ref b4)])) (X97.baloadBytes hx (j := (31 : Int32)) (v := (.int (0 : Int32))) (by rw [e97]; exact Ar99.1) (State.isArrayOf_alike hZ.alike Ar99.2.1) Ar99.2.2 hin99 hat99 (g := (mkF m 32 #[.val (.ref r0), .val (.int (0 : Int32)), .val (.ref nb), .val (.ref b4), .val (.int (31 : Int32))] [(.int (31 : Int32)), (.ref nb), (.int (31 : Int32)), (.ref b4)])) rfl rfl (hb hby d7_32)) ?_
  refine own_go (G := T97.setTop (mkF m 36 #[.val (.ref r0), .val (.int (0 : Int32)), .val (.ref nb), .val (.ref b4), .val (.int (31 : Int32))] [(.int (255 : Int32)), (.int (0 : Int32)), (.int (31 : Int32)), (.ref b4)])) (fun _ k => XS.sipush X97.here hx rfl (hb hby d7_33) k) ?_
  refine own_go (G := T97.setTop (mkF m 37 #[.val (.ref r0), .val (.int (0 : Int32)), .val (.ref nb), .val (.ref b4), .val (.int (31 : Int32))] [(.int ((0 : Int32) &&& (255 : Int32))), (.int (31 : Int32)), (.ref b4)])) (fun _ k => XS.iand X97.here hx rfl (hb hby d7_36) rfl k) ?_
  rw [show ((0 : Int32) &&& (255 : Int32)) = (0 : Int32) from by decide]
  refine own_go (G := T97.setTop (mkF m 38 #[.val (.ref r0), .val (.int (0 : Int32)), .val (.ref nb), .val (.ref b4), .val (.int (31 : Int32))] [(.int ((0 : Int32).toUInt32.toUInt16.toUInt32.toInt32)), (.int (31 : Int32)), (.ref b4)])) (fun _ k => XS.i2c X97.here hx rfl (hb hby d7_37) rfl k) ?_
  rw [show ((0 : Int32).toUInt32.toUInt16.toUInt32.toInt32) = (0 : Int32) from by decide]
  obtain ⟨cl100, Ar100, qk100, S100, N100_, Ha100, G100⟩ := id V97_b4
  have hin100 : ¬ ((31 : Int32) < 0 ∨ cl100.slots.size ≤ ((31 : Int32)).toNatClampNeg) := inb_of S100 ⟨by decide, by decide⟩
  obtain ⟨T100, h100, X100, e100, W100, st100⟩ := stC X97 hx hZ e97 Ar100 (j := (31 : Int32)) hin100 (g := (mkF m 38 #[.val (.ref r0), .val (.int (0 : Int32)), .val (.ref nb), .val (.ref b4), .val (.int (31 : Int32))] [(.int (0 : Int32)), (.int (31 : Int32)), (.ref b4)])) rfl rfl (hb hby d7_38)
  have V100_b4 : Arv Z h100 b4 k4 .char (64 : Int32) (own_B (nar .char ((x0 &&& (255 : Int32)).toUInt32.toUInt16.toUInt32.toInt32)) (nar .char ((x1 &&& (255 : Int32)).toUInt32.toUInt16.toUInt32.toInt32)) (nar .char ((x2 &&& (255 : Int32)).toUInt32.toUInt16.toUInt32.toInt32))) (.int (0 : Int32)) := Arv.set Ar100 qk100 S100 N100_ Ha100 G100 (fits_nar_char _) W100 31 rfl (Nat.le_of_ble_eq_true rfl)
  have E_r0_c100 : Exa Z h100 r0 "com/example/xrefloom/xrefloom/tree/CompactText" := E_r0_c97.wr W100
  have F_length_c100 : Fld Z h100 r0 "com/example/xrefloom/xrefloom/tree/CompactText" "length" "I" (.int len) := F_length_c97.other W100 (Or.inl ne_r0_b4)
  have F_narrow_c100 : Fld Z h100 r0 "com/example/xrefloom/xrefloom/tree/CompactText" "narrow" "[[B" (.ref na) := F_narrow_c97.other W100 (Or.inl ne_r0_b4)
  have F_wide_c100 : Fld Z h100 r0 "com/example/xrefloom/xrefloom/tree/CompactText" "wide" "[[C" (.ref wa) := F_wide_c97.other W100 (Or.inl ne_r0_b4)
  have V_na_c100 : Arv Z h100 na kn (.array .byte) (1 : Int32) [(.ref nb)] .null := V_na_c97.other W100 ne_na_b4
  have V_wa_c100 : Arv Z h100 wa kw (.array .char) (1 : Int32) [.null] .null := V_wa_c97.other W100 ne_wa_b4
  have V_nb_c100 : Arv Z h100 nb kb .byte (64 : Int32) (own_B x0 x1 x2) (.int (0 : Int32)) := V_nb_c97.other W100 ne_nb_b4
  have Ea4_c100 : Exa Z h100 b4 "[C" := Ea4_c97.wr W100
  have N100 := Fr.snoc X100 N97 gn_b4
  have Z100 : n0 ≤ h100.size := Nat.le_trans Z97 (Keep.of_wr W100).1
  refine own_go (G := T100.setTop (mkF m 39 #[.val (.ref r0), .val (.int (0 : Int32)), .val (.ref nb), .val (.ref b4), .val (.int (31 : Int32))] [])) (st100) ?_
  refine own_go (G := T100.setTop (mkF m 42 #[.val (.ref r0), .val (.int (0 : Int32)), .val (.ref nb), .val (.ref b4), .val (.int ((31 : Int32) + (1 : Int32)))] [])) (fun _ k => XS.iinc X100.here hx rfl (hb hby d7_39) rfl (l' := #[.val (.ref r0), .val (.int (0 : Int32)), .val (.ref nb), .val (.ref b4), .val (.int ((31 : Int32) + (1 : Int32)))]) rfl k) ?_
  rw [show ((31 : Int32) + (1 : Int32)) = (32 : Int32) from by decide]
  refine own_go (G := T100.setTop (mkF m 19 #[.val (.ref r0), .val (.int (0 : Int32)), .val (.ref nb), .val (.ref b4), .val (.int (32 : Int32))] [])) (fun _ k => XS.goto X100.here hx rfl (pc0 := 42) (pc' := 19) rfl (hb hby d7_42) (by decide) (by decide) k) ?_
  refine own_go (G := T100.setTop (mkF m 21 #[.val (.ref r0), .val (.int (0 : Int32)), .val (.ref nb), .val (.ref b4), .val (.int (32 : Int32))] [(.int (32 : Int32))])) (fun _ k => XS.iload X100.here hx rfl (hb hby d7_19) rfl k) ?_
  refine own_go (G := T100.setTop (mkF m 22 #[.val (.ref r0), .val (.int (0 : Int32)), .val (.ref nb), .val (.ref b4), .val (.int (32 : Int32))] [(.ref nb), (.int (32 : Int32))])) (fun _ k => XS.aloadN X100.here hx rfl (hb hby d7_21) rfl rfl k) ?_
  obtain ⟨cl101, Ar101, -, S101, N101_, -, -⟩ := id V_nb_c100
  refine own_go (G := T100.setTop (mkF m 23 #[.val (.ref r0), .val (.int (0 : Int32)), .val (.ref nb), .val (.ref b4), .val (.int (32 : Int32))] [(.int (64 : Int32)), (.int (32 : Int32))])) (fun t k => X100.arraylength hx (by rw [e100]; exact Ar101.1) (State.isArrayOf_alike hZ.alike Ar101.2.1) (g := (mkF m 22 #[.val (.ref r0), .val (.int (0 : Int32)), .val (.ref nb), .val (.ref b4), .val (.int (32 : Int32))] [(.ref nb), (.int (32 : Int32))])) rfl rfl (hb hby d7_22) t (by rw [len_of S101 N101_]; exact k)) ?_
  refine own_go (G := T100.setTop (mkF m 26 #[.val (.ref r0), .val (.int (0 : Int32)), .val (.ref nb), .val (.ref b4), .val (.int (32 : Int32))] [])) (fun _ k => XS.icmpNo X100.here hx rfl (hb hby d7_23) rfl (tlt (by decide : (32 : Int32) < (64 : Int32))).2.1 k) ?_
  refine own_go (G := T100.setTop (mkF m 27 #[.val (.ref r0), .val (.int (0 : Int32)), .val (.ref nb), .val (.ref b4), .val (.int (32 : Int32))] [(.ref b4)])) (fun _ k => XS.aloadN X100.here hx rfl (hb hby d7_26) rfl rfl k) ?_
  refine own_go (G := T100.setTop (mkF m 29 #[.val (.ref r0), .val (.int (0 : Int32)), .val (.ref nb), .val (.ref b4), .val (.int (32 : Int32))] [(.int (32 : Int32)), (.ref b4)])) (fun _ k => XS.iload X100.here hx rfl (hb hby d7_27) rfl k) ?_
  refine own_go (G := T100.setTop (mkF m 30 #[.val (.ref r0), .val (.int (0 : Int32)), .val (.ref nb), .val (.ref b4), .val (.int (32 : Int32))] [(.ref nb), (.int (32 : Int32)), (.ref b4)])) (fun _ k => XS.aloadN X100.here hx rfl (hb hby d7_29) rfl rfl k) ?_
  refine own_go (G := T100.setTop (mkF m 32 #[.val (.ref r0), .val (.int (0 : Int32)), .val (.ref nb), .val (.ref b4), .val (.int (32 : Int32))] [(.int (32 : Int32)), (.ref nb), (.int (32 : Int32)), (.ref b4)])) (fun _ k => XS.iload X100.here hx rfl (hb hby d7_30) rfl k) ?_
  obtain ⟨cl102, Ar102, qk102, S102, N102_, Ha102, G102⟩ := id V_nb_c100
  have hin102 : ¬ ((32 : Int32) < 0 ∨ cl102.slots.size ≤ ((32 : Int32)).toNatClampNeg) := inb_of S102 ⟨by decide, by decide⟩
  have hat102 : cl102.slots[((32 : Int32)).toNatClampNeg]? = some (.int (0 : Int32)) := Ha102.at hin102 rfl
  refine own_go (G := T100.setTop (mkF m 33 #[.val (.ref r0), .val (.int (0 : Int32)), .val (.ref nb), .val (.ref b4), .val (.int (32 : Int32))] [(.int (0 : Int32)), (.int (32 : Int32)), (.ref b4)])) (X100.baloadBytes hx (j := (32 : Int32)) (v := (.int (0 : Int32))) (by rw [e100]; exact Ar102.1) (State.isArrayOf_alike hZ.alike Ar102.2.1) Ar102.2.2 hin102 hat102 (g := (mkF m 32 #[.val (.ref r0), .val (.int (0 : Int32)), .val (.ref nb), .val (.ref b4), .val (.int (32 : Int32))] [(.int (32 : Int32)), (.ref nb), (.int (32 : Int32)), (.ref b4)])) rfl rfl (hb hby d7_32)) ?_
  refine own_go (G := T100.setTop (mkF m 36 #[.val (.ref r0), .val (.int (0 : Int32)), .val (.ref nb), .val (.ref b4), .val (.int (32 : Int32))] [(.int (255 : Int32)), (.int (0 : Int32)), (.int (32 : Int32)), (.ref b4)])) (fun _ k => XS.sipush X100.here hx rfl (hb hby d7_33) k) ?_
  refine own_go (G := T100.setTop (mkF m 37 #[.val (.ref r0), .val (.int (0 : Int32)), .val (.ref nb), .val (.ref b4), .val (.int (32 : Int32))] [(.int ((0 : Int32) &&& (255 : Int32))), (.int (32 : Int32)), (.ref b4)])) (fun _ k => XS.iand X100.here hx rfl (hb hby d7_36) rfl k) ?_
  rw [show ((0 : Int32) &&& (255 : Int32)) = (0 : Int32) from by decide]
  refine own_go (G := T100.setTop (mkF m 38 #[.val (.ref r0), .val (.int (0 : Int32)), .val (.ref nb), .val (.ref b4), .val (.int (32 : Int32))] [(.int ((0 : Int32).toUInt32.toUInt16.toUInt32.toInt32)), (.int (32 : Int32)), (.ref b4)])) (fun _ k => XS.i2c X100.here hx rfl (hb hby d7_37) rfl k) ?_
  rw [show ((0 : Int32).toUInt32.toUInt16.toUInt32.toInt32) = (0 : Int32) from by decide]
  obtain ⟨cl103, Ar103, qk103, S103, N103_, Ha103, G103⟩ := id V100_b4
  have hin103 : ¬ ((32 : Int32) < 0 ∨ cl103.slots.size ≤ ((32 : Int32)).toNatClampNeg) := inb_of S103 ⟨by decide, by decide⟩
  obtain ⟨T103, h103, X103, e103, W103, st103⟩ := stC X100 hx hZ e100 Ar103 (j := (32 : Int32)) hin103 (g := (mkF m 38 #[.val (.ref r0), .val (.int (0 : Int32)), .val (.ref nb), .val (.ref b4), .val (.int (32 : Int32))] [(.int (0 : Int32)), (.int (32 : Int32)), (.ref b4)])) rfl rfl (hb hby d7_38)
  have V103_b4 : Arv Z h103 b4 k4 .char (64 : Int32) (own_B (nar .char ((x0 &&& (255 : Int32)).toUInt32.toUInt16.toUInt32.toInt32)) (nar .char ((x1 &&& (255 : Int32)).toUInt32.toUInt16.toUInt32.toInt32)) (nar .char ((x2 &&& (255 : Int32)).toUInt32.toUInt16.toUInt32.toInt32))) (.int (0 : Int32)) := Arv.set Ar103 qk103 S103 N103_ Ha103 G103 (fits_nar_char _) W103 32 rfl (Nat.le_of_ble_eq_true rfl)
  have E_r0_c103 : Exa Z h103 r0 "com/example/xrefloom/xrefloom/tree/CompactText" := E_r0_c100.wr W103
  have F_length_c103 : Fld Z h103 r0 "com/example/xrefloom/xrefloom/tree/CompactText" "length" "I" (.int len) := F_length_c100.other W103 (Or.inl ne_r0_b4)
  have F_narrow_c103 : Fld Z h103 r0 "com/example/xrefloom/xrefloom/tree/CompactText" "narrow" "[[B" (.ref na) := F_narrow_c100.other W103 (Or.inl ne_r0_b4)
  have F_wide_c103 : Fld Z h103 r0 "com/example/xrefloom/xrefloom/tree/CompactText" "wide" "[[C" (.ref wa) := F_wide_c100.other W103 (Or.inl ne_r0_b4)
  have V_na_c103 : Arv Z h103 na kn (.array .byte) (1 : Int32) [(.ref nb)] .null := V_na_c100.other W103 ne_na_b4
  have V_wa_c103 : Arv Z h103 wa kw (.array .char) (1 : Int32) [.null] .null := V_wa_c100.other W103 ne_wa_b4
  have V_nb_c103 : Arv Z h103 nb kb .byte (64 : Int32) (own_B x0 x1 x2) (.int (0 : Int32)) := V_nb_c100.other W103 ne_nb_b4
  have Ea4_c103 : Exa Z h103 b4 "[C" := Ea4_c100.wr W103
  have N103 := Fr.snoc X103 N100 gn_b4
  have Z103 : n0 ≤ h103.size := Nat.le_trans Z100 (Keep.of_wr W103).1
  refine own_go (G := T103.setTop (mkF m 39 #[.val (.ref r0), .val (.int (0 : Int32)), .val (.ref nb), .val (.ref b4), .val (.int (32 : Int32))] [])) (st103) ?_
  refine own_go (G := T103.setTop (mkF m 42 #[.val (.ref r0), .val (.int (0 : Int32)), .val (.ref nb), .val (.ref b4), .val (.int ((32 : Int32) + (1 : Int32)))] [])) (fun _ k => XS.iinc X103.here hx rfl (hb hby d7_39) rfl (l' := #[.val (.ref r0), .val (.int (0 : Int32)), .val (.ref nb), .val (.ref b4), .val (.int ((32 : Int32) + (1 : Int32)))]) rfl k) ?_
  rw [show ((32 : Int32) + (1 : Int32)) = (33 : Int32) from by decide]
  refine own_go (G := T103.setTop (mkF m 19 #[.val (.ref r0), .val (.int (0 : Int32)), .val (.ref nb), .val (.ref b4), .val (.int (33 : Int32))] [])) (fun _ k => XS.goto X103.here hx rfl (pc0 := 42) (pc' := 19) rfl (hb hby d7_42) (by decide) (by decide) k) ?_
  refine own_go (G := T103.setTop (mkF m 21 #[.val (.ref r0), .val (.int (0 : Int32)), .val (.ref nb), .val (.ref b4), .val (.int (33 : Int32))] [(.int (33 : Int32))])) (fun _ k => XS.iload X103.here hx rfl (hb hby d7_19) rfl k) ?_
  refine own_go (G := T103.setTop (mkF m 22 #[.val (.ref r0), .val (.int (0 : Int32)), .val (.ref nb), .val (.ref b4), .val (.int (33 : Int32))] [(.ref nb), (.int (33 : Int32))])) (fun _ k => XS.aloadN X103.here hx rfl (hb hby d7_21) rfl rfl k) ?_
  obtain ⟨cl104, Ar104, -, S104, N104_, -, -⟩ := id V_nb_c103
  refine own_go (G := T103.setTop (mkF m 23 #[.val (.ref r0), .val (.int (0 : Int32)), .val (.ref nb), .val (.ref b4), .val (.int (33 : Int32))] [(.int (64 : Int32)), (.int (33 : Int32))])) (fun t k => X103.arraylength hx (by rw [e103]; exact Ar104.1) (State.isArrayOf_alike hZ.alike Ar104.2.1) (g := (mkF m 22 #[.val (.ref r0), .val (.int (0 : Int32)), .val (.ref nb), .val (.ref b4), .val (.int (33 : Int32))] [(.ref nb), (.int (33 : Int32))])) rfl rfl (hb hby d7_22) t (by rw [len_of S104 N104_]; exact k)) ?_
  refine own_go (G := T103.setTop (mkF m 26 #[.val (.ref r0), .val (.int (0 : Int32)), .val (.ref nb), .val (.ref b4), .val (.int (33 : Int32))] [])) (fun _ k => XS.icmpNo X103.here hx rfl (hb hby d7_23) rfl (tlt (by decide : (33 : Int32) < (64 : Int32))).2.1 k) ?_
  refine own_go (G := T103.setTop (mkF m 27 #[.val (.ref r0), .val (.int (0 : Int32)), .val (.ref nb), .val (.ref b4), .val (.int (33 : Int32))] [(.ref b4)])) (fun _ k => XS.aloadN X103.here hx rfl (hb hby d7_26) rfl rfl k) ?_
  refine own_go (G := T103.setTop (mkF m 29 #[.val (.ref r0), .val (.int (0 : Int32)), .val (.ref nb), .val (.ref b4), .val (.int (33 : Int32))] [(.int (33 : Int32)), (.ref b4)])) (fun _ k => XS.iload X103.here hx rfl (hb hby d7_27) rfl k) ?_
  refine own_go (G := T103.setTop (mkF m 30 #[.val (.ref r0), .val (.int (0 : Int32)), .val (.ref nb), .val (.ref b4), .val (.int (33 : Int32))] [(.ref nb), (.int (33 : Int32)), (.ref b4)])) (fun _ k => XS.aloadN X103.here hx rfl (hb hby d7_29) rfl rfl k) ?_
  refine own_go (G := T103.setTop (mkF m 32 #[.val (.ref r0), .val (.int (0 : Int32)), .val (.ref nb), .val (.ref b4), .val (.int (33 : Int32))] [(.int (33 : Int32)), (.ref nb), (.int (33 : Int32)), (.ref b4)])) (fun _ k => XS.iload X103.here hx rfl (hb hby d7_30) rfl k) ?_
  obtain ⟨cl105, Ar105, qk105, S105, N105_, Ha105, G105⟩ := id V_nb_c103
  have hin105 : ¬ ((33 : Int32) < 0 ∨ cl105.slots.size ≤ ((33 : Int32)).toNatClampNeg) := inb_of S105 ⟨by decide, by decide⟩
  have hat105 : cl105.slots[((33 : Int32)).toNatClampNeg]? = some (.int (0 : Int32)) := Ha105.at hin105 rfl
  refine own_go (G := T103.setTop (mkF m 33 #[.val (.ref r0), .val (.int (0 : Int32)), .val (.ref nb), .val (.ref b4), .val (.int (33 : Int32))] [(.int (0 : Int32)), (.int (33 : Int32)), (.ref b4)])) (X103.baloadBytes hx (j := (33 : Int32)) (v := (.int (0 : Int32))) (by rw [e103]; exact Ar105.1) (State.isArrayOf_alike hZ.alike Ar105.2.1) Ar105.2.2 hin105 hat105 (g := (mkF m 32 #[.val (.ref r0), .val (.int (0 : Int32)), .val (.ref nb), .val (.ref b4), .val (.int (33 : Int32))] [(.int (33 : Int32)), (.ref nb), (.int (33 : Int32)), (.ref b4)])) rfl rfl (hb hby d7_32)) ?_
  refine own_go (G := T103.setTop (mkF m 36 #[.val (.ref r0), .val (.int (0 : Int32)), .val (.ref nb), .val (.ref b4), .val (.int (33 : Int32))] [(.int (255 : Int32)), (.int (0 : Int32)), (.int (33 : Int32)), (.ref b4)])) (fun _ k => XS.sipush X103.here hx rfl (hb hby d7_33) k) ?_
  refine own_go (G := T103.setTop (mkF m 37 #[.val (.ref r0), .val (.int (0 : Int32)), .val (.ref nb), .val (.ref b4), .val (.int (33 : Int32))] [(.int ((0 : Int32) &&& (255 : Int32))), (.int (33 : Int32)), (.ref b4)])) (fun _ k => XS.iand X103.here hx rfl (hb hby d7_36) rfl k) ?_
  rw [show ((0 : Int32) &&& (255 : Int32)) = (0 : Int32) from by decide]
  refine own_go (G := T103.setTop (mkF m 38 #[.val (.ref r0), .val (.int (0 : Int32)), .val (.ref nb), .val (.ref b4), .val (.int (33 : Int32))] [(.int ((0 : Int32).toUInt32.toUInt16.toUInt32.toInt32)), (.int (33 : Int32)), (.ref b4)])) (fun _ k => XS.i2c X103.here hx rfl (hb hby d7_37) rfl k) ?_
  rw [show ((0 : Int32).toUInt32.toUInt16.toUInt32.toInt32) = (0 : Int32) from by decide]
  obtain ⟨cl106, Ar106, qk106, S106, N106_, Ha106, G106⟩ := id V103_b4
  have hin106 : ¬ ((33 : Int32) < 0 ∨ cl106.slots.size ≤ ((33 : Int32)).toNatClampNeg) := inb_of S106 ⟨by decide, by decide⟩
  obtain ⟨T106, h106, X106, e106, W106, st106⟩ := stC X103 hx hZ e103 Ar106 (j := (33 : Int32)) hin106 (g := (mkF m 38 #[.val (.ref r0), .val (.int (0 : Int32)), .val (.ref nb), .val (.ref b4), .val (.int (33 : Int32))] [(.int (0 : Int32)), (.int (33 : Int32)), (.ref b4)])) rfl rfl (hb hby d7_38)
  have V106_b4 : Arv Z h106 b4 k4 .char (64 : Int32) (own_B (nar .char ((x0 &&& (255 : Int32)).toUInt32.toUInt16.toUInt32.toInt32)) (nar .char ((x1 &&& (255 : Int32)).toUInt32.toUInt16.toUInt32.toInt32)) (nar .char ((x2 &&& (255 : Int32)).toUInt32.toUInt16.toUInt32.toInt32))) (.int (0 : Int32)) := Arv.set Ar106 qk106 S106 N106_ Ha106 G106 (fits_nar_char _) W106 33 rfl (Nat.le_of_ble_eq_true rfl)
  have E_r0_c106 : Exa Z h106 r0 "com/example/xrefloom/xrefloom/tree/CompactText" := E_r0_c103.wr W106
  have F_length_c106 : Fld Z h106 r0 "com/example/xrefloom/xrefloom/tree/CompactText" "length" "I" (.int len) := F_length_c103.other W106 (Or.inl ne_r0_b4)
  have F_narrow_c106 : Fld Z h106 r0 "com/example/xrefloom/xrefloom/tree/CompactText" "narrow" "[[B" (.ref na) := F_narrow_c103.other W106 (Or.inl ne_r0_b4)
  have F_wide_c106 : Fld Z h106 r0 "com/example/xrefloom/xrefloom/tree/CompactText" "wide" "[[C" (.ref wa) := F_wide_c103.other W106 (Or.inl ne_r0_b4)
  have V_na_c106 : Arv Z h106 na kn (.array .byte) (1 : Int32) [(.ref nb)] .null := V_na_c103.other W106 ne_na_b4
  have V_wa_c106 : Arv Z h106 wa kw (.array .char) (1 : Int32) [.null] .null := V_wa_c103.other W106 ne_wa_b4
  have V_nb_c106 : Arv Z h106 nb kb .byte (64 : Int32) (own_B x0 x1 x2) (.int (0 : Int32)) := V_nb_c103.other W106 ne_nb_b4
  have Ea4_c106 : Exa Z h106 b4 "[C" := Ea4_c103.wr W106
  have N106 := Fr.snoc X106 N103 gn_b4
  have Z106 : n0 ≤ h106.size := Nat.le_trans Z103 (Keep.of_wr W106).1
  refine own_go (G := T106.setTop (mkF m 39 #[.val (.ref r0), .val (.int (0 : Int32)), .val (.ref nb), .val (.ref b4), .val (.int (33 : Int32))] [])) (st106) ?_
  refine own_go (G := T106.setTop (mkF m 42 #[.val (.ref r0), .val (.int (0 : Int32)), .val (.ref nb), .val (.ref b4), .val (.int ((33 : Int32) + (1 : Int32)))] [])) (fun _ k => XS.iinc X106.here hx rfl (hb hby d7_39) rfl (l' := #[.val (.ref r0), .val (.int (0 : Int32)), .val (.ref nb), .val (.ref b4), .val (.int ((33 : Int32) + (1 : Int32)))]) rfl k) ?_
  rw [show ((33 : Int32) + (1 : Int32)) = (34 : Int32) from by decide]
  refine own_go (G := T106.setTop (mkF m 19 #[.val (.ref r0), .val (.int (0 : Int32)), .val (.ref nb), .val (.ref b4), .val (.int (34 : Int32))] [])) (fun _ k => XS.goto X106.here hx rfl (pc0 := 42) (pc' := 19) rfl (hb hby d7_42) (by decide) (by decide) k) ?_
  refine own_go (G := T106.setTop (mkF m 21 #[.val (.ref r0), .val (.int (0 : Int32)), .val (.ref nb), .val (.ref b4), .val (.int (34 : Int32))] [(.int (34 : Int32))])) (fun _ k => XS.iload X106.here hx rfl (hb hby d7_19) rfl k) ?_
  refine own_go (G := T106.setTop (mkF m 22 #[.val (.ref r0), .val (.int (0 : Int32)), .val (.ref nb), .val (.ref b4), .val (.int (34 : Int32))] [(.ref nb), (.int (34 : Int32))])) (fun _ k => XS.aloadN X106.here hx rfl (hb hby d7_21) rfl rfl k) ?_
  obtain ⟨cl107, Ar107, -, S107, N107_, -, -⟩ := id V_nb_c106
  refine own_go (G := T106.setTop (mkF m 23 #[.val (.ref r0), .val (.int (0 : Int32)), .val (.ref nb), .val (.ref b4), .val (.int (34 : Int32))] [(.int (64 : Int32)), (.int (34 : Int32))])) (fun t k => X106.arraylength hx (by rw [e106]; exact Ar107.1) (State.isArrayOf_alike hZ.alike Ar107.2.1) (g := (mkF m 22 #[.val (.ref r0), .val (.int (0 : Int32)), .val (.ref nb), .val (.ref b4), .val (.int (34 : Int32))] [(.ref nb), (.int (34 : Int32))])) rfl rfl (hb hby d7_22) t (by rw [len_of S107 N107_]; exact k)) ?_
  refine own_go (G := T106.setTop (mkF m 26 #[.val (.ref r0), .val (.int (0 : Int32)), .val (.ref nb), .val (.ref b4), .val (.int (34 : Int32))] [])) (fun _ k => XS.icmpNo X106.here hx rfl (hb hby d7_23) rfl (tlt (by decide : (34 : Int32) < (64 : Int32))).2.1 k) ?_
  refine own_go (G := T106.setTop (mkF m 27 #[.val (.ref r0), .val (.int (0 : Int32)), .val (.ref nb), .val (.ref b4), .val (.int (34 : Int32))] [(.ref b4)])) (fun _ k => XS.aloadN X106.here hx rfl (hb hby d7_26) rfl rfl k) ?_
  refine own_go (G := T106.setTop (mkF m 29 #[.val (.ref r0), .val (.int (0 : Int32)), .val (.ref nb), .val (.ref b4), .val (.int (34 : Int32))] [(.int (34 : Int32)), (.ref b4)])) (fun _ k => XS.iload X106.here hx rfl (hb hby d7_27) rfl k) ?_
  refine own_go (G := T106.setTop (mkF m 30 #[.val (.ref r0), .val (.int (0 : Int32)), .val (.ref nb), .val (.ref b4), .val (.int (34 : Int32))] [(.ref nb), (.int (34 : Int32)), (.ref b4)])) (fun _ k => XS.aloadN X106.here hx rfl (hb hby d7_29) rfl rfl k) ?_
  refine own_go (G := T106.setTop (mkF m 32 #[.val (.ref r0), .val (.int (0 : Int32)), .val (.ref nb), .val (.ref b4), .val (.int (34 : Int32))] [(.int (34 : Int32)), (.ref nb), (.int (34 : Int32)), (.ref b4)])) (fun _ k => XS.iload X106.here hx rfl (hb hby d7_30) rfl k) ?_
  obtain ⟨cl108, Ar108, qk108, S108, N108_, Ha108, G108⟩ := id V_nb_c106
  have hin108 : ¬ ((34 : Int32) < 0 ∨ cl108.slots.size ≤ ((34 : Int32)).toNatClampNeg) := inb_of S108 ⟨by decide, by decide⟩
  have hat108 : cl108.slots[((34 : Int32)).toNatClampNeg]? = some (.int (0 : Int32)) := Ha108.at hin108 rfl
  refine own_go (G := T106.setTop (mkF m 33 #[.val (.ref r0), .val (.int (0 : Int32)), .val (.ref nb), .val (.ref b4), .val (.int (34 : Int32))] [(.int (0 : Int32)), (.int (34 : Int32)), (.ref b4)])) (X106.baloadBytes hx (j := (34 : Int32)) (v := (.int (0 : Int32))) (by rw [e106]; exact Ar108.1) (State.isArrayOf_alike hZ.alike Ar108.2.1) Ar108.2.2 hin108 hat108 (g := (mkF m 32 #[.val (.ref r0), .val (.int (0 : Int32)), .val (.ref nb), .val (.ref b4), .val (.int (34 : Int32))] [(.int (34 : Int32)), (.ref nb), (.int (34 : Int32)), (.ref b4)])) rfl rfl (hb hby d7_32)) ?_
  refine own_go (G := T106.setTop (mkF m 36 #[.val (.ref r0), .val (.int (0 : Int32)), .val (.ref nb), .val (.ref b4), .val (.int (34 : Int32))] [(.int (255 : Int32)), (.int (0 : Int32)), (.int (34 : Int32)), (.ref b4)])) (fun _ k => XS.sipush X106.here hx rfl (hb hby d7_33) k) ?_
  refine own_go (G := T106.setTop (mkF m 37 #[.val (.ref r0), .val (.int (0 : Int32)), .val (.ref nb), .val (.ref b4), .val (.int (34 : Int32))] [(.int ((0 : Int32) &&& (255 : Int32))), (.int (34 : Int32)), (.ref b4)])) (fun _ k => XS.iand X106.here hx rfl (hb hby d7_36) rfl k) ?_
  rw [show ((0 : Int32) &&& (255 : Int32)) = (0 : Int32) from by decide]
  refine own_go (G := T106.setTop (mkF m 38 #[.val (.ref r0), .val (.int (0 : Int32)), .val (.ref nb), .val (.ref b4), .val (.int (34 : Int32))] [(.int ((0 : Int32).toUInt32.toUInt16.toUInt32.toInt32)), (.int (34 : Int32)), (.ref b4)])) (fun _ k => XS.i2c X106.here hx rfl (hb hby d7_37) rfl k) ?_
  rw [show ((0 : Int32).toUInt32.toUInt16.toUInt32.toInt32) = (0 : Int32) from by decide]
  obtain ⟨cl109, Ar109, qk109, S109, N109_, Ha109, G109⟩ := id V106_b4
  have hin109 : ¬ ((34 : Int32) < 0 ∨ cl109.slots.size ≤ ((34 : Int32)).toNatClampNeg) := inb_of S109 ⟨by decide, by decide⟩
  obtain ⟨T109, h109, X109, e109, W109, st109⟩ := stC X106 hx hZ e106 Ar109 (j := (34 : Int32)) hin109 (g := (mkF m 38 #[.val (.ref r0), .val (.int (0 : Int32)), .val (.ref nb), .val (.ref b4), .val (.int (34 : Int32))] [(.int (0 : Int32)), (.int (34 : Int32)), (.ref b4)])) rfl rfl (hb hby d7_38)
  have V109_b4 : Arv Z h109 b4 k4 .char (64 : Int32) (own_B (nar .char ((x0 &&& (255 : Int32)).toUInt32.toUInt16.toUInt32.toInt32)) (nar .char ((x1 &&& (255 : Int32)).toUInt32.toUInt16.toUInt32.toInt32)) (nar .char ((x2 &&& (255 : Int32)).toUInt32.toUInt16.toUInt32.toInt32))) (.int (0 : Int32)) := Arv.set Ar109 qk109 S109 N109_ Ha109 G109 (fits_nar_char _) W109 34 rfl (Nat.le_of_ble_eq_true rfl)
  have E_r0_c109 : Exa Z h109 r0 "com/example/xrefloom/xrefloom/tree/CompactText" := E_r0_c106.wr W109
  have F_length_c109 : Fld Z h109 r0 "com/example/xrefloom/xrefloom/tree/CompactText" "length" "I" (.int len) := F_length_c106.other W109 (Or.inl ne_r0_b4)
  have F_narrow_c109 : Fld Z h109 r0 "com/example/xrefloom/xrefloom/tree/CompactText" "narrow" "[[B" (.ref na) := F_narrow_c106.other W109 (Or.inl ne_r0_b4)
  have F_wide_c109 : Fld Z h109 r0 "com/example/xrefloom/xrefloom/tree/CompactText" "wide" "[[C" (.ref wa) := F_wide_c106.other W109 (Or.inl ne_r0_b4)
  have V_na_c109 : Arv Z h109 na kn (.array .byte) (1 : Int32) [(.ref nb)] .null := V_na_c106.other W109 ne_na_b4
  have V_wa_c109 : Arv Z h109 wa kw (.array .char) (1 : Int32) [.null] .null := V_wa_c106.other W109 ne_wa_b4
  have V_nb_c109 : Arv Z h109 nb kb .byte (64 : Int32) (own_B x0 x1 x2) (.int (0 : Int32)) := V_nb_c106.other W109 ne_nb_b4
  have Ea4_c109 : Exa Z h109 b4 "[C" := Ea4_c106.wr W109
  have N109 := Fr.snoc X109 N106 gn_b4
  have Z109 : n0 ≤ h109.size := Nat.le_trans Z106 (Keep.of_wr W109).1
  refine own_go (G := T109.setTop (mkF m 39 #[.val (.ref r0), .val (.int (0 : Int32)), .val (.ref nb), .val (.ref b4), .val (.int (34 : Int32))] [])) (st109) ?_
  refine own_go (G := T109.setTop (mkF m 42 #[.val (.ref r0), .val (.int (0 : Int32)), .val (.ref nb), .val (.ref b4), .val (.int ((34 : Int32) + (1 : Int32)))] [])) (fun _ k => XS.iinc X109.here hx rfl (hb hby d7_39) rfl (l' := #[.val (.ref r0), .val (.int (0 : Int32)), .val (.ref nb), .val (.ref b4), .val (.int ((34 : Int32) + (1 : Int32)))]) rfl k) ?_
  rw [show ((34 : Int32) + (1 : Int32)) = (35 : Int32) from by decide]
  refine own_go (G := T109.setTop (mkF m 19 #[.val (.ref r0), .val (.int (0 : Int32)), .val (.ref nb), .val (.ref b4), .val (.int (35 : Int32))] [])) (fun _ k => XS.goto X109.here hx rfl (pc0 := 42) (pc' := 19) rfl (hb hby d7_42) (by decide) (by decide) k) ?_
  refine own_go (G := T109.setTop (mkF m 21 #[.val (.ref r0), .val (.int (0 : Int32)), .val (.ref nb), .val (.ref b4), .val (.int (35 : Int32))] [(.int (35 : Int32))])) (fun _ k => XS.iload X109.here hx rfl (hb hby d7_19) rfl k) ?_
  refine own_go (G := T109.setTop (mkF m 22 #[.val (.ref r0), .val (.int (0 : Int32)), .val (.ref nb), .val (.ref b4), .val (.int (35 : Int32))] [(.ref nb), (.int (35 : Int32))])) (fun _ k => XS.aloadN X109.here hx rfl (hb hby d7_21) rfl rfl k) ?_
  obtain ⟨cl110, Ar110, -, S110, N110_, -, -⟩ := id V_nb_c109
  refine own_go (G := T109.setTop (mkF m 23 #[.val (.ref r0), .val (.int (0 : Int32)), .val (.ref nb), .val (.ref b4), .val (.int (35 : Int32))] [(.int (64 : Int32)), (.int (35 : Int32))])) (fun t k => X109.arraylength hx (by rw [e109]; exact Ar110.1) (State.isArrayOf_alike hZ.alike Ar110.2.1) (g := (mkF m 22 #[.val (.ref r0), .val (.int (0 : Int32)), .val (.ref nb), .val (.ref b4), .val (.int (35 : Int32))] [(.ref nb), (.int (35 : Int32))])) rfl rfl (hb hby d7_22) t (by rw [len_of S110 N110_]; exact k)) ?_
  refine own_go (G := T109.setTop (mkF m 26 #[.val (.ref r0), .val (.int (0 : Int32)), .val (.ref nb), .val (.ref b4), .val (.int (35 : Int32))] [])) (fun _ k => XS.icmpNo X109.here hx rfl (hb hby d7_23) rfl (tlt (by decide : (35 : Int32) < (64 : Int32))).2.1 k) ?_
  refine own_go (G := T109.setTop (mkF m 27 #[.val (.ref r0), .val (.int (0 : Int32)), .val (.ref nb), .val (.ref b4), .val (.int (35 : Int32))] [(.ref b4)])) (fun _ k => XS.aloadN X109.here hx rfl (hb hby d7_26) rfl rfl k) ?_
  refine own_go (G := T109.setTop (mkF m 29 #[.val (.ref r0), .val (.int (0 : Int32)), .val (.ref nb), .val (.ref b4), .val (.int (35 : Int32))] [(.int (35 : Int32)), (.ref b4)])) (fun _ k => XS.iload X109.here hx rfl (hb hby d7_27) rfl k) ?_
  refine own_go (G := T109.setTop (mkF m 30 #[.val (.ref r0), .val (.int (0 : Int32)), .val (.ref nb), .val (.ref b4), .val (.int (35 : Int32))] [(.ref nb), (.int (35 : Int32)), (.ref b4)])) (fun _ k => XS.aloadN X109.here hx rfl (hb hby d7_29) rfl rfl k) ?_
  refine own_go (G := T109.setTop (mkF m 32 #[.val (.ref r0), .val (.int (0 : Int32)), .val (.ref nb), .val (.ref b4), .val (.int (35 : Int32))] [(.int (35 : Int32)), (.ref nb), (.int (35 : Int32)), (.ref b4)])) (fun _ k => XS.iload X109.here hx rfl (hb hby d7_30) rfl k) ?_
  obtain ⟨cl111, Ar111, qk111, S111, N111_, Ha111, G111⟩ := id V_nb_c109
  have hin111 : ¬ ((35 : Int32) < 0 ∨ cl111.slots.size ≤ ((35 : Int32)).toNatClampNeg) := inb_of S111 ⟨by decide, by decide⟩
  have hat111 : cl111.slots[((35 : Int32)).toNatClampNeg]? = some (.int (0 : Int32)) := Ha111.at hin111 rfl
  refine own_go (G := T109.setTop (mkF m 33 #[.val (.ref r0), .val (.int (0 : Int32)), .val (.ref nb), .val (.ref b4), .val (.int (35 : Int32))] [(.int (0 : Int32)), (.int (35 : Int32)), (.ref b4)])) (X109.baloadBytes hx (j := (35 : Int32)) (v := (.int (0 : Int32))) (by rw [e109]; exact Ar111.1) (State.isArrayOf_alike hZ.alike Ar111.2.1) Ar111.2.2 hin111 hat111 (g := (mkF m 32 #[.val (.ref r0), .val (.int (0 : Int32)), .val (.ref nb), .val (.ref b4), .val (.int (35 : Int32))] [(.int (35 : Int32)), (.ref nb), (.int (35 : Int32)), (.ref b4)])) rfl rfl (hb hby d7_32)) ?_
  refine own_go (G := T109.setTop (mkF m 36 #[.val (.ref r0), .val (.int (0 : Int32)), .val (.ref nb), .val (.ref b4), .val (.int (35 : Int32))] [(.int (255 : Int32)), (.int (0 : Int32)), (.int (35 : Int32)), (.ref b4)])) (fun _ k => XS.sipush X109.here hx rfl (hb hby d7_33) k) ?_
  refine own_go (G := T109.setTop (mkF m 37 #[.val (.ref r0), .val (.int (0 : Int32)), .val (.ref nb), .val (.ref b4), .val (.int (35 : Int32))] [(.int ((0 : Int32) &&& (255 : Int32))), (.int (35 : Int32)), (.ref b4)])) (fun _ k => XS.iand X109.here hx rfl (hb hby d7_36) rfl k) ?_
  rw [show ((0 : Int32) &&& (255 : Int32)) = (0 : Int32) from by decide]
  refine own_go (G := T109.setTop (mkF m 38 #[.val (.ref r0), .val (.int (0 : Int32)), .val (.ref nb), .val (.ref b4), .val (.int (35 : Int32))] [(.int ((0 : Int32).toUInt32.toUInt16.toUInt32.toInt32)), (.int (35 : Int32)), (.ref b4)])) (fun _ k => XS.i2c X109.here hx rfl (hb hby d7_37) rfl k) ?_
  rw [show ((0 : Int32).toUInt32.toUInt16.toUInt32.toInt32) = (0 : Int32) from by decide]
  obtain ⟨cl112, Ar112, qk112, S112, N112_, Ha112, G112⟩ := id V109_b4
  have hin112 : ¬ ((35 : Int32) < 0 ∨ cl112.slots.size ≤ ((35 : Int32)).toNatClampNeg) := inb_of S112 ⟨by decide, by decide⟩
  obtain ⟨T112, h112, X112, e112, W112, st112⟩ := stC X109 hx hZ e109 Ar112 (j := (35 : Int32)) hin112 (g := (mkF m 38 #[.val (.ref r0), .val (.int (0 : Int32)), .val (.ref nb), .val (.ref b4), .val (.int (35 : Int32))] [(.int (0 : Int32)), (.int (35 : Int32)), (.ref b4)])) rfl rfl (hb hby d7_38)
  have V112_b4 : Arv Z h112 b4 k4 .char (64 : Int32) (own_B (nar .char ((x0 &&& (255 : Int32)).toUInt32.toUInt16.toUInt32.toInt32)) (nar .char ((x1 &&& (255 : Int32)).toUInt32.toUInt16.toUInt32.toInt32)) (nar .char ((x2 &&& (255 : Int32)).toUInt32.toUInt16.toUInt32.toInt32))) (.int (0 : Int32)) := Arv.set Ar112 qk112 S112 N112_ Ha112 G112 (fits_nar_char _) W112 35 rfl (Nat.le_of_ble_eq_true rfl)
  have E_r0_c112 : Exa Z h112 r0 "com/example/xrefloom/xrefloom/tree/CompactText" := E_r0_c109.wr W112
  have F_length_c112 : Fld Z h112 r0 "com/example/xrefloom/xrefloom/tree/CompactText" "length" "I" (.int len) := F_length_c109.other W112 (Or.inl ne_r0_b4)
  have F_narrow_c112 : Fld Z h112 r0 "com/example/xrefloom/xrefloom/tree/CompactText" "narrow" "[[B" (.ref na) := F_narrow_c109.other W112 (Or.inl ne_r0_b4)
  have F_wide_c112 : Fld Z h112 r0 "com/example/xrefloom/xrefloom/tree/CompactText" "wide" "[[C" (.ref wa) := F_wide_c109.other W112 (Or.inl ne_r0_b4)
  have V_na_c112 : Arv Z h112 na kn (.array .byte) (1 : Int32) [(.ref nb)] .null := V_na_c109.other W112 ne_na_b4
  have V_wa_c112 : Arv Z h112 wa kw (.array .char) (1 : Int32) [.null] .null := V_wa_c109.other W112 ne_wa_b4
  have V_nb_c112 : Arv Z h112 nb kb .byte (64 : Int32) (own_B x0 x1 x2) (.int (0 : Int32)) := V_nb_c109.other W112 ne_nb_b4
  have Ea4_c112 : Exa Z h112 b4 "[C" := Ea4_c109.wr W112
  have N112 := Fr.snoc X112 N109 gn_b4
  have Z112 : n0 ≤ h112.size := Nat.le_trans Z109 (Keep.of_wr W112).1
  refine own_go (G := T112.setTop (mkF m 39 #[.val (.ref r0), .val (.int (0 : Int32)), .val (.ref nb), .val (.ref b4), .val (.int (35 : Int32))] [])) (st112) ?_
  refine own_go (G := T112.setTop (mkF m 42 #[.val (.ref r0), .val (.int (0 : Int32)), .val (.ref nb), .val (.ref b4), .val (.int ((35 : Int32) + (1 : Int32)))] [])) (fun _ k => XS.iinc X112.here hx rfl (hb hby d7_39) rfl (l' := #[.val (.ref r0), .val (.int (0 : Int32)), .val (.ref nb), .val (.ref b4), .val (.int ((35 : Int32) + (1 : Int32)))]) rfl k) ?_
  rw [show ((35 : Int32) + (1 : Int32)) = (36 : Int32) from by decide]
  refine own_go (G := T112.setTop (mkF m 19 #[.val (.ref r0), .val (.int (0 : Int32)), .val (.ref nb), .val (.ref b4), .val (.int (36 : Int32))] [])) (fun _ k => XS.goto X112.here hx rfl (pc0 := 42) (pc' := 19) rfl (hb hby d7_42) (by decide) (by decide) k) ?_
  refine own_go (G := T112.setTop (mkF m 21 #[.val (.ref r0), .val (.int (0 : Int32)), .val (.ref nb), .val (.ref b4), .val (.int (36 : Int32))] [(.int (36 : Int32))])) (fun _ k => XS.iload X112.here hx rfl (hb hby d7_19) rfl k) ?_
  refine own_go (G := T112.setTop (mkF m 22 #[.val (.ref r0), .val (.int (0 : Int32)), .val (.ref nb), .val (.ref b4), .val (.int (36 : Int32))] [(.ref nb), (.int (36 : Int32))])) (fun _ k => XS.aloadN X112.here hx rfl (hb hby d7_21) rfl rfl k) ?_
  obtain ⟨cl113, Ar113, -, S113, N113_, -, -⟩ := id V_nb_c112
  refine own_go (G := T112.setTop (mkF m 23 #[.val (.ref r0), .val (.int (0 : Int32)), .val (.ref nb), .val (.ref b4), .val (.int (36 : Int32))] [(.int (64 : Int32)), (.int (36 : Int32))])) (fun t k => X112.arraylength hx (by rw [e112]; exact Ar113.1) (State.isArrayOf_alike hZ.alike Ar113.2.1) (g := (mkF m 22 #[.val (.ref r0), .val (.int (0 : Int32)), .val (.ref nb), .val (.ref b4), .val (.int (36 : Int32))] [(.ref nb), (.int (36 : Int32))])) rfl rfl (hb hby d7_22) t (by rw [len_of S113 N113_]; exact k)) ?_
  refine own_go (G := T112.setTop (mkF m 26 #[.val (.ref r0), .val (.int (0 : Int32)), .val (.ref nb), .val (.ref b4), .val (.int (36 : Int32))] [])) (fun _ k => XS.icmpNo X112.here hx rfl (hb hby d7_23) rfl (tlt (by decide : (36 : Int32) < (64 : Int32))).2.1 k) ?_
  refine own_go (G := T112.setTop (mkF m 27 #[.val (.ref r0), .val (.int (0 : Int32)), .val (.ref nb), .val (.ref b4), .val (.int (36 : Int32))] [(.ref b4)])) (fun _ k => XS.aloadN X112.here hx rfl (hb hby d7_26) rfl rfl k) ?_
  refine own_go (G := T112.setTop (mkF m 29 #[.val (.ref r0), .val (.int (0 : Int32)), .val (.ref nb), .val (.ref b4), .val (.int (36 : Int32))] [(.int (36 : Int32)), (.ref b4)])) (fun _ k => XS.iload X112.here hx rfl (hb hby d7_27) rfl k) ?_
  refine own_go (G := T112.setTop (mkF m 30 #[.val (.ref r0), .val (.int (0 : Int32)), .val (.ref nb), .val (.ref b4), .val (.int (36 : Int32))] [(.ref nb), (.int (36 : Int32)), (.ref b4)])) (fun _ k => XS.aloadN X112.here hx rfl (hb hby d7_29) rfl rfl k) ?_
  refine own_go (G := T112.setTop (mkF m 32 #[.val (.ref r0), .val (.int (0 : Int32)), .val (.ref nb), .val (.ref b4), .val (.int (36 : Int32))] [(.int (36 : Int32)), (.ref nb), (.int (36 : Int32)), (.ref b4)])) (fun _ k => XS.iload X112.here hx rfl (hb hby d7_30) rfl k) ?_
  obtain ⟨cl114, Ar114, qk114, S114, N114_, Ha114, G114⟩ := id V_nb_c112
  have hin114 : ¬ ((36 : Int32) < 0 ∨ cl114.slots.size ≤ ((36 : Int32)).toNatClampNeg) := inb_of S114 ⟨by decide, by decide⟩
  have hat114 : cl114.slots[((36 : Int32)).toNatClampNeg]? = some (.int (0 : Int32)) := Ha114.at hin114 rfl
  refine own_go (G := T112.setTop (mkF m 33 #[.val (.ref r0), .val (.int (0 : Int32)), .val (.ref nb), .val (.ref b4), .val (.int (36 : Int32))] [(.int (0 : Int32)), (.int (36 : Int32)), (.ref b4)])) (X112.baloadBytes hx (j := (36 : Int32)) (v := (.int (0 : Int32))) (by rw [e112]; exact Ar114.1) (State.isArrayOf_alike hZ.alike Ar114.2.1) Ar114.2.2 hin114 hat114 (g := (mkF m 32 #[.val (.ref r0), .val (.int (0 : Int32)), .val (.ref nb), .val (.ref b4), .val (.int (36 : Int32))] [(.int (36 : Int32)), (.ref nb), (.int (36 : Int32)), (.ref b4)])) rfl rfl (hb hby d7_32)) ?_
  refine own_go (G := T112.setTop (mkF m 36 #[.val (.ref r0), .val (.int (0 : Int32)), .val (.ref nb), .val (.ref b4), .val (.int (36 : Int32))] [(.int (255 : Int32)), (.int (0 : Int32)), (.int (36 : Int32)), (.ref b4)])) (fun _ k => XS.sipush X112.here hx rfl (hb hby d7_33) k) ?_
  refine own_go (G := T112.setTop (mkF m 37 #[.val (.ref r0), .val (.int (0 : Int32)), .val (.ref nb), .val (.ref b4), .val (.int (36 : Int32))] [(.int ((0 : Int32) &&& (255 : Int32))), (.int (36 : Int32)), (.ref b4)])) (fun _ k => XS.iand X112.here hx rfl (hb hby d7_36) rfl k) ?_
  rw [show ((0 : Int32) &&& (255 : Int32)) = (0 : Int32) from by decide]
  refine own_go (G := T112.setTop (mkF m 38 #[.val (.ref r0), .val (.int (0 : Int32)), .val (.ref nb), .val (.ref b4), .val (.int (36 : Int32))] [(.int ((0 : Int32).toUInt32.toUInt16.toUInt32.toInt32)), (.int (36 : Int32)), (.ref b4)])) (fun _ k => XS.i2c X112.here hx rfl (hb hby d7_37) rfl k) ?_
  rw [show ((0 : Int32).toUInt32.toUInt16.toUInt32.toInt32) = (0 : Int32) from by decide]
  obtain ⟨cl115, Ar115, qk115, S115, N115_, Ha115, G115⟩ := id V112_b4
  have hin115 : ¬ ((36 : Int32) < 0 ∨ cl115.slots.size ≤ ((36 : Int32)).toNatClampNeg) := inb_of S115 ⟨by decide, by decide⟩
  obtain ⟨T115, h115, X115, e115, W115, st115⟩ := stC X112 hx hZ e112 Ar115 (j := (36 : Int32)) hin115 (g := (mkF m 38 #[.val (.ref r0), .val (.int (0 : Int32)), .val (.ref nb), .val (.ref b4), .val (.int (36 : Int32))] [(.int (0 : Int32)), (.int (36 : Int32)), (.ref b4)])) rfl rfl (hb hby d7_38)
  have V115_b4 : Arv Z h115 b4 k4 .char (64 : Int32) (own_B (nar .char ((x0 &&& (255 : Int32)).toUInt32.toUInt16.toUInt32.toInt32)) (nar .char ((x1 &&& (255 : Int32)).toUInt32.toUInt16.toUInt32.toInt32)) (nar .char ((x2 &&& (255 : Int32)).toUInt32.toUInt16.toUInt32.toInt32))) (.int (0 : Int32)) := Arv.set Ar115 qk115 S115 N115_ Ha115 G115 (fits_nar_char _) W115 36 rfl (Nat.le_of_ble_eq_true rfl)
  have E_r0_c115 : Exa Z h115 r0 "com/example/xrefloom/xrefloom/tree/CompactText" := E_r0_c112.wr W115
  have F_length_c115 : Fld Z h115 r0 "com/example/xrefloom/xrefloom/tree/CompactText" "length" "I" (.int len) := F_length_c112.other W115 (Or.inl ne_r0_b4)
  have F_narrow_c115 : Fld Z h115 r0 "com/example/xrefloom/xrefloom/tree/CompactText" "narrow" "[[B" (.ref na) := F_narrow_c112.other W115 (Or.inl ne_r0_b4)
  have F_wide_c115 : Fld Z h115 r0 "com/example/xrefloom/xrefloom/tree/CompactText" "wide" "[[C" (.ref wa) := F_wide_c112.other W115 (Or.inl ne_r0_b4)
  have V_na_c115 : Arv Z h115 na kn (.array .byte) (1 : Int32) [(.ref nb)] .null := V_na_c112.other W115 ne_na_b4
  have V_wa_c115 : Arv Z h115 wa kw (.array .char) (1 : Int32) [.null] .null := V_wa_c112.other W115 ne_wa_b4
  have V_nb_c115 : Arv Z h115 nb kb .byte (64 : Int32) (own_B x0 x1 x2) (.int (0 : Int32)) := V_nb_c112.other W115 ne_nb_b4
  have Ea4_c115 : Exa Z h115 b4 "[C" := Ea4_c112.wr W115
  have N115 := Fr.snoc X115 N112 gn_b4
  have Z115 : n0 ≤ h115.size := Nat.le_trans Z112 (Keep.of_wr W115).1
  refine own_go (G := T115.setTop (mkF m 39 #[.val (.ref r0), .val (.int (0 : Int32)), .val (.ref nb), .val (.ref b4), .val (.int (36 : Int32))] [])) (st115) ?_
  refine own_go (G := T115.setTop (mkF m 42 #[.val (.ref r0), .val (.int (0 : Int32)), .val (.ref nb), .val (.ref b4), .val (.int ((36 : Int32) + (1 : Int32)))] [])) (fun _ k => XS.iinc X115.here hx rfl (hb hby d7_39) rfl (l' := #[.val (.ref r0), .val (.int (0 : Int32)), .val (.ref nb), .val (.ref b4), .val (.int ((36 : Int32) + (1 : Int32)))]) rfl k) ?_
  rw [show ((36 : Int32) + (1 : Int32)) = (37 : Int32) from by decide]
  refine own_go (G := T115.setTop (mkF m 19 #[.val (.ref r0), .val (.int (0 : Int32)), .val (.ref nb), .val (.ref b4), .val (.int (37 : Int32))] [])) (fun _ k => XS.goto X115.here hx rfl (pc0 := 42) (pc' := 19) rfl (hb hby d7_42) (by decide) (by decide) k) ?_
  refine own_go (G := T115.setTop (mkF m 21 #[.val (.ref r0), .val (.int (0 : Int32)), .val (.ref nb), .val (.ref b4), .val (.int (37 : Int32))] [(.int (37 : Int32))])) (fun _ k => XS.iload X115.here hx rfl (hb hby d7_19) rfl k) ?_
  refine own_go (G := T115.setTop (mkF m 22 #[.val (.ref r0), .val (.int (0 : Int32)), .val (.ref nb), .val (.ref b4), .val (.int (37 : Int32))] [(.ref nb), (.int (37 : Int32))])) (fun _ k => XS.aloadN X115.here hx rfl (hb hby d7_21) rfl rfl k) ?_
  obtain ⟨cl116, Ar116, -, S116, N116_, -, -⟩ := id V_nb_c115
  refine own_go (G := T115.setTop (mkF m 23 #[.val (.ref r0), .val (.int (0 : Int32)), .val (.ref nb), .val (.ref b4), .val (.int (37 : Int32))] [(.int (64 : Int32)), (.int (37 : Int32))])) (fun t k => X115.arraylength hx (by rw [e115]; exact Ar116.1) (State.isArrayOf_alike hZ.alike Ar116.2.1) (g := (mkF m 22 #[.val (.ref r0), .val (.int (0 : Int32)), .val (.ref nb), .val (.ref b4), .val (.int (37 : Int32))] [(.ref nb), (.int (37 : Int32))])) rfl rfl (hb hby d7_22) t (by rw [len_of S116 N116_]; exact k)) ?_
  refine own_go (G := T115.setTop (mkF m 26 #[.val (.ref r0), .val (.int (0 : Int32)), .val (.ref nb), .val (.ref b4), .val (.int (37 : Int32))] [])) (fun _ k => XS.icmpNo X115.here hx rfl (hb hby d7_23) rfl (tlt (by decide : (37 : Int32) < (64 : Int32))).2.1 k) ?_
  refine own_go (G := T115.setTop (mkF m 27 #[.val (.ref r0), .val (.int (0 : Int32)), .val (.ref nb), .val (.ref b4), .val (.int (37 : Int32))] [(.ref b4)])) (fun _ k => XS.aloadN X115.here hx rfl (hb hby d7_26) rfl rfl k) ?_
  refine own_go (G := T115.setTop (mkF m 29 #[.val (.ref r0), .val (.int (0 : Int32)), .val (.ref nb), .val (.ref b4), .val (.int (37 : Int32))] [(.int (37 : Int32)), (.ref b4)])) (fun _ k => XS.iload X115.here hx rfl (hb hby d7_27) rfl k) ?_
  refine own_go (G := T115.setTop (mkF m 30 #[.val (.ref r0), .val (.int (0 : Int32)), .val (.ref nb), .val (.ref b4), .val (.int (37 : Int32))] [(.ref nb), (.int (37 : Int32)), (.ref b4)])) (fun _ k => XS.aloadN X115.here hx rfl (hb hby d7_29) rfl rfl k) ?_
  refine own_go (G := T115.setTop (mkF m 32 #[.val (.ref r0), .val (.int (0 : Int32)), .val (.ref nb), .val (.ref b4), .val (.int (37 : Int32))] [(.int (37 : Int32)), (.ref nb), (.int (37 : Int32)), (.ref b4)])) (fun _ k => XS.iload X115.here hx rfl (hb hby d7_30) rfl k) ?_
  obtain ⟨cl117, Ar117, qk117, S117, N117_, Ha117, G117⟩ := id V_nb_c115
  have hin117 : ¬ ((37 : Int32) < 0 ∨ cl117.slots.size ≤ ((37 : Int32)).toNatClampNeg) := inb_of S117 ⟨by decide, by decide⟩
  have hat117 : cl117.slots[((37 : Int32)).toNatClampNeg]? = some (.int (0 : Int32)) := Ha117.at hin117 rfl
  refine own_go (G := T115.setTop (mkF m 33 #[.val (.ref r0), .val (.int (0 : Int32)), .val (.ref nb), .val (.ref b4), .val (.int (37 : Int32))] [(.int (0 : Int32)), (.int (37 : Int32)), (.ref b4)])) (X115.baloadBytes hx (j := (37 : Int32)) (v := (.int (0 : Int32))) (by rw [e115]; exact Ar117.1) (State.isArrayOf_alike hZ.alike Ar117.2.1) Ar117.2.2 hin117 hat117 (g := (mkF m 32 #[.val (.ref r0), .val (.int (0 : Int32)), .val (.ref nb), .val (.ref b4), .val (.int (37 : Int32))] [(.int (37 : Int32)), (.ref nb), (.int (37 : Int32)), (.ref b4)])) rfl rfl (hb hby d7_32)) ?_
  refine own_go (G := T115.setTop (mkF m 36 #[.val (.ref r0), .val (.int (0 : Int32)), .val (.ref nb), .val (.ref b4), .val (.int (37 : Int32))] [(.int (255 : Int32)), (.int (0 : Int32)), (.int (37 : Int32)), (.ref b4)])) (fun _ k => XS.sipush X115.here hx rfl (hb hby d7_33) k) ?_
  refine own_go (G := T115.setTop (mkF m 37 #[.val (.ref r0), .val (.int (0 : Int32)), .val (.ref nb), .val (.ref b4), .val (.int (37 : Int32))] [(.int ((0 : Int32) &&& (255 : Int32))), (.int (37 : Int32)), (.ref b4)])) (fun _ k => XS.iand X115.here hx rfl (hb hby d7_36) rfl k) ?_
  rw [show ((0 : Int32) &&& (255 : Int32)) = (0 : Int32) from by decide]
  refine own_go (G := T115.setTop (mkF m 38 #[.val (.ref r0), .val (.int (0 : Int32)), .val (.ref nb), .val (.ref b4), .val (.int (37 : Int32))] [(.int ((0 : Int32).toUInt32.toUInt16.toUInt32.toInt32)), (.int (37 : Int32)), (.ref b4)])) (fun _ k => XS.i2c X115.here hx rfl (hb hby d7_37) rfl k) ?_
  rw [show ((0 : Int32).toUInt32.toUInt16.toUInt32.toInt32) = (0 : Int32) from by decide]
  obtain ⟨cl118, Ar118, qk118, S118, N118_, Ha118, G118⟩ := id V115_b4
  have hin118 : ¬ ((37 : Int32) < 0 ∨ cl118.slots.size ≤ ((37 : Int32)).toNatClampNeg) := inb_of S118 ⟨by decide, by decide⟩
  obtain ⟨T118, h118, X118, e118, W118, st118⟩ := stC X115 hx hZ e115 Ar118 (j := (37 : Int32)) hin118 (g := (mkF m 38 #[.val (.ref r0), .val (.int (0 : Int32)), .val (.ref nb), .val (.ref b4), .val (.int (37 : Int32))] [(.int (0 : Int32)), (.int (37 : Int32)), (.ref b4)])) rfl rfl (hb hby d7_38)
  have V118_b4 : Arv Z h118 b4 k4 .char (64 : Int32) (own_B (nar .char ((x0 &&& (255 : Int32)).toUInt32.toUInt16.toUInt32.toInt32)) (nar .char ((x1 &&& (255 : Int32)).toUInt32.toUInt16.toUInt32.toInt32)) (nar .char ((x2 &&& (255 : Int32)).toUInt32.toUInt16.toUInt32.toInt32))) (.int (0 : Int32)) := Arv.set Ar118 qk118 S118 N118_ Ha118 G118 (fits_nar_char _) W118 37 rfl (Nat.le_of_ble_eq_true rfl)
  have E_r0_c118 : Exa Z h118 r0 "com/example/xrefloom/xrefloom/tree/CompactText" := E_r0_c115.wr W118
  have F_length_c118 : Fld Z h118 r0 "com/example/xrefloom/xrefloom/tree/CompactText" "length" "I" (.int len) := F_length_c115.other W118 (Or.inl ne_r0_b4)
  have F_narrow_c118 : Fld Z h118 r0 "com/example/xrefloom/xrefloom/tree/CompactText" "narrow" "[[B" (.ref na) := F_narrow_c115.other W118 (Or.inl ne_r0_b4)
  have F_wide_c118 : Fld Z h118 r0 "com/example/xrefloom/xrefloom/tree/CompactText" "wide" "[[C" (.ref wa) := F_wide_c115.other W118 (Or.inl ne_r0_b4)
  have V_na_c118 : Arv Z h118 na kn (.array .byte) (1 : Int32) [(.ref nb)] .null := V_na_c115.other W118 ne_na_b4
  have V_wa_c118 : Arv Z h118 wa kw (.array .char) (1 : Int32) [.null] .null := V_wa_c115.other W118 ne_wa_b4
  have V_nb_c118 : Arv Z h118 nb kb .byte (64 : Int32) (own_B x0 x1 x2) (.int (0 : Int32)) := V_nb_c115.other W118 ne_nb_b4
  have Ea4_c118 : Exa Z h118 b4 "[C" := Ea4_c115.wr W118
  have N118 := Fr.snoc X118 N115 gn_b4
  have Z118 : n0 ≤ h118.size := Nat.le_trans Z115 (Keep.of_wr W118).1
  refine own_go (G := T118.setTop (mkF m 39 #[.val (.ref r0), .val (.int (0 : Int32)), .val (.ref nb), .val (.ref b4), .val (.int (37 : Int32))] [])) (st118) ?_
  refine own_go (G := T118.setTop (mkF m 42 #[.val (.ref r0), .val (.int (0 : Int32)), .val (.ref nb), .val (.ref b4), .val (.int ((37 : Int32) + (1 : Int32)))] [])) (fun _ k => XS.iinc X118.here hx rfl (hb hby d7_39) rfl (l' := #[.val (.ref r0), .val (.int (0 : Int32)), .val (.ref nb), .val (.ref b4), .val (.int ((37 : Int32) + (1 : Int32)))]) rfl k) ?_
  rw [show ((37 : Int32) + (1 : Int32)) = (38 : Int32) from by decide]
  refine own_go (G := T118.setTop (mkF m 19 #[.val (.ref r0), .val (.int (0 : Int32)), .val (.ref nb), .val (.ref b4), .val (.int (38 : Int32))] [])) (fun _ k => XS.goto X118.here hx rfl (pc0 := 42) (pc' := 19) rfl (hb hby d7_42) (by decide) (by decide) k) ?_
  refine own_go (G := T118.setTop (mkF m 21 #[.val (.ref r0), .val (.int (0 : Int32)), .val (.ref nb), .val (.ref b4), .val (.int (38 : Int32))] [(.int (38 : Int32))])) (fun _ k => XS.iload X118.here hx rfl (hb hby d7_19) rfl k) ?_
  refine own_go (G := T118.setTop (mkF m 22 #[.val (.ref r0), .val (.int (0 : Int32)), .val (.ref nb), .val (.ref b4), .val (.int (38 : Int32))] [(.ref nb), (.int (38 : Int32))])) (fun _ k => XS.aloadN X118.here hx rfl (hb hby d7_21) rfl rfl k) ?_
  obtain ⟨cl119, Ar119, -, S119, N119_, -, -⟩ := id V_nb_c118
  refine own_go (G := T118.setTop (mkF m 23 #[.val (.ref r0), .val (.int (0 : Int32)), .val (.ref nb), .val (.ref b4), .val (.int (38 : Int32))] [(.int (64 : Int32)), (.int (38 : Int32))])) (fun t k => X118.arraylength hx (by rw [e118]; exact Ar119.1) (State.isArrayOf_alike hZ.alike Ar119.2.1) (g := (mkF m 22 #[.val (.ref r0), .val (.int (0 : Int32)), .val (.ref nb), .val (.ref b4), .val (.int (38 : Int32))] [(.ref nb), (.int (38 : Int32))])) rfl rfl (hb hby d7_22) t (by rw [len_of S119 N119_]; exact k)) ?_
  refine own_go (G := T118.setTop (mkF m 26 #[.val (.ref r0), .val (.int (0 : Int32)), .val (.ref nb), .val (.ref b4), .val (.int (38 : Int32))] [])) (fun _ k => XS.icmpNo X118.here hx rfl (hb hby d7_23) rfl (tlt (by decide : (38 : Int32) < (64 : Int32))).2.1 k) ?_
  refine own_go (G := T118.setTop (mkF m 27 #[.val (.ref r0), .val (.int (0 : Int32)), .val (.ref nb), .val (.ref b4), .val (.int (38 : Int32))] [(.ref b4)])) (fun _ k => XS.aloadN X118.here hx rfl (hb hby d7_26) rfl rfl k) ?_
  refine own_go (G := T118.setTop (mkF m 29 #[.val (.ref r0), .val (.int (0 : Int32)), .val (.ref nb), .val (.ref b4), .val (.int (38 : Int32))] [(.int (38 : Int32)), (.ref b4)])) (fun _ k => XS.iload X118.here hx rfl (hb hby d7_27) rfl k) ?_
  refine own_go (G := T118.setTop (mkF m 30 #[.val (.ref r0), .val (.int (0 : Int32)), .val (.ref nb), .val (.ref b4), .val (.int (38 : Int32))] [(.ref nb), (.int (38 : Int32)), (.ref b4)])) (fun _ k => XS.aloadN X118.here hx rfl (hb hby d7_29) rfl rfl k) ?_
  refine own_go (G := T118.setTop (mkF m 32 #[.val (.ref r0), .val (.int (0 : Int32)), .val (.ref nb), .val (.ref b4), .val (.int (38 : Int32))] [(.int (38 : Int32)), (.ref nb), (.int (38 : Int32)), (.ref b4)])) (fun _ k => XS.iload X118.here hx rfl (hb hby d7_30) rfl k) ?_
  obtain ⟨cl120, Ar120, qk120, S120, N120_, Ha120, G120⟩ := id V_nb_c118
  have hin120 : ¬ ((38 : Int32) < 0 ∨ cl120.slots.size ≤ ((38 : Int32)).toNatClampNeg) := inb_of S120 ⟨by decide, by decide⟩
  have hat120 : cl120.slots[((38 : Int32)).toNatClampNeg]? = some (.int (0 : Int32)) := Ha120.at hin120 rfl
  refine own_go (G := T118.setTop (mkF m 33 #[.val (.ref r0), .val (.int (0 : Int32)), .val (.ref nb), .val (.ref b4), .val (.int (38 : Int32))] [(.int (0 : Int32)), (.int (38 : Int32)), (.ref b4)])) (X118.baloadBytes hx (j := (38 : Int32)) (v := (.int (0 : Int32))) (by rw [e118]; exact Ar120.1) (State.isArrayOf_alike hZ.alike Ar120.2.1) Ar120.2.2 hin120 hat120 (g := (mkF m 32 #[.val (.ref r0), .val (.int (0 : Int32)), .val (.ref nb), .val (.ref b4), .val (.int (38 : Int32))] [(.int (38 : Int32)), (.ref nb), (.int (38 : Int32)), (.ref b4)])) rfl rfl (hb hby d7_32)) ?_
  refine own_go (G := T118.setTop (mkF m 36 #[.val (.ref r0), .val (.int (0 : Int32)), .val (.ref nb), .val (.ref b4), .val (.int (38 : Int32))] [(.int (255 : Int32)), (.int (0 : Int32)), (.int (38 : Int32)), (.ref b4)])) (fun _ k => XS.sipush X118.here hx rfl (hb hby d7_33) k) ?_
  refine own_go (G := T118.setTop (mkF m 37 #[.val (.ref r0), .val (.int (0 : Int32)), .val (.ref nb), .val (.ref b4), .val (.int (38 : Int32))] [(.int ((0 : Int32) &&& (255 : Int32))), (.int (38 : Int32)), (.ref b4)])) (fun _ k => XS.iand X118.here hx rfl (hb hby d7_36) rfl k) ?_
  rw [show ((0 : Int32) &&& (255 : Int32)) = (0 : Int32) from by decide]
  refine own_go (G := T118.setTop (mkF m 38 #[.val (.ref r0), .val (.int (0 : Int32)), .val (.ref nb), .val (.ref b4), .val (.int (38 : Int32))] [(.int ((0 : Int32).toUInt32.toUInt16.toUInt32.toInt32)), (.int (38 : Int32)), (.ref b4)])) (fun _ k => XS.i2c X118.here hx rfl (hb hby d7_37) rfl k) ?_
  rw [show ((0 : Int32).toUInt32.toUInt16.toUInt32.toInt32) = (0 : Int32) from by decide]
  obtain ⟨cl121, Ar121, qk121, S121, N121_, Ha121, G121⟩ := id V118_b4
  have hin121 : ¬ ((38 : Int32) < 0 ∨ cl121.slots.size ≤ ((38 : Int32)).toNatClampNeg) := inb_of S121 ⟨by decide, by decide⟩
  obtain ⟨T121, h121, X121, e121, W121, st121⟩ := stC X118 hx hZ e118 Ar121 (j := (38 : Int32)) hin121 (g := (mkF m 38 #[.val (.ref r0), .val (.int (0 : Int32)), .val (.ref nb), .val (.ref b4), .val (.int (38 : Int32))] [(.int (0 : Int32)), (.int (38 : Int32)), (.ref b4)])) rfl rfl (hb hby d7_38)
  have V121_b4 : Arv Z h121 b4 k4 .char (64 : Int32) (own_B (nar .char ((x0 &&& (255 : Int32)).toUInt32.toUInt16.toUInt32.toInt32)) (nar .char ((x1 &&& (255 : Int32)).toUInt32.toUInt16.toUInt32.toInt32)) (nar .char ((x2 &&& (255 : Int32)).toUInt32.toUInt16.toUInt32.toInt32))) (.int (0 : Int32)) := Arv.set Ar121 qk121 S121 N121_ Ha121 G121 (fits_nar_char _) W121 38 rfl (Nat.le_of_ble_eq_true rfl)
  have E_r0_c121 : Exa Z h121 r0 "com/example/xrefloom/xrefloom/tree/CompactText" := E_r0_c118.wr W121
  have F_length_c121 : Fld Z h121 r0 "com/example/xrefloom/xrefloom/tree/CompactText" "length" "I" (.int len) := F_length_c118.other W121 (Or.inl ne_r0_b4)
  have F_narrow_c121 : Fld Z h121 r0 "com/example/xrefloom/xrefloom/tree/CompactText" "narrow" "[[B" (.ref na) := F_narrow_c118.other W121 (Or.inl ne_r0_b4)
  have F_wide_c121 : Fld Z h121 r0 "com/example/xrefloom/xrefloom/tree/CompactText" "wide" "[[C" (.ref wa) := F_wide_c118.other W121 (Or.inl ne_r0_b4)
  have V_na_c121 : Arv Z h121 na kn (.array .byte) (1 : Int32) [(.ref nb)] .null := V_na_c118.other W121 ne_na_b4
  have V_wa_c121 : Arv Z h121 wa kw (.array .char) (1 : Int32) [.null] .null := V_wa_c118.other W121 ne_wa_b4
  have V_nb_c121 : Arv Z h121 nb kb .byte (64 : Int32) (own_B x0 x1 x2) (.int (0 : Int32)) := V_nb_c118.other W121 ne_nb_b4
  have Ea4_c121 : Exa Z h121 b4 "[C" := Ea4_c118.wr W121
  have N121 := Fr.snoc X121 N118 gn_b4
  have Z121 : n0 ≤ h121.size := Nat.le_trans Z118 (Keep.of_wr W121).1
  refine own_go (G := T121.setTop (mkF m 39 #[.val (.ref r0), .val (.int (0 : Int32)), .val (.ref nb), .val (.ref b4), .val (.int (38 : Int32))] [])) (st121) ?_
  refine own_go (G := T121.setTop (mkF m 42 #[.val (.ref r0), .val (.int (0 : Int32)), .val (.ref nb), .val (.ref b4), .val (.int ((38 : Int32) + (1 : Int32)))] [])) (fun _ k => XS.iinc X121.here hx rfl (hb hby d7_39) rfl (l' := #[.val (.ref r0), .val (.int (0 : Int32)), .val (.ref nb), .val (.ref b4), .val (.int ((38 : Int32) + (1 : Int32)))]) rfl k) ?_
  rw [show ((38 : Int32) + (1 : Int32)) = (39 : Int32) from by decide]
  refine own_go (G := T121.setTop (mkF m 19 #[.val (.ref r0), .val (.int (0 : Int32)), .val (.ref nb), .val (.ref b4), .val (.int (39 : Int32))] [])) (fun _ k => XS.goto X121.here hx rfl (pc0 := 42) (pc' := 19) rfl (hb hby d7_42) (by decide) (by decide) k) ?_
  refine own_go (G := T121.setTop (mkF m 21 #[.val (.ref r0), .val (.int (0 : Int32)), .val (.ref nb), .val (.ref b4), .val (.int (39 : Int32))] [(.int (39 : Int32))])) (fun _ k => XS.iload X121.here hx rfl (hb hby d7_19) rfl k) ?_
  refine own_go (G := T121.setTop (mkF m 22 #[.val (.ref r0), .val (.int (0 : Int32)), .val (.ref nb), .val (.ref b4), .val (.int (39 : Int32))] [(.ref nb), (.int (39 : Int32))])) (fun _ k => XS.aloadN X121.here hx rfl (hb hby d7_21) rfl rfl k) ?_
  obtain ⟨cl122, Ar122, -, S122, N122_, -, -⟩ := id V_nb_c121
  refine own_go (G := T121.setTop (mkF m 23 #[.val (.ref r0), .val (.int (0 : Int32)), .val (.ref nb), .val (.ref b4), .val (.int (39 : Int32))] [(.int (64 : Int32)), (.int (39 : Int32))])) (fun t k => X121.arraylength hx (by rw [e121]; exact Ar122.1) (State.isArrayOf_alike hZ.alike Ar122.2.1) (g := (mkF m 22 #[.val (.ref r0), .val (.int (0 : Int32)), .val (.ref nb), .val (.ref b4), .val (.int (39 : Int32))] [(.ref nb), (.int (39 : Int32))])) rfl rfl (hb hby d7_22) t (by rw [len_of S122 N122_]; exact k)) ?_
  refine own_go (G := T121.setTop (mkF m 26 #[.val (.ref r0), .val (.int (0 : Int32)), .val (.ref nb), .val (.ref b4), .val (.int (39 : Int32))] [])) (fun _ k => XS.icmpNo X121.here hx rfl (hb hby d7_23) rfl (tlt (by decide : (39 : Int32) < (64 : Int32))).2.1 k) ?_
  refine own_go (G := T121.setTop (mkF m 27 #[.val (.ref r0), .val (.int (0 : Int32)), .val (.ref nb), .val (.ref b4), .val (.int (39 : Int32))] [(.ref b4)])) (fun _ k => XS.aloadN X121.here hx rfl (hb hby d7_26) rfl rfl k) ?_
  refine own_go (G := T121.setTop (mkF m 29 #[.val (.ref r0), .val (.int (0 : Int32)), .val (.ref nb), .val (.ref b4), .val (.int (39 : Int32))] [(.int (39 : Int32)), (.ref b4)])) (fun _ k => XS.iload X121.here hx rfl (hb hby d7_27) rfl k) ?_
  refine own_go (G := T121.setTop (mkF m 30 #[.val (.ref r0), .val (.int (0 : Int32)), .val (.ref nb), .val (.ref b4), .val (.int (39 : Int32))] [(.ref nb), (.int (39 : Int32)), (.ref b4)])) (fun _ k => XS.aloadN X121.here hx rfl (hb hby d7_29) rfl rfl k) ?_
  refine own_go (G := T121.setTop (mkF m 32 #[.val (.ref r0), .val (.int (0 : Int32)), .val (.ref nb), .val (.ref b4), .val (.int (39 : Int32))] [(.int (39 : Int32)), (.ref nb), (.int (39 : Int32)), (.ref b4)])) (fun _ k => XS.iload X121.here hx rfl (hb hby d7_30) rfl k) ?_
  obtain ⟨cl123, Ar123, qk123, S123, N123_, Ha123, G123⟩ := id V_nb_c121
  have hin123 : ¬ ((39 : Int32) < 0 ∨ cl123.slots.size ≤ ((39 : Int32)).toNatClampNeg) := inb_of S123 ⟨by decide, by decide⟩
  have hat123 : cl123.slots[((39 : Int32)).toNatClampNeg]? = some (.int (0 : Int32)) := Ha123.at hin123 rfl
  refine own_go (G := T121.setTop (mkF m 33 #[.val (.ref r0), .val (.int (0 : Int32)), .val (.ref nb), .val (.ref b4), .val (.int (39 : Int32))] [(.int (0 : Int32)), (.int (39 : Int32)), (.ref b4)])) (X121.baloadBytes hx (j := (39 : Int32)) (v := (.int (0 : Int32))) (by rw [e121]; exact Ar123.1) (State.isArrayOf_alike hZ.alike Ar123.2.1) Ar123.2.2 hin123 hat123 (g := (mkF m 32 #[.val (.ref r0), .val (.int (0 : Int32)), .val (.ref nb), .val (.ref b4), .val (.int (39 : Int32))] [(.int (39 : Int32)), (.ref nb), (.int (39 : Int32)), (.ref b4)])) rfl rfl (hb hby d7_32)) ?_
  refine own_go (G := T121.setTop (mkF m 36 #[.val (.ref r0), .val (.int (0 : Int32)), .val (.ref nb), .val (.ref b4), .val (.int (39 : Int32))] [(.int (255 : Int32)), (.int (0 : Int32)), (.int (39 : Int32)), (.ref b4)])) (fun _ k => XS.sipush X121.here hx rfl (hb hby d7_33) k) ?_
  refine own_go (G := T121.setTop (mkF m 37 #[.val (.ref r0), .val (.int (0 : Int32)), .val (.ref nb), .val (.ref b4), .val (.int (39 : Int32))] [(.int ((0 : Int32) &&& (255 : Int32))), (.int (39 : Int32)), (.ref b4)])) (fun _ k => XS.iand X121.here hx rfl (hb hby d7_36) rfl k) ?_
  rw [show ((0 : Int32) &&& (255 : Int32)) = (0 : Int32) from by decide]
  refine own_go (G := T121.setTop (mkF m 38 #[.val (.ref r0), .val (.int (0 : Int32)), .val (.ref nb), .val (.ref b4), .val (.int (39 : Int32))] [(.int ((0 : Int32).toUInt32.toUInt16.toUInt32.toInt32)), (.int (39 : Int32)), (.ref b4)])) (fun _ k => XS.i2c X121.here hx rfl (hb hby d7_37) rfl k) ?_
  rw [show ((0 : Int32).toUInt32.toUInt16.toUInt32.toInt32) = (0 : Int32) from by decide]
  obtain ⟨cl124, Ar124, qk124, S124, N124_, Ha124, G124⟩ := id V121_b4
  have hin124 : ¬ ((39 : Int32) < 0 ∨ cl124.slots.size ≤ ((39 : Int32)).toNatClampNeg) := inb_of S124 ⟨by decide, by decide⟩
  obtain ⟨T124, h124, X124, e124, W124, st124⟩ := stC X121 hx hZ e121 Ar124 (j := (39 : Int32)) hin124 (g := (mkF m 38 #[.val (.ref r0), .val (.int (0 : Int32)), .val (.ref nb), .val (.ref b4), .val (.int (39 : Int32))] [(.int (0 : Int32)), (.int (39 : Int32)), (.ref b4)])) rfl rfl (hb hby d7_38)
  have V124_b4 : Arv Z h124 b4 k4 .char (64 : Int32) (own_B (nar .char ((x0 &&& (255 : Int32)).toUInt32.toUInt16.toUInt32.toInt32)) (nar .char ((x1 &&& (255 : Int32)).toUInt32.toUInt16.toUInt32.toInt32)) (nar .char ((x2 &&& (255 : Int32)).toUInt32.toUInt16.toUInt32.toInt32))) (.int (0 : Int32)) := Arv.set Ar124 qk124 S124 N124_ Ha124 G124 (fits_nar_char _) W124 39 rfl (Nat.le_of_ble_eq_true rfl)
  have E_r0_c124 : Exa Z h124 r0 "com/example/xrefloom/xrefloom/tree/CompactText" := E_r0_c121.wr W124
  have F_length_c124 : Fld Z h124 r0 "com/example/xrefloom/xrefloom/tree/CompactText" "length" "I" (.int len) := F_length_c121.other W124 (Or.inl ne_r0_b4)
  have F_narrow_c124 : Fld Z h124 r0 "com/example/xrefloom/xrefloom/tree/CompactText" "narrow" "[[B" (.ref na) := F_narrow_c121.other W124 (Or.inl ne_r0_b4)
  have F_wide_c124 : Fld Z h124 r0 "com/example/xrefloom/xrefloom/tree/CompactText" "wide" "[[C" (.ref wa) := F_wide_c121.other W124 (Or.inl ne_r0_b4)
  have V_na_c124 : Arv Z h124 na kn (.array .byte) (1 : Int32) [(.ref nb)] .null := V_na_c121.other W124 ne_na_b4
  have V_wa_c124 : Arv Z h124 wa kw (.array .char) (1 : Int32) [.null] .null := V_wa_c121.other W124 ne_wa_b4
  have V_nb_c124 : Arv Z h124 nb kb .byte (64 : Int32) (own_B x0 x1 x2) (.int (0 : Int32)) := V_nb_c121.other W124 ne_nb_b4
  have Ea4_c124 : Exa Z h124 b4 "[C" := Ea4_c121.wr W124
  have N124 := Fr.snoc X124 N121 gn_b4
  have Z124 : n0 ≤ h124.size := Nat.le_trans Z121 (Keep.of_wr W124).1
  refine own_go (G := T124.setTop (mkF m 39 #[.val (.ref r0), .val (.int (0 : Int32)), .val (.ref nb), .val (.ref b4), .val (.int (39 : Int32))] [])) (st124) ?_
  refine own_go (G := T124.setTop (mkF m 42 #[.val (.ref r0), .val (.int (0 : Int32)), .val (.ref nb), .val (.ref b4), .val (.int ((39 : Int32) + (1 : Int32)))] [])) (fun _ k => XS.iinc X124.here hx rfl (hb hby d7_39) rfl (l' := #[.val (.ref r0), .val (.int (0 : Int32)), .val (.ref nb), .val (.ref b4), .val (.int ((39 : Int32) + (1 : Int32)))]) rfl k) ?_
  rw [show ((39 : Int32) + (1 : Int32)) = (40 : Int32) from by decide]
  refine own_go (G := T124.setTop (mkF m 19 #[.val (.ref r0), .val (.int (0 : Int32)), .val (.ref nb), .val (.ref b4), .val (.int (40 : Int32))] [])) (fun _ k => XS.goto X124.here hx rfl (pc0 := 42) (pc' := 19) rfl (hb hby d7_42) (by decide) (by decide) k) ?_
  refine own_go (G := T124.setTop (mkF m 21 #[.val (.ref r0), .val (.int (0 : Int32)), .val (.ref nb), .val (.ref b4), .val (.int (40 : Int32))] [(.int (40 : Int32))])) (fun _ k => XS.iload X124.here hx rfl (hb hby d7_19) rfl k) ?_
  refine own_go (G := T124.setTop (mkF m 22 #[.val (.ref r0), .val (.int (0 : Int32)), .val (.ref nb), .val (.ref b4), .val (.int (40 : Int32))] [(.ref nb), (.int (40 : Int32))])) (fun _ k => XS.aloadN X124.here hx rfl (hb hby d7_21) rfl rfl k) ?_
  obtain ⟨cl125, Ar125, -, S125, N125_, -, -⟩ := id V_nb_c124
  refine own_go (G := T124.setTop (mkF m 23 #[.val (.ref r0), .val (.int (0 : Int32)), .val (.ref nb), .val (.ref b4), .val (.int (40 : Int32))] [(.int (64 : Int32)), (.int (40 : Int32))])) (fun t k => X124.arraylength hx (by rw [e124]; exact Ar125.1) (State.isArrayOf_alike hZ.alike Ar125.2.1) (g := (mkF m 22 #[.val (.ref r0), .val (.int (0 : Int32)), .val (.ref nb), .val (.ref b4), .val (.int (40 : Int32))] [(.ref nb), (.int (40 : Int32))])) rfl rfl (hb hby d7_22) t (by rw [len_of S125 N125_]; exact k)) ?_
  refine own_go (G := T124.setTop (mkF m 26 #[.val (.ref r0), .val (.int (0 : Int32)), .val (.ref nb), .val (.ref b4), .val (.int (40 : Int32))] [])) (fun _ k => XS.icmpNo X124.here hx rfl (hb hby d7_23) rfl (tlt (by decide : (40 : Int32) < (64 : Int32))).2.1 k) ?_
  refine own_go (G := T124.setTop (mkF m 27 #[.val (.ref r0), .val (.int (0 : Int32)), .val (.ref nb), .val (.ref b4), .val (.int (40 : Int32))] [(.ref b4)])) (fun _ k => XS.aloadN X124.here hx rfl (hb hby d7_26) rfl rfl k) ?_
  refine own_go (G := T124.setTop (mkF m 29 #[.val (.ref r0), .val (.int (0 : Int32)), .val (.ref nb), .val (.ref b4), .val (.int (40 : Int32))] [(.int (40 : Int32)), (.ref b4)])) (fun _ k => XS.iload X124.here hx rfl (hb hby d7_27) rfl k) ?_
  refine own_go (G := T124.setTop (mkF m 30 #[.val (.ref r0), .val (.int (0 : Int32)), .val (.ref nb), .val (.ref b4), .val (.int (40 : Int32))] [(.ref nb), (.int (40 : Int32)), (.ref b4)])) (fun _ k => XS.aloadN X124.here hx rfl (hb hby d7_29) rfl rfl k) ?_
  refine own_go (G := T124.setTop (mkF m 32 #[.val (.ref r0), .val (.int (0 : Int32)), .val (.ref nb), .val (.ref b4), .val (.int (40 : Int32))] [(.int (40 : Int32)), (.ref nb), (.int (40 : Int32)), (.ref b4)])) (fun _ k => XS.iload X124.here hx rfl (hb hby d7_30) rfl k) ?_
  obtain ⟨cl126, Ar126, qk126, S126, N126_, Ha126, G126⟩ := id V_nb_c124
  have hin126 : ¬ ((40 : Int32) < 0 ∨ cl126.slots.size ≤ ((40 : Int32)).toNatClampNeg) := inb_of S126 ⟨by decide, by decide⟩
  have hat126 : cl126.slots[((40 : Int32)).toNatClampNeg]? = some (.int (0 : Int32)) := Ha126.at hin126 rfl
  refine own_go (G := T124.setTop (mkF m 33 #[.val (.ref r0), .val (.int (0 : Int32)), .val (.ref nb), .val (.ref b4), .val (.int (40 : Int32))] [(.int (0 : Int32)), (.int (40 : Int32)), (.ref b4)])) (X124.baloadBytes hx (j := (40 : Int32)) (v := (.int (0 : Int32))) (by rw [e124]; exact Ar126.1) (State.isArrayOf_alike hZ.alike Ar126.2.1) Ar126.2.2 hin126 hat126 (g := (mkF m 32 #[.val (.ref r0), .val (.int (0 : Int32)), .val (.ref nb), .val (.ref b4), .val (.int (40 : Int32))] [(.int (40 : Int32)), (.ref nb), (.int (40 : Int32)), (.ref b4)])) rfl rfl (hb hby d7_32)) ?_
  refine own_go (G := T124.setTop (mkF m 36 #[.val (.ref r0), .val (.int (0 : Int32)), .val (.ref nb), .val (.ref b4), .val (.int (40 : Int32))] [(.int (255 : Int32)), (.int (0 : Int32)), (.int (40 : Int32)), (.ref b4)])) (fun _ k => XS.sipush X124.here hx rfl (hb hby d7_33) k) ?_
  refine own_go (G := T124.setTop (mkF m 37 #[.val (.ref r0), .val (.int (0 : Int32)), .val (.ref nb), .val (.ref b4), .val (.int (40 : Int32))] [(.int ((0 : Int32) &&& (255 : Int32))), (.int (40 : Int32)), (.ref b4)])) (fun _ k => XS.iand X124.here hx rfl (hb hby d7_36) rfl k) ?_
  rw [show ((0 : Int32) &&& (255 : Int32)) = (0 : Int32) from by decide]
  refine own_go (G := T124.setTop (mkF m 38 #[.val (.ref r0), .val (.int (0 : Int32)), .val (.ref nb), .val (.ref b4), .val (.int (40 : Int32))] [(.int ((0 : Int32).toUInt32.toUInt16.toUInt32.toInt32)), (.int (40 : Int32)), (.ref b4)])) (fun _ k => XS.i2c X124.here hx rfl (hb hby d7_37) rfl k) ?_
  rw [show ((0 : Int32).toUInt32.toUInt16.toUInt32.toInt32) = (0 : Int32) from by decide]
  obtain ⟨cl127, Ar127, qk127, S127, N127_, Ha127, G127⟩ := id V124_b4
  have hin127 : ¬ ((40 : Int32) < 0 ∨ cl127.slots.size ≤ ((40 : Int32)).toNatClampNeg) := inb_of S127 ⟨by decide, by decide⟩
  obtain ⟨T127, h127, X127, e127, W127, st127⟩ := stC X124 hx hZ e124 Ar127 (j := (40 : Int32)) hin127 (g := (mkF m 38 #[.val (.ref r0), .val (.int (0 : Int32)), .val (.ref nb), .val (.ref b4), .val (.int (40 : Int32))] [(.int (0 : Int32)), (.int (40 : Int32)), (.ref b4)])) rfl rfl (hb hby d7_38)
  have V127_b4 : Arv Z h127 b4 k4 .char (64 : Int32) (own_B (nar .char ((x0 &&& (255 : Int32)).toUInt32.toUInt16.toUInt32.toInt32)) (nar .char ((x1 &&& (255 : Int32)).toUInt32.toUInt16.toUInt32.toInt32)) (nar .char ((x2 &&& (255 : Int32)).toUInt32.toUInt16.toUInt32.toInt32))) (.int (0 : Int32)) := Arv.set Ar127 qk127 S127 N127_ Ha127 G127 (fits_nar_char _) W127 40 rfl (Nat.le_of_ble_eq_true rfl)
  have E_r0_c127 : Exa Z h127 r0 "com/example/xrefloom/xrefloom/tree/CompactText" := E_r0_c124.wr W127
  have F_length_c127 : Fld Z h127 r0 "com/example/xrefloom/xrefloom/tree/CompactText" "length" "I" (.int len) := F_length_c124.other W127 (Or.inl ne_r0_b4)
  have F_narrow_c127 : Fld Z h127 r0 "com/example/xrefloom/xrefloom/tree/CompactText" "narrow" "[[B" (.ref na) := F_narrow_c124.other W127 (Or.inl ne_r0_b4)
  have F_wide_c127 : Fld Z h127 r0 "com/example/xrefloom/xrefloom/tree/CompactText" "wide" "[[C" (.ref wa) := F_wide_c124.other W127 (Or.inl ne_r0_b4)
  have V_na_c127 : Arv Z h127 na kn (.array .byte) (1 : Int32) [(.ref nb)] .null := V_na_c124.other W127 ne_na_b4
  have V_wa_c127 : Arv Z h127 wa kw (.array .char) (1 : Int32) [.null] .null := V_wa_c124.other W127 ne_wa_b4
  have V_nb_c127 : Arv Z h127 nb kb .byte (64 : Int32) (own_B x0 x1 x2) (.int (0 : Int32)) := V_nb_c124.other W127 ne_nb_b4
  have Ea4_c127 : Exa Z h127 b4 "[C" := Ea4_c124.wr W127
  have N127 := Fr.snoc X127 N124 gn_b4
  have Z127 : n0 ≤ h127.size := Nat.le_trans Z124 (Keep.of_wr W127).1
  refine own_go (G := T127.setTop (mkF m 39 #[.val (.ref r0), .val (.int (0 : Int32)), .val (.ref nb), .val (.ref b4), .val (.int (40 : Int32))] [])) (st127) ?_
  refine own_go (G := T127.setTop (mkF m 42 #[.val (.ref r0), .val (.int (0 : Int32)), .val (.ref nb), .val (.ref b4), .val (.int ((40 : Int32) + (1 : Int32)))] [])) (fun _ k => XS.iinc X127.here hx rfl (hb hby d7_39) rfl (l' := #[.val (.ref r0), .val (.int (0 : Int32)), .val (.ref nb), .val (.ref b4), .val (.int ((40 : Int32) + (1 : Int32)))]) rfl k) ?_
  rw [show ((40 : Int32) + (1 : Int32)) = (41 : Int32) from by decide]
  refine own_go (G := T127.setTop (mkF m 19 #[.val (.ref r0), .val (.int (0 : Int32)), .val (.ref nb), .val (.ref b4), .val (.int (41 : Int32))] [])) (fun _ k => XS.goto X127.here hx rfl (pc0 := 42) (pc' := 19) rfl (hb hby d7_42) (by decide) (by decide) k) ?_
  refine own_go (G := T127.setTop (mkF m 21 #[.val (.ref r0), .val (.int (0 : Int32)), .val (.ref nb), .val (.ref b4), .val (.int (41 : Int32))] [(.int (41 : Int32))])) (fun _ k => XS.iload X127.here hx rfl (hb hby d7_19) rfl k) ?_
  refine own_go (G := T127.setTop (mkF m 22 #[.val (.ref r0), .val (.int (0 : Int32)), .val (.ref nb), .val (.ref b4), .val (.int (41 : Int32))] [(.ref nb), (.int (41 : Int32))])) (fun _ k => XS.aloadN X127.here hx rfl (hb hby d7_21) rfl rfl k) ?_
  obtain ⟨cl128, Ar128, -, S128, N128_, -, -⟩ := id V_nb_c127
  refine own_go (G := T127.setTop (mkF m 23 #[.val (.ref r0), .val (.int (0 : Int32)), .val (.ref nb), .val (.ref b4), .val (.int (41 : Int32))] [(.int (64 : Int32)), (.int (41 : Int32))])) (fun t k => X127.arraylength hx (by rw [e127]; exact Ar128.1) (State.isArrayOf_alike hZ.alike Ar128.2.1) (g := (mkF m 22 #[.val (.ref r0), .val (.int (0 : Int32)), .val (.ref nb), .val (.ref b4), .val (.int (41 : Int32))] [(.ref nb), (.int (41 : Int32))])) rfl rfl (hb hby d7_22) t (by rw [len_of S128 N128_]; exact k)) ?_
  refine own_go (G := T127.setTop (mkF m 26 #[.val (.ref r0), .val (.int (0 : Int32)), .val (.ref nb), .val (.ref b4), .val (.int (41 : Int32))] [])) (fun _ k => XS.icmpNo X127.here hx rfl (hb hby d7_23) rfl (tlt (by decide : (41 : Int32) < (64 : Int32))).2.1 k) ?_
  refine own_go (G := T127.setTop (mkF m 27 #[.val (.ref r0), .val (.int (0 : Int32)), .val (.ref nb), .val (.ref b4), .val (.int (41 : Int32))] [(.ref b4)])) (fun _ k => XS.aloadN X127.here hx rfl (hb hby d7_26) rfl rfl k) ?_
  refine own_go (G := T127.setTop (mkF m 29 #[.val (.ref r0), .val (.int (0 : Int32)), .val (.ref nb), .val (.ref b4), .val (.int (41 : Int32))] [(.int (41 : Int32)), (.ref b4)])) (fun _ k => XS.iload X127.here hx rfl (hb hby d7_27) rfl k) ?_
  refine own_go (G := T127.setTop (mkF m 30 #[.val (.ref r0), .val (.int (0 : Int32)), .val (.ref nb), .val (.ref b4), .val (.int (41 : Int32))] [(.ref nb), (.int (41 : Int32)), (.ref b4)])) (fun _ k => XS.aloadN X127.here hx rfl (hb hby d7_29) rfl rfl k) ?_
  refine own_go (G := T127.setTop (mkF m 32 #[.val (.ref r0), .val (.int (0 : Int32)), .val (.ref nb), .val (.ref b4), .val (.int (41 : Int32))] [(.int (41 : Int32)), (.ref nb), (.int (41 : Int32)), (.ref b4)])) (fun _ k => XS.iload X127.here hx rfl (hb hby d7_30) rfl k) ?_
  obtain ⟨cl129, Ar129, qk129, S129, N129_, Ha129, G129⟩ := id V_nb_c127
  have hin129 : ¬ ((41 : Int32) < 0 ∨ cl129.slots.size ≤ ((41 : Int32)).toNatClampNeg) := inb_of S129 ⟨by decide, by decide⟩
  have hat129 : cl129.slots[((41 : Int32)).toNatClampNeg]? = some (.int (0 : Int32)) := Ha129.at hin129 rfl
  refine own_go (G := T127.setTop (mkF m 33 #[.val (.ref r0), .val (.int (0 : Int32)), .val (.ref nb), .val (.ref b4), .val (.int (41 : Int32))] [(.int (0 : Int32)), (.int (41 : Int32)), (.ref b4)])) (X127.baloadBytes hx (j := (41 : Int32)) (v := (.int (0 : Int32))) (by rw [e127]; exact Ar129.1) (State.isArrayOf_alike hZ.alike Ar129.2.1) Ar129.2.2 hin129 hat129 (g := (mkF m 32 #[.val (.ref r0), .val (.int (0 : Int32)), .val (.ref nb), .val (.ref b4), .val (.int (41 : Int32))] [(.int (41 : Int32)), (.ref nb), (.int (41 : Int32)), (.ref b4)])) rfl rfl (hb hby d7_32)) ?_
  refine own_go (G := T127.setTop (mkF m 36 #[.val (.ref r0), .val (.int (0 : Int32)), .val (.ref nb), .val (.ref b4), .val (.int (41 : Int32))] [(.int (255 : Int32)), (.int (0 : Int32)), (.int (41 : Int32)), (.ref b4)])) (fun _ k => XS.sipush X127.here hx rfl (hb hby d7_33) k) ?_
  refine own_go (G := T127.setTop (mkF m 37 #[.val (.ref r0), .val (.int (0 : Int32)), .val (.ref nb), .val (.ref b4), .val (.int (41 : Int32))] [(.int ((0 : Int32) &&& (255 : Int32))), (.int (41 : Int32)), (.ref b4)])) (fun _ k => XS.iand X127.here hx rfl (hb hby d7_36) rfl k) ?_
  rw [show ((0 : Int32) &&& (255 : Int32)) = (0 : Int32) from by decide]
  refine own_go (G := T127.setTop (mkF m 38 #[.val (.ref r0), .val (.int (0 : Int32)), .val (.ref nb), .val (.ref b4), .val (.int (41 : Int32))] [(.int ((0 : Int32).toUInt32.toUInt16.toUInt32.toInt32)), (.int (41 : Int32)), (.ref b4)])) (fun _ k => XS.i2c X127.here hx rfl (hb hby d7_37) rfl k) ?_
  rw [show ((0 : Int32).toUInt32.toUInt16.toUInt32.toInt32) = (0 : Int32) from by decide]
  obtain ⟨cl130, Ar130, qk130, S130, N130_, Ha130, G130⟩ := id V127_b4
  have hin130 : ¬ ((41 : Int32) < 0 ∨ cl130.slots.size ≤ ((41 : Int32)).toNatClampNeg) := inb_of S130 ⟨by decide, by decide⟩
  obtain ⟨T130, h130, X130, e130, W130, st130⟩ := stC X127 hx hZ e127 Ar130 (j := (41 : Int32)) hin130 (g := (mkF m 38 #[.val (.ref r0), .val (.int (0 : Int32)), .val (.ref nb), .val (.ref b4), .val (.int (41 : Int32))] [(.int (0 : Int32)), (.int (41 : Int32)), (.ref b4)])) rfl rfl (hb hby d7_38)
  have V130_b4 : Arv Z h130 b4 k4 .char (64 : Int32) (own_B (nar .char ((x0 &&& (255 : Int32)).toUInt32.toUInt16.toUInt32.toInt32)) (nar .char ((x1 &&& (255 : Int32)).toUInt32.toUInt16.toUInt32.toInt32)) (nar .char ((x2 &&& (255 : Int32)).toUInt32.toUInt16.toUInt32.toInt32))) (.int (0 : Int32)) := Arv.set Ar130 qk130 S130 N130_ Ha130 G130 (fits_nar_char _) W130 41 rfl (Nat.le_of_ble_eq_true rfl)
  have E_r0_c130 : Exa Z h130 r0 "com/example/xrefloom/xrefloom/tree/CompactText" := E_r0_c127.wr W130
  have F_length_c130 : Fld Z h130 r0 "com/example/xrefloom/xrefloom/tree/CompactText" "length" "I" (.int len) := F_length_c127.other W130 (Or.inl ne_r0_b4)
  have F_narrow_c130 : Fld Z h130 r0 "com/example/xrefloom/xrefloom/tree/CompactText" "narrow" "[[B" (.ref na) := F_narrow_c127.other W130 (Or.inl ne_r0_b4)
  have F_wide_c130 : Fld Z h130 r0 "com/example/xrefloom/xrefloom/tree/CompactText" "wide" "[[C" (.ref wa) := F_wide_c127.other W130 (Or.inl ne_r0_b4)
  have V_na_c130 : Arv Z h130 na kn (.array .byte) (1 : Int32) [(.ref nb)] .null := V_na_c127.other W130 ne_na_b4
  have V_wa_c130 : Arv Z h130 wa kw (.array .char) (1 : Int32) [.null] .null := V_wa_c127.other W130 ne_wa_b4
  have V_nb_c130 : Arv Z h130 nb kb .byte (64 : Int32) (own_B x0 x1 x2) (.int (0 : Int32)) := V_nb_c127.other W130 ne_nb_b4
  have Ea4_c130 : Exa Z h130 b4 "[C" := Ea4_c127.wr W130
  have N130 := Fr.snoc X130 N127 gn_b4
  have Z130 : n0 ≤ h130.size := Nat.le_trans Z127 (Keep.of_wr W130).1
  refine own_go (G := T130.setTop (mkF m 39 #[.val (.ref r0), .val (.int (0 : Int32)), .val (.ref nb), .val (.ref b4), .val (.int (41 : Int32))] [])) (st130) ?_
  refine own_go (G := T130.setTop (mkF m 42 #[.val (.ref r0), .val (.int (0 : Int32)), .val (.ref nb), .val (.ref b4), .val (.int ((41 : Int32) + (1 : Int32)))] [])) (fun _ k => XS.iinc X130.here hx rfl (hb hby d7_39) rfl (l' := #[.val (.ref r0), .val (.int (0 : Int32)), .val (.ref nb), .val (.ref b4), .val (.int ((41 : Int32) + (1 : Int32)))]) rfl k) ?_
  rw [show ((41 : Int32) + (1 : Int32)) = (42 : Int32) from by decide]
  refine own_go (G := T130.setTop (mkF m 19 #[.val (.ref r0), .val (.int (0 : Int32)), .val (.ref nb), .val (.ref b4), .val (.int (42 : Int32))] [])) (fun _ k => XS.goto X130.here hx rfl (pc0 := 42) (pc' := 19) rfl (hb hby d7_42) (by decide) (by decide) k) ?_
  refine own_go (G := T130.setTop (mkF m 21 #[.val (.ref r0), .val (.int (0 : Int32)), .val (.ref nb), .val (.ref b4), .val (.int (42 : Int32))] [(.int (42 : Int32))])) (fun _ k => XS.iload X130.here hx rfl (hb hby d7_19) rfl k) ?_
  refine own_go (G := T130.setTop (mkF m 22 #[.val (.ref r0), .val (.int (0 : Int32)), .val (.ref nb), .val (.ref b4), .val (.int (42 : Int32))] [(.ref nb), (.int (42 : Int32))])) (fun _ k => XS.aloadN X130.here hx rfl (hb hby d7_21) rfl rfl k) ?_
  obtain ⟨cl131, Ar131, -, S131, N131_, -, -⟩ := id V_nb_c130
  refine own_go (G := T130.setTop (mkF m 23 #[.val (.ref r0), .val (.int (0 : Int32)), .val (.ref nb), .val (.ref b4), .val (.int (42 : Int32))] [(.int (64 : Int32)), (.int (42 : Int32))])) (fun t k => X130.arraylength hx (by rw [e130]; exact Ar131.1) (State.isArrayOf_alike hZ.alike Ar131.2.1) (g := (mkF m 22 #[.val (.ref r0), .val (.int (0 : Int32)), .val (.ref nb), .val (.ref b4), .val (.int (42 : Int32))] [(.ref nb), (.int (42 : Int32))])) rfl rfl (hb hby d7_22) t (by rw [len_of S131 N131_]; exact k)) ?_
  refine own_go (G := T130.setTop (mkF m 26 #[.val (.ref r0), .val (.int (0 : Int32)), .val (.ref nb), .val (.ref b4), .val (.int (42 : Int32))] [])) (fun _ k => XS.icmpNo X130.here hx rfl (hb hby d7_23) rfl (tlt (by decide : (42 : Int32) < (64 : Int32))).2.1 k) ?_
  refine own_go (G := T130.setTop (mkF m 27 #[.val (.ref r0), .val (.int (0 : Int32)), .val (.ref nb), .val (.ref b4), .val (.int (42 : Int32))] [(.ref b4)])) (fun _ k => XS.aloadN X130.here hx rfl (hb hby d7_26) rfl rfl k) ?_
  refine own_go (G := T130.setTop (mkF m 29 #[.val (.ref r0), .val (.int (0 : Int32)), .val (.ref nb), .val (.ref b4), .val (.int (42 : Int32))] [(.int (42 : Int32)), (.ref b4)])) (fun _ k => XS.iload X130.here hx rfl (hb hby d7_27) rfl k) ?_
  refine own_go (G := T130.setTop (mkF m 30 #[.val (.ref r0), .val (.int (0 : Int32)), .val (.ref nb), .val (.ref b4), .val (.int (42 : Int32))] [(.ref nb), (.int (42 : Int32)), (.ref b4)])) (fun _ k => XS.aloadN X130.here hx rfl (hb hby d7_29) rfl rfl k) ?_
  refine own_go (G := T130.setTop (mkF m 32 #[.val (.ref r0), .val (.int (0 : Int32)), .val (.ref nb), .val (.ref b4), .val (.int (42 : Int32))] [(.int (42 : Int32)), (.ref nb), (.int (42 : Int32)), (.ref b4)])) (fun _ k => XS.iload X130.here hx rfl (hb hby d7_30) rfl k) ?_
  obtain ⟨cl132, Ar132, qk132, S132, N132_, Ha132, G132⟩ := id V_nb_c130
  have hin132 : ¬ ((42 : Int32) < 0 ∨ cl132.slots.size ≤ ((42 : Int32)).toNatClampNeg) := inb_of S132 ⟨by decide, by decide⟩
  have hat132 : cl132.slots[((42 : Int32)).toNatClampNeg]? = some (.int (0 : Int32)) := Ha132.at hin132 rfl
  refine own_go (G := T130.setTop (mkF m 33 #[.val (.ref r0), .val (.int (0 : Int32)), .val (.ref nb), .val (.ref b4), .val (.int (42 : Int32))] [(.int (0 : Int32)), (.int (42 : Int32)), (.ref b4)])) (X130.baloadBytes hx (j := (42 : Int32)) (v := (.int (0 : Int32))) (by rw [e130]; exact Ar132.1) (State.isArrayOf_alike hZ.alike Ar132.2.1) Ar132.2.2 hin132 hat132 (g := (mkF m 32 #[.val (.ref r0), .val (.int (0 : Int32)), .val (.ref nb), .val (.ref b4), .val (.int (42 : Int32))] [(.int (42 : Int32)), (.ref nb), (.int (42 : Int32)), (.ref b4)])) rfl rfl (hb hby d7_32)) ?_
  refine own_go (G := T130.setTop (mkF m 36 #[.val (.ref r0), .val (.int (0 : Int32)), .val (.ref nb), .val (.ref b4), .val (.int (42 : Int32))] [(.int (255 : Int32)), (.int (0 : Int32)), (.int (42 : Int32)), (.ref b4)])) (fun _ k => XS.sipush X130.here hx rfl (hb hby d7_33) k) ?_
  refine own_go (G := T130.setTop (mkF m 37 #[.val (.ref r0), .val (.int (0 : Int32)), .val (.ref nb), .val (.ref b4), .val (.int (42 : Int32))] [(.int ((0 : Int32) &&& (255 : Int32))), (.int (42 : Int32)), (.ref b4)])) (fun _ k => XS.iand X130.here hx rfl (hb hby d7_36) rfl k) ?_
  rw [show ((0 : Int32) &&& (255 : Int32)) = (0 : Int32) from by decide]
  refine own_go (G := T130.setTop (mkF m 38 #[.val (.ref r0), .val (.int (0 : Int32)), .val (.ref nb), .val (.ref b4), .val (.int (42 : Int32))] [(.int ((0 : Int32).toUInt32.toUInt16.toUInt32.toInt32)), (.int (42 : Int32)), (.ref b4)])) (fun _ k => XS.i2c X130.here hx rfl (hb hby d7_37) rfl k) ?_
  rw [show ((0 : Int32).toUInt32.toUInt16.toUInt32.toInt32) = (0 : Int32) from by decide]
  obtain ⟨cl133, Ar133, qk133, S133, N133_, Ha133, G133⟩ := id V130_b4
  have hin133 : ¬ ((42 : Int32) < 0 ∨ cl133.slots.size ≤ ((42 : Int32)).toNatClampNeg) := inb_of S133 ⟨by decide, by decide⟩
  obtain ⟨T133, h133, X133, e133, W133, st133⟩ := stC X130 hx hZ e130 Ar133 (j := (42 : Int32)) hin133 (g := (mkF m 38 #[.val (.ref r0), .val (.int (0 : Int32)), .val (.ref nb), .val (.ref b4), .val (.int (42 : Int32))] [(.int (0 : Int32)), (.int (42 : Int32)), (.ref b4)])) rfl rfl (hb hby d7_38)
  have V133_b4 : Arv Z h133 b4 k4 .char (64 : Int32) (own_B (nar .char ((x0 &&& (255 : Int32)).toUInt32.toUInt16.toUInt32.toInt32)) (nar .char ((x1 &&& (255 : Int32)).toUInt32.toUInt16.toUInt32.toInt32)) (nar .char ((x2 &&& (255 : Int32)).toUInt32.toUInt16.toUInt32.toInt32))) (.int (0 : Int32)) := Arv.set Ar133 qk133 S133 N133_ Ha133 G133 (fits_nar_char _) W133 42 rfl (Nat.le_of_ble_eq_true rfl)
  have E_r0_c133 : Exa Z h133 r0 "com/example/xrefloom/xrefloom/tree/CompactText" := E_r0_c130.wr W133
  have F_length_c133 : Fld Z h133 r0 "com/example/xrefloom/xrefloom/tree/CompactText" "length" "I" (.int len) := F_length_c130.other W133 (Or.inl ne_r0_b4)
  have F_narrow_c133 : Fld Z h133 r0 "com/example/xrefloom/xrefloom/tree/CompactText" "narrow" "[[B" (.ref na) := F_narrow_c130.other W133 (Or.inl ne_r0_b4)
  have F_wide_c133 : Fld Z h133 r0 "com/example/xrefloom/xrefloom/tree/CompactText" "wide" "[[C" (.ref wa) := F_wide_c130.other W133 (Or.inl ne_r0_b4)
  have V_na_c133 : Arv Z h133 na kn (.array .byte) (1 : Int32) [(.ref nb)] .null := V_na_c130.other W133 ne_na_b4
  have V_wa_c133 : Arv Z h133 wa kw (.array .char) (1 : Int32) [.null] .null := V_wa_c130.other W133 ne_wa_b4
  have V_nb_c133 : Arv Z h133 nb kb .byte (64 : Int32) (own_B x0 x1 x2) (.int (0 : Int32)) := V_nb_c130.other W133 ne_nb_b4
  have Ea4_c133 : Exa Z h133 b4 "[C" := Ea4_c130.wr W133
  have N133 := Fr.snoc X133 N130 gn_b4
  have Z133 : n0 ≤ h133.size := Nat.le_trans Z130 (Keep.of_wr W133).1
  refine own_go (G := T133.setTop (mkF m 39 #[.val (.ref r0), .val (.int (0 : Int32)), .val (.ref nb), .val (.ref b4), .val (.int (42 : Int32))] [])) (st133) ?_
  refine own_go (G := T133.setTop (mkF m 42 #[.val (.ref r0), .val (.int (0 : Int32)), .val (.ref nb), .val (.ref b4), .val (.int ((42 : Int32) + (1 : Int32)))] [])) (fun _ k => XS.iinc X133.here hx rfl (hb hby d7_39) rfl (l' := #[.val (.ref r0), .val (.int (0 : Int32)), .val (.ref nb), .val (.ref b4), .val (.int ((42 : Int32) + (1 : Int32)))]) rfl k) ?_
  rw [show ((42 : Int32) + (1 : Int32)) = (43 : Int32) from by decide]
  refine own_go (G := T133.setTop (mkF m 19 #[.val (.ref r0), .val (.int (0 : Int32)), .val (.ref nb), .val (.ref b4), .val (.int (43 : Int32))] [])) (fun _ k => XS.goto X133.here hx rfl (pc0 := 42) (pc' := 19) rfl (hb hby d7_42) (by decide) (by decide) k) ?_
  refine own_go (G := T133.setTop (mkF m 21 #[.val (.ref r0), .val (.int (0 : Int32)), .val (.ref nb), .val (.ref b4), .val (.int (43 : Int32))] [(.int (43 : Int32))])) (fun _ k => XS.iload X133.here hx rfl (hb hby d7_19) rfl k) ?_
  refine own_go (G := T133.setTop (mkF m 22 #[.val (.ref r0), .val (.int (0 : Int32)), .val (.ref nb), .val (.ref b4), .val (.int (43 : Int32))] [(.ref nb), (.int (43 : Int32))])) (fun _ k => XS.aloadN X133.here hx rfl (hb hby d7_21) rfl rfl k) ?_
  obtain ⟨cl134, Ar134, -, S134, N134_, -, -⟩ := id V_nb_c133
  refine own_go (G := T133.setTop (mkF m 23 #[.val (.ref r0), .val (.int (0 : Int32)), .val (.ref nb), .val (.ref b4), .val (.int (43 : Int32))] [(.int (64 : Int32)), (.int (43 : Int32))])) (fun t k => X133.arraylength hx (by rw [e133]; exact Ar134.1) (State.isArrayOf_alike hZ.alike Ar134.2.1) (g := (mkF m 22 #[.val (.ref r0), .val (.int (0 : Int32)), .val (.ref nb), .val (.ref b4), .val (.int (43 : Int32))] [(.ref nb), (.int (43 : Int32))])) rfl rfl (hb hby d7_22) t (by rw [len_of S134 N134_]; exact k)) ?_
  refine own_go (G := T133.setTop (mkF m 26 #[.val (.ref r0), .val (.int (0 : Int32)), .val (.ref nb), .val (.ref b4), .val (.int (43 : Int32))] [])) (fun _ k => XS.icmpNo X133.here hx rfl (hb hby d7_23) rfl (tlt (by decide : (43 : Int32) < (64 : Int32))).2.1 k) ?_
  refine own_go (G := T133.setTop (mkF m 27 #[.val (.ref r0), .val (.int (0 : Int32)), .val (.ref nb), .val (.ref b4), .val (.int (43 : Int32))] [(.ref b4)])) (fun _ k => XS.aloadN X133.here hx rfl (hb hby d7_26) rfl rfl k) ?_
  refine own_go (G := T133.setTop (mkF m 29 #[.val (.ref r0), .val (.int (0 : Int32)), .val (.ref nb), .val (.ref b4), .val (.int (43 : Int32))] [(.int (43 : Int32)), (.ref b4)])) (fun _ k => XS.iload X133.here hx rfl (hb hby d7_27) rfl k) ?_
  refine own_go (G := T133.setTop (mkF m 30 #[.val (.ref r0), .val (.int (0 : Int32)), .val (.ref nb), .val (.ref b4), .val (.int (43 : Int32))] [(.ref nb), (.int (43 : Int32)), (.ref b4)])) (fun _ k => XS.aloadN X133.here hx rfl (hb hby d7_29) rfl rfl k) ?_
  refine own_go (G := T133.setTop (mkF m 32 #[.val (.ref r0), .val (.int (0 : Int32)), .val (.ref nb), .val (.ref b4), .val (.int (43 : Int32))] [(.int (43 : Int32)), (.ref nb), (.int (43 : Int32)), (.ref b4)])) (fun _ k => XS.iload X133.here hx rfl (hb hby d7_30) rfl k) ?_
  obtain ⟨cl135, Ar135, qk135, S135, N135_, Ha135, G135⟩ := id V_nb_c133
  have hin135 : ¬ ((43 : Int32) < 0 ∨ cl135.slots.size ≤ ((43 : Int32)).toNatClampNeg) := inb_of S135 ⟨by decide, by decide⟩
  have hat135 : cl135.slots[((43 : Int32)).toNatClampNeg]? = some (.int (0 : Int32)) := Ha135.at hin135 rfl
  refine own_go (G := T133.setTop (mkF m 33 #[.val (.ref r0), .val (.int (0 : Int32)), .val (.ref nb), .val (.ref b4), .val (.int (43 : Int32))] [(.int (0 : Int32)), (.int (43 : Int32)), (.ref b4)])) (X133.baloadBytes hx (j := (43 : Int32)) (v := (.int (0 : Int32))) (by rw [e133]; exact Ar135.1) (State.isArrayOf_alike hZ.alike Ar135.2.1) Ar135.2.2 hin135 hat135 (g := (mkF m 32 #[.val (.ref r0), .val (.int (0 : Int32)), .val (.ref nb), .val (.ref b4), .val (.int (43 : Int32))] [(.int (43 : Int32)), (.ref nb), (.int (43 : Int32)), (.ref b4)])) rfl rfl (hb hby d7_32)) ?_
  refine own_go (G := T133.setTop (mkF m 36 #[.val (.ref r0), .val (.int (0 : Int32)), .val (.ref nb), .val (.ref b4), .val (.int (43 : Int32))] [(.int (255 : Int32)), (.int (0 : Int32)), (.int (43 : Int32)), (.ref b4)])) (fun _ k => XS.sipush X133.here hx rfl (hb hby d7_33) k) ?_
  refine own_go (G := T133.setTop (mkF m 37 #[.val (.ref r0), .val (.int (0 : Int32)), .val (.ref nb), .val (.ref b4), .val (.int (43 : Int32))] [(.int ((0 : Int32) &&& (255 : Int32))), (.int (43 : Int32)), (.ref b4)])) (fun _ k => XS.iand X133.here hx rfl (hb hby d7_36) rfl k) ?_
  rw [show ((0 : Int32) &&& (255 : Int32)) = (0 : Int32) from by decide]
  refine own_go (G := T133.setTop (mkF m 38 #[.val (.ref r0), .val (.int (0 : Int32)), .val (.ref nb), .val (.ref b4), .val (.int (43 : Int32))] [(.int ((0 : Int32).toUInt32.toUInt16.toUInt32.toInt32)), (.int (43 : Int32)), (.ref b4)])) (fun _ k => XS.i2c X133.here hx rfl (hb hby d7_37) rfl k) ?_
  rw [show ((0 : Int32).toUInt32.toUInt16.toUInt32.toInt32) = (0 : Int32) from by decide]
  obtain ⟨cl136, Ar136, qk136, S136, N136_, Ha136, G136⟩ := id V133_b4
  have hin136 : ¬ ((43 : Int32) < 0 ∨ cl136.slots.size ≤ ((43 : Int32)).toNatClampNeg) := inb_of S136 ⟨by decide, by decide⟩
  obtain ⟨T136, h136, X136, e136, W136, st136⟩ := stC X133 hx hZ e133 Ar136 (j := (43 : Int32)) hin136 (g := (mkF m 38 #[.val (.ref r0), .val (.int (0 : Int32)), .val (.ref nb), .val (.ref b4), .val (.int (43 : Int32))] [(.int (0 : Int32)), (.int (43 : Int32)), (.ref b4)])) rfl rfl (hb hby d7_38)
  have V136_b4 : Arv Z h136 b4 k4 .char (64 : Int32) (own_B (nar .char ((x0 &&& (255 : Int32)).toUInt32.toUInt16.toUInt32.toInt32)) (nar .char ((x1 &&& (255 : Int32)).toUInt32.toUInt16.toUInt32.toInt32)) (nar .char ((x2 &&& (255 : Int32)).toUInt32.toUInt16.toUInt32.toInt32))) (.int (0 : Int32)) := Arv.set Ar136 qk136 S136 N136_ Ha136 G136 (fits_nar_char _) W136 43 rfl (Nat.le_of_ble_eq_true rfl)
  have E_r0_c136 : Exa Z h136 r0 "com/example/xrefloom/xrefloom/tree/CompactText" := E_r0_c133.wr W136
  have F_length_c136 : Fld Z h136 r0 "com/example/xrefloom/xrefloom/tree/CompactText" "length" "I" (.int len) := F_length_c133.other W136 (Or.inl ne_r0_b4)
  have F_narrow_c136 : Fld Z h136 r0 "com/example/xrefloom/xrefloom/tree/CompactText" "narrow" "[[B" (.ref na) := F_narrow_c133.other W136 (Or.inl ne_r0_b4)
  have F_wide_c136 : Fld Z h136 r0 "com/example/xrefloom/xrefloom/tree/CompactText" "wide" "[[C" (.ref wa) := F_wide_c133.other W136 (Or.inl ne_r0_b4)
  have V_na_c136 : Arv Z h136 na kn (.array .byte) (1 : Int32) [(.ref nb)] .null := V_na_c133.other W136 ne_na_b4
  have V_wa_c136 : Arv Z h136 wa kw (.array .char) (1 : Int32) [.null] .null := V_wa_c133.other W136 ne_wa_b4
  have V_nb_c136 : Arv Z h136 nb kb .byte (64 : Int32) (own_B x0 x1 x2) (.int (0 : Int32)) := V_nb_c133.other W136 ne_nb_b4
  have Ea4_c136 : Exa Z h136 b4 "[C" := Ea4_c133.wr W136
  have N136 := Fr.snoc X136 N133 gn_b4
  have Z136 : n0 ≤ h136.size := Nat.le_trans Z133 (Keep.of_wr W136).1
  refine own_go (G := T136.setTop (mkF m 39 #[.val (.ref r0), .val (.int (0 : Int32)), .val (.ref nb), .val (.ref b4), .val (.int (43 : Int32))] [])) (st136) ?_
  refine own_go (G := T136.setTop (mkF m 42 #[.val (.ref r0), .val (.int (0 : Int32)), .val (.ref nb), .val (.ref b4), .val (.int ((43 : Int32) + (1 : Int32)))] [])) (fun _ k => XS.iinc X136.here hx rfl (hb hby d7_39) rfl (l' := #[.val (.ref r0), .val (.int (0 : Int32)), .val (.ref nb), .val (.ref b4), .val (.int ((43 : Int32) + (1 : Int32)))]) rfl k) ?_
  rw [show ((43 : Int32) + (1 : Int32)) = (44 : Int32) from by decide]
  refine own_go (G := T136.setTop (mkF m 19 #[.val (.ref r0), .val (.int (0 : Int32)), .val (.ref nb), .val (.ref b4), .val (.int (44 : Int32))] [])) (fun _ k => XS.goto X136.here hx rfl (pc0 := 42) (pc' := 19) rfl (hb hby d7_42) (by decide) (by decide) k) ?_
  refine own_go (G := T136.setTop (mkF m 21 #[.val (.ref r0), .val (.int (0 : Int32)), .val (.ref nb), .val (.ref b4), .val (.int (44 : Int32))] [(.int (44 : Int32))])) (fun _ k => XS.iload X136.here hx rfl (hb hby d7_19) rfl k) ?_
  refine own_go (G := T136.setTop (mkF m 22 #[.val (.ref r0), .val (.int (0 : Int32)), .val (.ref nb), .val (.ref b4), .val (.int (44 : Int32))] [(.ref nb), (.int (44 : Int32))])) (fun _ k => XS.aloadN X136.here hx rfl (hb hby d7_21) rfl rfl k) ?_
  obtain ⟨cl137, Ar137, -, S137, N137_, -, -⟩ := id V_nb_c136
  refine own_go (G := T136.setTop (mkF m 23 #[.val (.ref r0), .val (.int (0 : Int32)), .val (.ref nb), .val (.ref b4), .val (.int (44 : Int32))] [(.int (64 : Int32)), (.int (44 : Int32))])) (fun t k => X136.arraylength hx (by rw [e136]; exact Ar137.1) (State.isArrayOf_alike hZ.alike Ar137.2.1) (g := (mkF m 22 #[.val (.ref r0), .val (.int (0 : Int32)), .val (.ref nb), .val (.ref b4), .val (.int (44 : Int32))] [(.ref nb), (.int (44 : Int32))])) rfl rfl (hb hby d7_22) t (by rw [len_of S137 N137_]; exact k)) ?_
  refine own_go (G := T136.setTop (mkF m 26 #[.val (.ref r0), .val (.int (0 : Int32)), .val (.ref nb), .val (.ref b4), .val (.int (44 : Int32))] [])) (fun _ k => XS.icmpNo X136.here hx rfl (hb hby d7_23) rfl (tlt (by decide : (44 : Int32) < (64 : Int32))).2.1 k) ?_
  refine own_go (G := T136.setTop (mkF m 27 #[.val (.ref r0), .val (.int (0 : Int32)), .val (.ref nb), .val (.ref b4), .val (.int (44 : Int32))] [(.ref b4)])) (fun _ k => XS.aloadN X136.here hx rfl (hb hby d7_26) rfl rfl k) ?_
  refine own_go (G := T136.setTop (mkF m 29 #[.val (.ref r0), .val (.int (0 : Int32)), .val (.ref nb), .val (.ref b4), .val (.int (44 : Int32))] [(.int (44 : Int32)), (.ref b4)])) (fun _ k => XS.iload X136.here hx rfl (hb hby d7_27) rfl k) ?_
  refine own_go (G := T136.setTop (mkF m 30 #[.val (.ref r0), .val (.int (0 : Int32)), .val (.ref nb), .val (.ref b4), .val (.int (44 : Int32))] [(.ref nb), (.int (44 : Int32)), (.ref b4)])) (fun _ k => XS.aloadN X136.here hx rfl (hb hby d7_29) rfl rfl k) ?_
  refine own_go (G := T136.setTop (mkF m 32 #[.val (.ref r0), .val (.int (0 : Int32)), .val (.ref nb), .val (.ref b4), .val (.int (44 : Int32))] [(.int (44 : Int32)), (.ref nb), (.int (44 : Int32)), (.ref b4)])) (fun _ k => XS.iload X136.here hx rfl (hb hby d7_30) rfl k) ?_
  obtain ⟨cl138, Ar138, qk138, S138, N138_, Ha138, G138⟩ := id V_nb_c136
  have hin138 : ¬ ((44 : Int32) < 0 ∨ cl138.slots.size ≤ ((44 : Int32)).toNatClampNeg) := inb_of S138 ⟨by decide, by decide⟩
  have hat138 : cl138.slots[((44 : Int32)).toNatClampNeg]? = some (.int (0 : Int32)) := Ha138.at hin138 rfl
  refine own_go (G := T136.setTop (mkF m 33 #[.val (.ref r0), .val (.int (0 : Int32)), .val (.ref nb), .val (.ref b4), .val (.int (44 : Int32))] [(.int (0 : Int32)), (.int (44 : Int32)), (.ref b4)])) (X136.baloadBytes hx (j := (44 : Int32)) (v := (.int (0 : Int32))) (by rw [e136]; exact Ar138.1) (State.isArrayOf_alike hZ.alike Ar138.2.1) Ar138.2.2 hin138 hat138 (g := (mkF m 32 #[.val (.ref r0), .val (.int (0 : Int32)), .val (.ref nb), .val (.ref b4), .val (.int (44 : Int32))] [(.int (44 : Int32)), (.ref nb), (.int (44 : Int32)), (.ref b4)])) rfl rfl (hb hby d7_32)) ?_
  refine own_go (G := T136.setTop (mkF m 36 #[.val (.ref r0), .val (.int (0 : Int32)), .val (.ref nb), .val (.ref b4), .val (.int (44 : Int32))] [(.int (255 : Int32)), (.int (0 : Int32)), (.int (44 : Int32)), (.ref b4)])) (fun _ k => XS.sipush X136.here hx rfl (hb hby d7_33) k) ?_
  refine own_go (G := T136.setTop (mkF m 37 #[.val (.ref r0), .val (.int (0 : Int32)), .val (.ref nb), .val (.ref b4), .val (.int (44 : Int32))] [(.int ((0 : Int32) &&& (255 : Int32))), (.int (44 : Int32)), (.ref b4)])) (fun _ k => XS.iand X136.here hx rfl (hb hby d7_36) rfl k) ?_
  rw [show ((0 : Int32) &&& (255 : Int32)) = (0 : Int32) from by decide]
  refine own_go (G := T136.setTop (mkF m 38 #[.val (.ref r0), .val (.int (0 : Int32)), .val (.ref nb), .val (.ref b4), .val (.int (44 : Int32))] [(.int ((0 : Int32).toUInt32.toUInt16.toUInt32.toInt32)), (.int (44 : Int32)), (.ref b4)])) (fun _ k => XS.i2c X136.here hx rfl (hb hby d7_37) rfl k) ?_
  rw [show ((0 : Int32).toUInt32.toUInt16.toUInt32.toInt32) = (0 : Int32) from by decide]
  obtain ⟨cl139, Ar139, qk139, S139, N139_, Ha139, G139⟩ := id V136_b4
  have hin139 : ¬ ((44 : Int32) < 0 ∨ cl139.slots.size ≤ ((44 : Int32)).toNatClampNeg) := inb_of S139 ⟨by decide, by decide⟩
  obtain ⟨T139, h139, X139, e139, W139, st139⟩ := stC X136 hx hZ e136 Ar139 (j := (44 : Int32)) hin139 (g := (mkF m 38 #[.val (.ref r0), .val (.int (0 : Int32)), .val (.ref nb), .val (.ref b4), .val (.int (44 : Int32))] [(.int (0 : Int32)), (.int (44 : Int32)), (.ref b4)])) rfl rfl (hb hby d7_38)
  have V139_b4 : Arv Z h139 b4 k4 .char (64 : Int32) (own_B (nar .char ((x0 &&& (255 : Int32)).toUInt32.toUInt16.toUInt32.toInt32)) (nar .char ((x1 &&& (255 : Int32)).toUInt32.toUInt16.toUInt32.toInt32)) (nar .char ((x2 &&& (255 : Int32)).toUInt32.toUInt16.toUInt32.toInt32))) (.int (0 : Int32)) := Arv.set Ar139 qk139 S139 N139_ Ha139 G139 (fits_nar_char _) W139 44 rfl (Nat.le_of_ble_eq_true rfl)
  have E_r0_c139 : Exa Z h139 r0 "com/example/xrefloom/xrefloom/tree/CompactText" := E_r0_c136.wr W139
  have F_length_c139 : Fld Z h139 r0 "com/example/xrefloom/xrefloom/tree/CompactText" "length" "I" (.int len) := F_length_c136.other W139 (Or.inl ne_r0_b4)
  have F_narrow_c139 : Fld Z h139 r0 "com/example/xrefloom/xrefloom/tree/CompactText" "narrow" "[[B" (.ref na) := F_narrow_c136.other W139 (Or.inl ne_r0_b4)
  have F_wide_c139 : Fld Z h139 r0 "com/example/xrefloom/xrefloom/tree/CompactText" "wide" "[[C" (.ref wa) := F_wide_c136.other W139 (Or.inl ne_r0_b4)
  have V_na_c139 : Arv Z h139 na kn (.array .byte) (1 : Int32) [(.ref nb)] .null := V_na_c136.other W139 ne_na_b4
  have V_wa_c139 : Arv Z h139 wa kw (.array .char) (1 : Int32) [.null] .null := V_wa_c136.other W139 ne_wa_b4
  have V_nb_c139 : Arv Z h139 nb kb .byte (64 : Int32) (own_B x0 x1 x2) (.int (0 : Int32)) := V_nb_c136.other W139 ne_nb_b4
  have Ea4_c139 : Exa Z h139 b4 "[C" := Ea4_c136.wr W139
  have N139 := Fr.snoc X139 N136 gn_b4
  have Z139 : n0 ≤ h139.size := Nat.le_trans Z136 (Keep.of_wr W139).1
  refine own_go (G := T139.setTop (mkF m 39 #[.val (.ref r0), .val (.int (0 : Int32)), .val (.ref nb), .val (.ref b4), .val (.int (44 : Int32))] [])) (st139) ?_
  refine own_go (G := T139.setTop (mkF m 42 #[.val (.ref r0), .val (.int (0 : Int32)), .val (.ref nb), .val (.ref b4), .val (.int ((44 : Int32) + (1 : Int32)))] [])) (fun _ k => XS.iinc X139.here hx rfl (hb hby d7_39) rfl (l' := #[.val (.ref r0), .val (.int (0 : Int32)), .val (.ref nb), .val (.ref b4), .val (.int ((44 : Int32) + (1 : Int32)))]) rfl k) ?_
  rw [show ((44 : Int32) + (1 : Int32)) = (45 : Int32) from by decide]
  refine own_go (G := T139.setTop (mkF m 19 #[.val (.ref r0), .val (.int (0 : Int32)), .val (.ref nb), .val (.ref b4), .val (.int (45 : Int32))] [])) (fun _ k => XS.goto X139.here hx rfl (pc0 := 42) (pc' := 19) rfl (hb hby d7_42) (by decide) (by decide) k) ?_
  refine own_go (G := T139.setTop (mkF m 21 #[.val (.ref r0), .val (.int (0 : Int32)), .val (.ref nb), .val (.ref b4), .val (.int (45 : Int32))] [(.int (45 : Int32))])) (fun _ k => XS.iload X139.here hx rfl (hb hby d7_19) rfl k) ?_
  refine own_go (G := T139.setTop (mkF m 22 #[.val (.ref r0), .val (.int (0 : Int32)), .val (.ref nb), .val (.ref b4), .val (.int (45 : Int32))] [(.ref nb), (.int (45 : Int32))])) (fun _ k => XS.aloadN X139.here hx rfl (hb hby d7_21) rfl rfl k) ?_
  obtain ⟨cl140, Ar140, -, S140, N140_, -, -⟩ := id V_nb_c139
  refine own_go (G := T139.setTop (mkF m 23 #[.val (.ref r0), .val (.int (0 : Int32)), .val (.ref nb), .val (.ref b4), .val (.int (45 : Int32))] [(.int (64 : Int32)), (.int (45 : Int32))])) (fun t k => X139.arraylength hx (by rw [e139]; exact Ar140.1) (State.isArrayOf_alike hZ.alike Ar140.2.1) (g := (mkF m 22 #[.val (.ref r0), .val (.int (0 : Int32)), .val (.ref nb), .val (.ref b4), .val (.int (45 : Int32))] [(.ref nb), (.int (45 : Int32))])) rfl rfl (hb hby d7_22) t (by rw [len_of S140 N140_]; exact k)) ?_
  refine own_go (G := T139.setTop (mkF m 26 #[.val (.ref r0), .val (.int (0 : Int32)), .val (.ref nb), .val (.ref b4), .val (.int (45 : Int32))] [])) (fun _ k => XS.icmpNo X139.here hx rfl (hb hby d7_23) rfl (tlt (by decide : (45 : Int32) < (64 : Int32))).2.1 k) ?_
  refine own_go (G := T139.setTop (mkF m 27 #[.val (.ref r0), .val (.int (0 : Int32)), .val (.ref nb), .val (.ref b4), .val (.int (45 : Int32))] [(.ref b4)])) (fun _ k => XS.aloadN X139.here hx rfl (hb hby d7_26) rfl rfl k) ?_
  refine own_go (G := T139.setTop (mkF m 29 #[.val (.ref r0), .val (.int (0 : Int32)), .val (.ref nb), .val (.ref b4), .val (.int (45 : Int32))] [(.int (45 : Int32)), (.ref b4)])) (fun _ k => XS.iload X139.here hx rfl (hb hby d7_27) rfl k) ?_
  refine own_go (G := T139.setTop (mkF m 30 #[.val (.ref r0), .val (.int (0 : Int32)), .val (.ref nb), .val (.ref b4), .val (.int (45 : Int32))] [(.ref nb), (.int (45 : Int32)), (.ref b4)])) (fun _ k => XS.aloadN X139.here hx rfl (hb hby d7_29) rfl rfl k) ?_
  refine own_go (G := T139.setTop (mkF m 32 #[.val (.ref r0), .val (.int (0 : Int32)), .val (.ref nb), .val (.ref b4), .val (.int (45 : Int32))] [(.int (45 : Int32)), (.ref nb), (.int (45 : Int32)), (.ref b4)])) (fun _ k => XS.iload X139.here hx rfl (hb hby d7_30) rfl k) ?_
  obtain ⟨cl141, Ar141, qk141, S141, N141_, Ha141, G141⟩ := id V_nb_c139
  have hin141 : ¬ ((45 : Int32) < 0 ∨ cl141.slots.size ≤ ((45 : Int32)).toNatClampNeg) := inb_of S141 ⟨by decide, by decide⟩
  have hat141 : cl141.slots[((45 : Int32)).toNatClampNeg]? = some (.int (0 : Int32)) := Ha141.at hin141 rfl
  refine own_go (G := T139.setTop (mkF m 33 #[.val (.ref r0), .val (.int (0 : Int32)), .val (.ref nb), .val (.ref b4), .val (.int (45 : Int32))] [(.int (0 : Int32)), (.int (45 : Int32)), (.ref b4)])) (X139.baloadBytes hx (j := (45 : Int32)) (v := (.int (0 : Int32))) (by rw [e139]; exact Ar141.1) (State.isArrayOf_alike hZ.alike Ar141.2.1) Ar141.2.2 hin141 hat141 (g := (mkF m 32 #[.val (.ref r0), .val (.int (0 : Int32)), .val (.ref nb), .val (.ref b4), .val (.int (45 : Int32))] [(.int (45 : Int32)), (.ref nb), (.int (45 : Int32)), (.ref b4)])) rfl rfl (hb hby d7_32)) ?_
  refine own_go (G := T139.setTop (mkF m 36 #[.val (.ref r0), .val (.int (0 : Int32)), .val (.ref nb), .val (.ref b4), .val (.int (45 : Int32))] [(.int (255 : Int32)), (.int (0 : Int32)), (.int (45 : Int32)), (.ref b4)])) (fun _ k => XS.sipush X139.here hx rfl (hb hby d7_33) k) ?_
  refine own_go (G := T139.setTop (mkF m 37 #[.val (.ref r0), .val (.int (0 : Int32)), .val (.ref nb), .val (.ref b4), .val (.int (45 : Int32))] [(.int ((0 : Int32) &&& (255 : Int32))), (.int (45 : Int32)), (.ref b4)])) (fun _ k => XS.iand X139.here hx rfl (hb hby d7_36) rfl k) ?_
  rw [show ((0 : Int32) &&& (255 : Int32)) = (0 : Int32) from by decide]
  refine own_go (G := T139.setTop (mkF m 38 #[.val (.ref r0), .val (.int (0 : Int32)), .val (.ref nb), .val (.ref b4), .val (.int (45 : Int32))] [(.int ((0 : Int32).toUInt32.toUInt16.toUInt32.toInt32)), (.int (45 : Int32)), (.ref b4)])) (fun _ k => XS.i2c X139.here hx rfl (hb hby d7_37) rfl k) ?_
  rw [show ((0 : Int32).toUInt32.toUInt16.toUInt32.toInt32) = (0 : Int32) from by decide]
  obtain ⟨cl142, Ar142, qk142, S142, N142_, Ha142, G142⟩ := id V139_b4
  have hin142 : ¬ ((45 : Int32) < 0 ∨ cl142.slots.size ≤ ((45 : Int32)).toNatClampNeg) := inb_of S142 ⟨by decide, by decide⟩
  obtain ⟨T142, h142, X142, e142, W142, st142⟩ := stC X139 hx hZ e139 Ar142 (j := (45 : Int32)) hin142 (g := (mkF m 38 #[.val (.ref r0), .val (.int (0 : Int32)), .val (.ref nb), .val (.ref b4), .val (.int (45 : Int32))] [(.int (0 : Int32)), (.int (45 : Int32)), (.ref b4)])) rfl rfl (hb hby d7_38)
  have V142_b4 : Arv Z h142 b4 k4 .char (64 : Int32) (own_B (nar .char ((x0 &&& (255 : Int32)).toUInt32.toUInt16.toUInt32.toInt32)) (nar .char ((x1 &&& (255 : Int32)).toUInt32.toUInt16.toUInt32.toInt32)) (nar .char ((x2 &&& (255 : Int32)).toUInt32.toUInt16.toUInt32.toInt32))) (.int (0 : Int32)) := Arv.set Ar142 qk142 S142 N142_ Ha142 G142 (fits_nar_char _) W142 45 rfl (Nat.le_of_ble_eq_true rfl)
  have E_r0_c142 : Exa Z h142 r0 "com/example/xrefloom/xrefloom/tree/CompactText" := E_r0_c139.wr W142
  have F_length_c142 : Fld Z h142 r0 "com/example/xrefloom/xrefloom/tree/CompactText" "length" "I" (.int len) := F_length_c139.other W142 (Or.inl ne_r0_b4)
  have F_narrow_c142 : Fld Z h142 r0 "com/example/xrefloom/xrefloom/tree/CompactText" "narrow" "[[B" (.ref na) := F_narrow_c139.other W142 (Or.inl ne_r0_b4)
  have F_wide_c142 : Fld Z h142 r0 "com/example/xrefloom/xrefloom/tree/CompactText" "wide" "[[C" (.ref wa) := F_wide_c139.other W142 (Or.inl ne_r0_b4)
  have V_na_c142 : Arv Z h142 na kn (.array .byte) (1 : Int32) [(.ref nb)] .null := V_na_c139.other W142 ne_na_b4
  have V_wa_c142 : Arv Z h142 wa kw (.array .char) (1 : Int32) [.null] .null := V_wa_c139.other W142 ne_wa_b4
  have V_nb_c142 : Arv Z h142 nb kb .byte (64 : Int32) (own_B x0 x1 x2) (.int (0 : Int32)) := V_nb_c139.other W142 ne_nb_b4
  have Ea4_c142 : Exa Z h142 b4 "[C" := Ea4_c139.wr W142
  have N142 := Fr.snoc X142 N139 gn_b4
  have Z142 : n0 ≤ h142.size := Nat.le_trans Z139 (Keep.of_wr W142).1
  refine own_go (G := T142.setTop (mkF m 39 #[.val (.ref r0), .val (.int (0 : Int32)), .val (.ref nb), .val (.ref b4), .val (.int (45 : Int32))] [])) (st142) ?_
  refine own_go (G := T142.setTop (mkF m 42 #[.val (.ref r0), .val (.int (0 : Int32)), .val (.ref nb), .val (.ref b4), .val (.int ((45 : Int32) + (1 : Int32)))] [])) (fun _ k => XS.iinc X142.here hx rfl (hb hby d7_39) rfl (l' := #[.val (.ref r0), .val (.int (0 : Int32)), .val (.ref nb), .val (.ref b4), .val (.int ((45 : Int32) + (1 : Int32)))]) rfl k) ?_
  rw [show ((45 : Int32) + (1 : Int32)) = (46 : Int32) from by decide]
  refine own_go (G := T142.setTop (mkF m 19 #[.val (.ref r0), .val (.int (0 : Int32)), .val (.ref nb), .val (.ref b4), .val (.int (46 : Int32))] [])) (fun _ k => XS.goto X142.here hx rfl (pc0 := 42) (pc' := 19) rfl (hb hby d7_42) (by decide) (by decide) k) ?_
  refine own_go (G := T142.setTop (mkF m 21 #[.val (.ref r0), .val (.int (0 : Int32)), .val (.ref nb), .val (.ref b4), .val (.int (46 : Int32))] [(.int (46 : Int32))])) (fun _ k => XS.iload X142.here hx rfl (hb hby d7_19) rfl k) ?_
  refine own_go (G := T142.setTop (mkF m 22 #[.val (.ref r0), .val (.int (0 : Int32)), .val (.ref nb), .val (.ref b4), .val (.int (46 : Int32))] [(.ref nb), (.int (46 : Int32))])) (fun _ k => XS.aloadN X142.here hx rfl (hb hby d7_21) rfl rfl k) ?_
  obtain ⟨cl143, Ar143, -, S143, N143_, -, -⟩ := id V_nb_c142
  refine own_go (G := T142.setTop (mkF m 23 #[.val (.ref r0), .val (.int (0 : Int32)), .val (.ref nb), .val (.ref b4), .val (.int (46 : Int32))] [(.int (64 : Int32)), (.int (46 : Int32))])) (fun t k => X142.arraylength hx (by rw [e142]; exact Ar143.1) (State.isArrayOf_alike hZ.alike Ar143.2.1) (g := (mkF m 22 #[.val (.ref r0), .val (.int (0 : Int32)), .val (.ref nb), .val (.ref b4), .val (.int (46 : Int32))] [(.ref nb), (.int (46 : Int32))])) rfl rfl (hb hby d7_22) t (by rw [len_of S143 N143_]; exact k)) ?_
  refine own_go (G := T142.setTop (mkF m 26 #[.val (.ref r0), .val (.int (0 : Int32)), .val (.ref nb), .val (.ref b4), .val (.int (46 : Int32))] [])) (fun _ k => XS.icmpNo X142.here hx rfl (hb hby d7_23) rfl (tlt (by decide : (46 : Int32) < (64 : Int32))).2.1 k) ?_
  refine own_go (G := T142.setTop (mkF m 27 #[.val (.ref r0), .val (.int (0 : Int32)), .val (.ref nb), .val (.ref b4), .val (.int (46 : Int32))] [(.ref b4)])) (fun _ k => XS.aloadN X142.here hx rfl (hb hby d7_26) rfl rfl k) ?_
  refine own_go (G := T142.setTop (mkF m 29 #[.val (.ref r0), .val (.int (0 : Int32)), .val (.ref nb), .val (.ref b4), .val (.int (46 : Int32))] [(.int (46 : Int32)), (.ref b4)])) (fun _ k => XS.iload X142.here hx rfl (hb hby d7_27) rfl k) ?_
  refine own_go (G := T142.setTop (mkF m 30 #[.val (.ref r0), .val (.int (0 : Int32)), .val (.ref nb), .val (.ref b4), .val (.int (46 : Int32))] [(.ref nb), (.int (46 : Int32)), (.ref b4)])) (fun _ k => XS.aloadN X142.here hx rfl (hb hby d7_29) rfl rfl k) ?_
  refine own_go (G := T142.setTop (mkF m 32 #[.val (.ref r0), .val (.int (0 : Int32)), .val (.ref nb), .val (.ref b4), .val (.int (46 : Int32))] [(.int (46 : Int32)), (.ref nb), (.int (46 : Int32)), (.ref b4)])) (fun _ k => XS.iload X142.here hx rfl (hb hby d7_30) rfl k) ?_
  obtain ⟨cl144, Ar144, qk144, S144, N144_, Ha144, G144⟩ := id V_nb_c142
  have hin144 : ¬ ((46 : Int32) < 0 ∨ cl144.slots.size ≤ ((46 : Int32)).toNatClampNeg) := inb_of S144 ⟨by decide, by decide⟩
  have hat144 : cl144.slots[((46 : Int32)).toNatClampNeg]? = some (.int (0 : Int32)) := Ha144.at hin144 rfl
  refine own_go (G := T142.setTop (mkF m 33 #[.val (.ref r0), .val (.int (0 : Int32)), .val (.ref nb), .val (.ref b4), .val (.int (46 : Int32))] [(.int (0 : Int32)), (.int (46 : Int32)), (.ref b4)])) (X142.baloadBytes hx (j := (46 : Int32)) (v := (.int (0 : Int32))) (by rw [e142]; exact Ar144.1) (State.isArrayOf_alike hZ.alike Ar144.2.1) Ar144.2.2 hin144 hat144 (g := (mkF m 32 #[.val (.ref r0), .val (.int (0 : Int32)), .val (.ref nb), .val (.ref b4), .val (.int (46 : Int32))] [(.int (46 : Int32)), (.ref nb), (.int (46 : Int32)), (.ref b4)])) rfl rfl (hb hby d7_32)) ?_
  refine own_go (G := T142.setTop (mkF m 36 #[.val (.ref r0), .val (.int (0 : Int32)), .val (.ref nb), .val (.ref b4), .val (.int (46 : Int32))] [(.int (255 : Int32)), (.int (0 : Int32)), (.int (46 : Int32)), (.ref b4)])) (fun _ k => XS.sipush X142.here hx rfl (hb hby d7_33) k) ?_
  refine own_go (G := T142.setTop (mkF m 37 #[.val (.ref r0), .val (.int (0 : Int32)), .val (.ref nb), .val (.ref b4), .val (.int (46 : Int32))] [(.int ((0 : Int32) &&& (255 : Int32))), (.int (46 : Int32)), (.ref b4)])) (fun _ k => XS.iand X142.here hx rfl (hb hby d7_36) rfl k) ?_
  rw [show ((0 : Int32) &&& (255 : Int32)) = (0 : Int32) from by decide]
  refine own_go (G := T142.setTop (mkF m 38 #[.val (.ref r0), .val (.int (0 : Int32)), .val (.ref nb), .val (.ref b4), .val (.int (46 : Int32))] [(.int ((0 : Int32).toUInt32.toUInt16.toUInt32.toInt32)), (.int (46 : Int32)), (.ref b4)])) (fun _ k => XS.i2c X142.here hx rfl (hb hby d7_37) rfl k) ?_
  rw [show ((0 : Int32).toUInt32.toUInt16.toUInt32.toInt32) = (0 : Int32) from by decide]
  obtain ⟨cl145, Ar145, qk145, S145, N145_, Ha145, G145⟩ := id V142_b4
  have hin145 : ¬ ((46 : Int32) < 0 ∨ cl145.slots.size ≤ ((46 : Int32)).toNatClampNeg) := inb_of S145 ⟨by decide, by decide⟩
  obtain ⟨T145, h145, X145, e145, W145, st145⟩ := stC X142 hx hZ e142 Ar145 (j := (46 : Int32)) hin145 (g := (mkF m 38 #[.val (.ref r0), .val (.int (0 : Int32)), .val (.ref nb), .val (.ref b4), .val (.int (46 : Int32))] [(.int (0 : Int32)), (.int (46 : Int32)), (.ref b4)])) rfl rfl (hb hby d7_38)
  have V145_b4 : Arv Z h145 b4 k4 .char (64 : Int32) (own_B (nar .char ((x0 &&& (255 : Int32)).toUInt32.toUInt16.toUInt32.toInt32)) (nar .char ((x1 &&& (255 : Int32)).toUInt32.toUInt16.toUInt32.toInt32)) (nar .char ((x2 &&& (255 : Int32)).toUInt32.toUInt16.toUInt32.toInt32))) (.int (0 : Int32)) := Arv.set Ar145 qk145 S145 N145_ Ha145 G145 (fits_nar_char _) W145 46 rfl (Nat.le_of_ble_eq_true rfl)
  have E_r0_c145 : Exa Z h145 r0 "com/example/xrefloom/xrefloom/tree/CompactText" := E_r0_c142.wr W145
  have F_length_c145 : Fld Z h145 r0 "com/example/xrefloom/xrefloom/tree/CompactText" "length" "I" (.int len) := F_length_c142.other W145 (Or.inl ne_r0_b4)
  have F_narrow_c145 : Fld Z h145 r0 "com/example/xrefloom/xrefloom/tree/CompactText" "narrow" "[[B" (.ref na) := F_narrow_c142.other W145 (Or.inl ne_r0_b4)
  have F_wide_c145 : Fld Z h145 r0 "com/example/xrefloom/xrefloom/tree/CompactText" "wide" "[[C" (.ref wa) := F_wide_c142.other W145 (Or.inl ne_r0_b4)
  have V_na_c145 : Arv Z h145 na kn (.array .byte) (1 : Int32) [(.ref nb)] .null := V_na_c142.other W145 ne_na_b4
  have V_wa_c145 : Arv Z h145 wa kw (.array .char) (1 : Int32) [.null] .null := V_wa_c142.other W145 ne_wa_b4
  have V_nb_c145 : Arv Z h145 nb kb .byte (64 : Int32) (own_B x0 x1 x2) (.int (0 : Int32)) := V_nb_c142.other W145 ne_nb_b4
  have Ea4_c145 : Exa Z h145 b4 "[C" := Ea4_c142.wr W145
  have N145 := Fr.snoc X145 N142 gn_b4
  have Z145 : n0 ≤ h145.size := Nat.le_trans Z142 (Keep.of_wr W145).1
  refine own_go (G := T145.setTop (mkF m 39 #[.val (.ref r0), .val (.int (0 : Int32)), .val (.ref nb), .val (.ref b4), .val (.int (46 : Int32))] [])) (st145) ?_
  refine own_go (G := T145.setTop (mkF m 42 #[.val (.ref r0), .val (.int (0 : Int32)), .val (.ref nb), .val (.ref b4), .val (.int ((46 : Int32) + (1 : Int32)))] [])) (fun _ k => XS.iinc X145.here hx rfl (hb hby d7_39) rfl (l' := #[.val (.ref r0), .val (.int (0 : Int32)), .val (.ref nb), .val (.ref b4), .val (.int ((46 : Int32) + (1 : Int32)))]) rfl k) ?_
  rw [show ((46 : Int32) + (1 : Int32)) = (47 : Int32) from by decide]
  refine own_go (G := T145.setTop (mkF m 19 #[.val (.ref r0), .val (.int (0 : Int32)), .val (.ref nb), .val (.ref b4), .val (.int (47 : Int32))] [])) (fun _ k => XS.goto X145.here hx rfl (pc0 := 42) (pc' := 19) rfl (hb hby d7_42) (by decide) (by decide) k) ?_
  refine own_go (G := T145.setTop (mkF m 21 #[.val (.ref r0), .val (.int (0 : Int32)), .val (.ref nb), .val (.ref b4), .val (.int (47 : Int32))] [(.int (47 : Int32))])) (fun _ k => XS.iload X145.here hx rfl (hb hby d7_19) rfl k) ?_
  refine own_go (G := T145.setTop (mkF m 22 #[.val (.ref r0), .val (.int (0 : Int32)), .val (.ref nb), .val (.ref b4), .val (.int (47 : Int32))] [(.ref nb), (.int (47 : Int32))])) (fun _ k => XS.aloadN X145.here hx rfl (hb hby d7_21) rfl rfl k) ?_
  obtain ⟨cl146, Ar146, -, S146, N146_, -, -⟩ := id V_nb_c145
  refine own_go (G := T145.setTop (mkF m 23 #[.val (.ref r0), .val (.int (0 : Int32)), .val (.ref nb), .val (.ref b4), .val (.int (47 : Int32))] [(.int (64 : Int32)), (.int (47 : Int32))])) (fun t k => X145.arraylength hx (by rw [e145]; exact Ar146.1) (State.isArrayOf_alike hZ.alike Ar146.2.1) (g := (mkF m 22 #[.val (.ref r0), .val (.int (0 : Int32)), .val (.ref nb), .val (.ref b4), .val (.int (47 : Int32))] [(.ref nb), (.int (47 : Int32))])) rfl rfl (hb hby d7_22) t (by rw [len_of S146 N146_]; exact k)) ?_
  refine own_go (G := T145.setTop (mkF m 26 #[.val (.ref r0), .val (.int (0 : Int32)), .val (.ref nb), .val (.ref b4), .val (.int (47 : Int32))] [])) (fun _ k => XS.icmpNo X145.here hx rfl (hb hby d7_23) rfl (tlt (by decide : (47 : Int32) < (64 : Int32))).2.1 k) ?_
  refine own_go (G := T145.setTop (mkF m 27 #[.val (.ref r0), .val (.int (0 : Int32)), .val (.ref nb), .val (.ref b4), .val (.int (47 : Int32))] [(.ref b4)])) (fun _ k => XS.aloadN X145.here hx rfl (hb hby d7_26) rfl rfl k) ?_
  refine own_go (G := T145.setTop (mkF m 29 #[.val (.ref r0), .val (.int (0 : Int32)), .val (.ref nb), .val (.ref b4), .val (.int (47 : Int32))] [(.int (47 : Int32)), (.ref b4)])) (fun _ k => XS.iload X145.here hx rfl (hb hby d7_27) rfl k) ?_
  refine own_go (G := T145.setTop (mkF m 30 #[.val (.ref r0), .val (.int (0 : Int32)), .val (.ref nb), .val (.ref b4), .val (.int (47 : Int32))] [(.ref nb), (.int (47 : Int32)), (.ref b4)])) (fun _ k => XS.aloadN X145.here hx rfl (hb hby d7_29) rfl rfl k) ?_
  refine own_go (G := T145.setTop (mkF m 32 #[.val (.ref r0), .val (.int (0 : Int32)), .val (.ref nb), .val (.ref b4), .val (.int (47 : Int32))] [(.int (47 : Int32)), (.ref nb), (.int (47 : Int32)), (.ref b4)])) (fun _ k => XS.iload X145.here hx rfl (hb hby d7_30) rfl k) ?_
  obtain ⟨cl147, Ar147, qk147, S147, N147_, Ha147, G147⟩ := id V_nb_c145
  have hin147 : ¬ ((47 : Int32) < 0 ∨ cl147.slots.size ≤ ((47 : Int32)).toNatClampNeg) := inb_of S147 ⟨by decide, by decide⟩
  have hat147 : cl147.slots[((47 : Int32)).toNatClampNeg]? = some (.int (0 : Int32)) := Ha147.at hin147 rfl
  refine own_go (G := T145.setTop (mkF m 33 #[.val (.ref r0), .val (.int (0 : Int32)), .val (.ref nb), .val (.ref b4), .val (.int (47 : Int32))] [(.int (0 : Int32)), (.int (47 : Int32)), (.ref b4)])) (X145.baloadBytes hx (j := (47 : Int32)) (v := (.int (0 : Int32))) (by rw [e145]; exact Ar147.1) (State.isArrayOf_alike hZ.alike Ar147.2.1) Ar147.2.2 hin147 hat147 (g := (mkF m 32 #[.val (.ref r0), .val (.int (0 : Int32)), .val (.ref nb), .val (.ref b4), .val (.int (47 : Int32))] [(.int (47 : Int32)), (.ref nb), (.int (47 : Int32)), (.ref b4)])) rfl rfl (hb hby d7_32)) ?_
  refine own_go (G := T145.setTop (mkF m 36 #[.val (.ref r0), .val (.int (0 : Int32)), .val (.ref nb), .val (.ref b4), .val (.int (47 : Int32))] [(.int (255 : Int32)), (.int (0 : Int32)), (.int (47 : Int32)), (.ref b4)])) (fun _ k => XS.sipush X145.here hx rfl (hb hby d7_33) k) ?_
  refine own_go (G := T145.setTop (mkF m 37 #[.val (.ref r0), .val (.int (0 : Int32)), .val (.ref nb), .val (.ref b4), .val (.int (47 : Int32))] [(.int ((0 : Int32) &&& (255 : Int32))), (.int (47 : Int32)), (.ref b4)])) (fun _ k => XS.iand X145.here hx rfl (hb hby d7_36) rfl k) ?_
  rw [show ((0 : Int32) &&& (255 : Int32)) = (0 : Int32) from by decide]
  refine own_go (G := T145.setTop (mkF m 38 #[.val (.ref r0), .val (.int (0 : Int32)), .val (.ref nb), .val (.ref b4), .val (.int (47 : Int32))] [(.int ((0 : Int32).toUInt32.toUInt16.toUInt32.toInt32)), (.int (47 : Int32)), (.ref b4)])) (fun _ k => XS.i2c X145.here hx rfl (hb hby d7_37) rfl k) ?_
  rw [show ((0 : Int32).toUInt32.toUInt16.toUInt32.toInt32) = (0 : Int32) from by decide]
  obtain ⟨cl148, Ar148, qk148, S148, N148_, Ha148, G148⟩ := id V145_b4
  have hin148 : ¬ ((47 : Int32) < 0 ∨ cl148.slots.size ≤ ((47 : Int32)).toNatClampNeg) := inb_of S148 ⟨by decide, by decide⟩
  obtain ⟨T148, h148, X148, e148, W148, st148⟩ := stC X145 hx hZ e145 Ar148 (j := (47 : Int32)) hin148 (g := (mkF m 38 #[.val (.ref r0), .val (.int (0 : Int32)), .val (.ref nb), .val (.ref b4), .val (.int (47 : Int32))] [(.int (0 : Int32)), (.int (47 : Int32)), (.ref b4)])) rfl rfl (hb hby d7_38)
  have V148_b4 : Arv Z h148 b4 k4 .char (64 : Int32) (own_B (nar .char ((x0 &&& (255 : Int32)).toUInt32.toUInt16.toUInt32.toInt32)) (nar .char ((x1 &&& (255 : Int32)).toUInt32.toUInt16.toUInt32.toInt32)) (nar .char ((x2 &&& (255 : Int32)).toUInt32.toUInt16.toUInt32.toInt32))) (.int (0 : Int32)) := Arv.set Ar148 qk148 S148 N148_ Ha148 G148 (fits_nar_char _) W148 47 rfl (Nat.le_of_ble_eq_true rfl)
  have E_r0_c148 : Exa Z h148 r0 "com/example/xrefloom/xrefloom/tree/CompactText" := E_r0_c145.wr W148
  have F_length_c148 : Fld Z h148 r0 "com/example/xrefloom/xrefloom/tree/CompactText" "length" "I" (.int len) := F_length_c145.other W148 (Or.inl ne_r0_b4)
  have F_narrow_c148 : Fld Z h148 r0 "com/example/xrefloom/xrefloom/tree/CompactText" "narrow" "[[B" (.ref na) := F_narrow_c145.other W148 (Or.inl ne_r0_b4)
  have F_wide_c148 : Fld Z h148 r0 "com/example/xrefloom/xrefloom/tree/CompactText" "wide" "[[C" (.ref wa) := F_wide_c145.other W148 (Or.inl ne_r0_b4)
  have V_na_c148 : Arv Z h148 na kn (.array .byte) (1 : Int32) [(.ref nb)] .null := V_na_c145.other W148 ne_na_b4
  have V_wa_c148 : Arv Z h148 wa kw (.array .char) (1 : Int32) [.null] .null := V_wa_c145.other W148 ne_wa_b4
  have V_nb_c148 : Arv Z h148 nb kb .byte (64 : Int32) (own_B x0 x1 x2) (.int (0 : Int32)) := V_nb_c145.other W148 ne_nb_b4
  have Ea4_c148 : Exa Z h148 b4 "[C" := Ea4_c145.wr W148
  have N148 := Fr.snoc X148 N145 gn_b4
  have Z148 : n0 ≤ h148.size := Nat.le_trans Z145 (Keep.of_wr W148).1
  refine own_go (G := T148.setTop (mkF m 39 #[.val (.ref r0), .val (.int (0 : Int32)), .val (.ref nb), .val (.ref b4), .val (.int (47 : Int32))] [])) (st148) ?_
  refine own_go (G := T148.setTop (mkF m 42 #[.val (.ref r0), .val (.int (0 : Int32)), .val (.ref nb), .val (.ref b4), .val (.int ((47 : Int32) + (1 : Int32)))] [])) (fun _ k => XS.iinc X148.here hx rfl (hb hby d7_39) rfl (l' := #[.val (.ref r0), .val (.int (0 : Int32)), .val (.ref nb), .val (.ref b4), .val (.int ((47 : Int32) + (1 : Int32)))]) rfl k) ?_
  rw [show ((47 : Int32) + (1 : Int32)) = (48 : Int32) from by decide]
  refine own_go (G := T148.setTop (mkF m 19 #[.val (.ref r0), .val (.int (0 : Int32)), .val (.ref nb), .val (.ref b4), .val (.int (48 : Int32))] [])) (fun _ k => XS.goto X148.here hx rfl (pc0 := 42) (pc' := 19) rfl (hb hby d7_42) (by decide) (by decide) k) ?_
  refine own_go (G := T148.setTop (mkF m 21 #[.val (.ref r0), .val (.int (0 : Int32)), .val (.ref nb), .val (.ref b4), .val (.int (48 : Int32))] [(.int (48 : Int32))])) (fun _ k => XS.iload X148.here hx rfl (hb hby d7_19) rfl k) ?_
  refine own_go (G := T148.setTop (mkF m 22 #[.val (.ref r0), .val (.int (0 : Int32)), .val (.ref nb), .val (.ref b4), .val (.int (48 : Int32))] [(.ref nb), (.int (48 : Int32))])) (fun _ k => XS.aloadN X148.here hx rfl (hb hby d7_21) rfl rfl k) ?_
  obtain ⟨cl149, Ar149, -, S149, N149_, -, -⟩ := id V_nb_c148
  refine own_go (G := T148.setTop (mkF m 23 #[.val (.ref r0), .val (.int (0 : Int32)), .val (.ref nb), .val (.ref b4), .val (.int (48 : Int32))] [(.int (64 : Int32)), (.int (48 : Int32))])) (fun t k => X148.arraylength hx (by rw [e148]; exact Ar149.1) (State.isArrayOf_alike hZ.alike Ar149.2.1) (g := (mkF m 22 #[.val (.ref r0), .val (.int (0 : Int32)), .val (.ref nb), .val (.ref b4), .val (.int (48 : Int32))] [(.ref nb), (.int (48 : Int32))])) rfl rfl (hb hby d7_22) t (by rw [len_of S149 N149_]; exact k)) ?_
  refine own_go (G := T148.setTop (mkF m 26 #[.val (.ref r0), .val (.int (0 : Int32)), .val (.ref nb), .val (.ref b4), .val (.int (48 : Int32))] [])) (fun _ k => XS.icmpNo X148.here hx rfl (hb hby d7_23) rfl (tlt (by decide : (48 : Int32) < (64 : Int32))).2.1 k) ?_
  refine own_go (G := T148.setTop (mkF m 27 #[.val (.ref r0), .val (.int (0 : Int32)), .val (.ref nb), .val (.ref b4), .val (.int (48 : Int32))] [(.ref b4)])) (fun _ k => XS.aloadN X148.here hx rfl (hb hby d7_26) rfl rfl k) ?_
  refine own_go (G := T148.setTop (mkF m 29 #[.val (.ref r0), .val (.int (0 : Int32)), .val (.ref nb), .val (.ref b4), .val (.int (48 : Int32))] [(.int (48 : Int32)), (.ref b4)])) (fun _ k => XS.iload X148.here hx rfl (hb hby d7_27) rfl k) ?_
  refine own_go (G := T148.setTop (mkF m 30 #[.val (.ref r0), .val (.int (0 : Int32)), .val (.ref nb), .val (.ref b4), .val (.int (48 : Int32))] [(.ref nb), (.int (48 : Int32)), (.ref b4)])) (fun _ k => XS.aloadN X148.here hx rfl (hb hby d7_29) rfl rfl k) ?_
  refine own_go (G := T148.setTop (mkF m 32 #[.val (.ref r0), .val (.int (0 : Int32)), .val (.ref nb), .val (.ref b4), .val (.int (48 : Int32))] [(.int (48 : Int32)), (.ref nb), (.int (48 : Int32)), (.ref b4)])) (fun _ k => XS.iload X148.here hx rfl (hb hby d7_30) rfl k) ?_
  obtain ⟨cl150, Ar150, qk150, S150, N150_, Ha150, G150⟩ := id V_nb_c148
  have hin150 : ¬ ((48 : Int32) < 0 ∨ cl150.slots.size ≤ ((48 : Int32)).toNatClampNeg) := inb_of S150 ⟨by decide, by decide⟩
  have hat150 : cl150.slots[((48 : Int32)).toNatClampNeg]? = some (.int (0 : Int32)) := Ha150.at hin150 rfl
  refine own_go (G := T148.setTop (mkF m 33 #[.val (.ref r0), .val (.int (0 : Int32)), .val (.ref nb), .val (.ref b4), .val (.int (48 : Int32))] [(.int (0 : Int32)), (.int (48 : Int32)), (.ref b4)])) (X148.baloadBytes hx (j := (48 : Int32)) (v := (.int (0 : Int32))) (by rw [e148]; exact Ar150.1) (State.isArrayOf_alike hZ.alike Ar150.2.1) Ar150.2.2 hin150 hat150 (g := (mkF m 32 #[.val (.ref r0), .val (.int (0 : Int32)), .val (.ref nb), .val (.ref b4), .val (.int (48 : Int32))] [(.int (48 : Int32)), (.ref nb), (.int (48 : Int32)), (.ref b4)])) rfl rfl (hb hby d7_32)) ?_
  refine own_go (G := T148.setTop (mkF m 36 #[.val (.ref r0), .val (.int (0 : Int32)), .val (.ref nb), .val (.ref b4), .val (.int (48 : Int32))] [(.int (255 : Int32)), (.int (0 : Int32)), (.int (48 : Int32)), (.ref b4)])) (fun _ k => XS.sipush X148.here hx rfl (hb hby d7_33) k) ?_
  refine own_go (G := T148.setTop (mkF m 37 #[.val (.ref r0), .val (.int (0 : Int32)), .val (.ref nb), .val (.ref b4), .val (.int (48 : Int32))] [(.int ((0 : Int32) &&& (255 : Int32))), (.int (48 : Int32)), (.ref b4)])) (fun _ k => XS.iand X148.here hx rfl (hb hby d7_36) rfl k) ?_
  rw [show ((0 : Int32) &&& (255 : Int32)) = (0 : Int32) from by decide]
  refine own_go (G := T148.setTop (mkF m 38 #[.val (.ref r0), .val (.int (0 : Int32)), .val (.ref nb), .val (.ref b4), .val (.int (48 : Int32))] [(.int ((0 : Int32).toUInt32.toUInt16.toUInt32.toInt32)), (.int (48 : Int32)), (.ref b4)])) (fun _ k => XS.i2c X148.here hx rfl (hb hby d7_37) rfl k) ?_
  rw [show ((0 : Int32).toUInt32.toUInt16.toUInt32.toInt32) = (0 : Int32) from by decide]
  obtain ⟨cl151, Ar151, qk151, S151, N151_, Ha151, G151⟩ := id V148_b4
  have hin151 : ¬ ((48 : Int32) < 0 ∨ cl151.slots.size ≤ ((48 : Int32)).toNatClampNeg) := inb_of S151 ⟨by decide, by decide⟩
  obtain ⟨T151, h151, X151, e151, W151, st151⟩ := stC X148 hx hZ e148 Ar151 (j := (48 : Int32)) hin151 (g := (mkF m 38 #[.val (.ref r0), .val (.int (0 : Int32)), .val (.ref nb), .val (.ref b4), .val (.int (48 : Int32))] [(.int (0 : Int32)), (.int (48 : Int32)), (.ref b4)])) rfl rfl (hb hby d7_38)
  have V151_b4 : Arv Z h151 b4 k4 .char (64 : Int32) (own_B (nar .char ((x0 &&& (255 : Int32)).toUInt32.toUInt16.toUInt32.toInt32)) (nar .char ((x1 &&& (255 : Int32)).toUInt32.toUInt16.toUInt32.toInt32)) (nar .char ((x2 &&& (255 : Int32)).toUInt32.toUInt16.toUInt32.toInt32))) (.int (0 : Int32)) := Arv.set Ar151 qk151 S151 N151_ Ha151 G151 (fits_nar_char _) W151 48 rfl (Nat.le_of_ble_eq_true rfl)
  have E_r0_c151 : Exa Z h151 r0 "com/example/xrefloom/xrefloom/tree/CompactText" := E_r0_c148.wr W151
  have F_length_c151 : Fld Z h151 r0 "com/example/xrefloom/xrefloom/tree/CompactText" "length" "I" (.int len) := F_length_c148.other W151 (Or.inl ne_r0_b4)
  have F_narrow_c151 : Fld Z h151 r0 "com/example/xrefloom/xrefloom/tree/CompactText" "narrow" "[[B" (.ref na) := F_narrow_c148.other W151 (Or.inl ne_r0_b4)
  have F_wide_c151 : Fld Z h151 r0 "com/example/xrefloom/xrefloom/tree/CompactText" "wide" "[[C" (.ref wa) := F_wide_c148.other W151 (Or.inl ne_r0_b4)
  have V_na_c151 : Arv Z h151 na kn (.array .byte) (1 : Int32) [(.ref nb)] .null := V_na_c148.other W151 ne_na_b4
  have V_wa_c151 : Arv Z h151 wa kw (.array .char) (1 : Int32) [.null] .null := V_wa_c148.other W151 ne_wa_b4
  have V_nb_c151 : Arv Z h151 nb kb .byte (64 : Int32) (own_B x0 x1 x2) (.int (0 : Int32)) := V_nb_c148.other W151 ne_nb_b4
  have Ea4_c151 : Exa Z h151 b4 "[C" := Ea4_c148.wr W151
  have N151 := Fr.snoc X151 N148 gn_b4
  have Z151 : n0 ≤ h151.size := Nat.le_trans Z148 (Keep.of_wr W151).1
  refine own_go (G := T151.setTop (mkF m 39 #[.val (.ref r0), .val (.int (0 : Int32)), .val (.ref nb), .val (.ref b4), .val (.int (48 : Int32))] [])) (st151) ?_
  refine own_go (G := T151.setTop (mkF m 42 #[.val (.ref r0), .val (.int (0 : Int32)), .val (.ref nb), .val (.ref b4), .val (.int ((48 : Int32) + (1 : Int32)))] [])) (fun _ k => XS.iinc X151.here hx rfl (hb hby d7_39) rfl (l' := #[.val (.ref r0), .val (.int (0 : Int32)), .val (.ref nb), .val (.ref b4), .val (.int ((48 : Int32) + (1 : Int32)))]) rfl k) ?_
  rw [show ((48 : Int32) + (1 : Int32)) = (49 : Int32) from by decide]
  refine own_go (G := T151.setTop (mkF m 19 #[.val (.ref r0), .val (.int (0 : Int32)), .val (.ref nb), .val (.ref b4), .val (.int (49 : Int32))] [])) (fun _ k => XS.goto X151.here hx rfl (pc0 := 42) (pc' := 19) rfl (hb hby d7_42) (by decide) (by decide) k) ?_
  refine own_go (G := T151.setTop (mkF m 21 #[.val (.ref r0), .val (.int (0 : Int32)), .val (.ref nb), .val (.ref b4), .val (.int (49 : Int32))] [(.int (49 : Int32))])) (fun _ k => XS.iload X151.here hx rfl (hb hby d7_19) rfl k) ?_
  refine own_go (G := T151.setTop (mkF m 22 #[.val (.ref r0), .val (.int (0 : Int32)), .val (.ref nb), .val (.ref b4), .val (.int (49 : Int32))] [(.ref nb), (.int (49 : Int32))])) (fun _ k => XS.aloadN X151.here hx rfl (hb hby d7_21) rfl rfl k) ?_
  obtain ⟨cl152, Ar152, -, S152, N152_, -, -⟩ := id V_nb_c151
  refine own_go (G := T151.setTop (mkF m 23 #[.val (.ref r0), .val (.int (0 : Int32)), .val (.ref nb), .val (.ref b4), .val (.int (49 : Int32))] [(.int (64 : Int32)), (.int (49 : Int32))])) (fun t k => X151.arraylength hx (by rw [e151]; exact Ar152.1) (State.isArrayOf_alike hZ.alike Ar152.2.1) (g := (mkF m 22 #[.val (.ref r0), .val (.int (0 : Int32)), .val (.ref nb), .val (.ref b4), .val (.int (49 : Int32))] [(.ref nb), (.int (49 : Int32))])) rfl rfl (hb hby d7_22) t (by rw [len_of S152 N152_]; exact k)) ?_
  refine own_go (G := T151.setTop (mkF m 26 #[.val (.ref r0), .val (.int (0 : Int32)), .val (.ref nb), .val (.ref b4), .val (.int (49 : Int32))] [])) (fun _ k => XS.icmpNo X151.here hx rfl (hb hby d7_23) rfl (tlt (by decide : (49 : Int32) < (64 : Int32))).2.1 k) ?_
  refine own_go (G := T151.setTop (mkF m 27 #[.val (.ref r0), .val (.int (0 : Int32)), .val (.ref nb), .val (.ref b4), .val (.int (49 : Int32))] [(.ref b4)])) (fun _ k => XS.aloadN X151.here hx rfl (hb hby d7_26) rfl rfl k) ?_
  refine own_go (G := T151.setTop (mkF m 29 #[.val (.ref r0), .val (.int (0 : Int32)), .val (.ref nb), .val (.ref b4), .val (.int (49 : Int32))] [(.int (49 : Int32)), (.ref b4)])) (fun _ k => XS.iload X151.here hx rfl (hb hby d7_27) rfl k) ?_
  refine own_go (G := T151.setTop (mkF m 30 #[.val (.ref r0), .val (.int (0 : Int32)), .val (.ref nb), .val (.ref b4), .val (.int (49 : Int32))] [(.ref nb), (.int (49 : Int32)), (.ref b4)])) (fun _ k => XS.aloadN X151.here hx rfl (hb hby d7_29) rfl rfl k) ?_
  refine own_go (G := T151.setTop (mkF m 32 #[.val (.ref r0), .val (.int (0 : Int32)), .val (.ref nb), .val (.ref b4), .val (.int (49 : Int32))] [(.int (49 : Int32)), (.ref nb), (.int (49 : Int32)), (.ref b4)])) (fun _ k => XS.iload X151.here hx rfl (hb hby d7_30) rfl k) ?_
  obtain ⟨cl153, Ar153, qk153, S153, N153_, Ha153, G153⟩ := id V_nb_c151
  have hin153 : ¬ ((49 : Int32) < 0 ∨ cl153.slots.size ≤ ((49 : Int32)).toNatClampNeg) := inb_of S153 ⟨by decide, by decide⟩
  have hat153 : cl153.slots[((49 : Int32)).toNatClampNeg]? = some (.int (0 : Int32)) := Ha153.at hin153 rfl
  refine own_go (G := T151.setTop (mkF m 33 #[.val (.ref r0), .val (.int (0 : Int32)), .val (.ref nb), .val (.ref b4), .val (.int (49 : Int32))] [(.int (0 : Int32)), (.int (49 : Int32)), (.ref b4)])) (X151.baloadBytes hx (j := (49 : Int32)) (v := (.int (0 : Int32))) (by rw [e151]; exact Ar153.1) (State.isArrayOf_alike hZ.alike Ar153.2.1) Ar153.2.2 hin153 hat153 (g := (mkF m 32 #[.val (.ref r0), .val (.int (0 : Int32)), .val (.ref nb), .val (.ref b4), .val (.int (49 : Int32))] [(.int (49 : Int32)), (.ref nb), (.int (49 : Int32)), (.ref b4)])) rfl rfl (hb hby d7_32)) ?_
  refine own_go (G := T151.setTop (mkF m 36 #[.val (.ref r0), .val (.int (0 : Int32)), .val (.ref nb), .val (.ref b4), .val (.int (49 : Int32))] [(.int (255 : Int32)), (.int (0 : Int32)), (.int (49 : Int32)), (.ref b4)])) (fun _ k => XS.sipush X151.here hx rfl (hb hby d7_33) k) ?_
  refine own_go (G := T151.setTop (mkF m 37 #[.val (.ref r0), .val (.int (0 : Int32)), .val (.ref nb), .val (.ref b4), .val (.int (49 : Int32))] [(.int ((0 : Int32) &&& (255 : Int32))), (.int (49 : Int32)), (.ref b4)])) (fun _ k => XS.iand X151.here hx rfl (hb hby d7_36) rfl k) ?_
  rw [show ((0 : Int32) &&& (255 : Int32)) = (0 : Int32) from by decide]
  refine own_go (G := T151.setTop (mkF m 38 #[.val (.ref r0), .val (.int (0 : Int32)), .val (.ref nb), .val (.ref b4), .val (.int (49 : Int32))] [(.int ((0 : Int32).toUInt32.toUInt16.toUInt32.toInt32)), (.int (49 : Int32)), (.ref b4)])) (fun _ k => XS.i2c X151.here hx rfl (hb hby d7_37) rfl k) ?_
  rw [show ((0 : Int32).toUInt32.toUInt16.toUInt32.toInt32) = (0 : Int32) from by decide]
  obtain ⟨cl154, Ar154, qk154, S154, N154_, Ha154, G154⟩ := id V151_b4
  have hin154 : ¬ ((49 : Int32) < 0 ∨ cl154.slots.size ≤ ((49 : Int32)).toNatClampNeg) := inb_of S154 ⟨by decide, by decide⟩
  obtain ⟨T154, h154, X154, e154, W154, st154⟩ := stC X151 hx hZ e151 Ar154 (j := (49 : Int32)) hin154 (g := (mkF m 38 #[.val (.ref r0), .val (.int (0 : Int32)), .val (.ref nb), .val (.ref b4), .val (.int (49 : Int32))] [(.int (0 : Int32)), (.int (49 : Int32)), (.ref b4)])) rfl rfl (hb hby d7_38)
  have V154_b4 : Arv Z h154 b4 k4 .char (64 : Int32) (own_B (nar .char ((x0 &&& (255 : Int32)).toUInt32.toUInt16.toUInt32.toInt32)) (nar .char ((x1 &&& (255 : Int32)).toUInt32.toUInt16.toUInt32.toInt32)) (nar .char ((x2 &&& (255 : Int32)).toUInt32.toUInt16.toUInt32.toInt32))) (.int (0 : Int32)) := Arv.set Ar154 qk154 S154 N154_ Ha154 G154 (fits_nar_char _) W154 49 rfl (Nat.le_of_ble_eq_true rfl)
  have E_r0_c154 : Exa Z h154 r0 "com/example/xrefloom/xrefloom/tree/CompactText" := E_r0_c151.wr W154
  have F_length_c154 : Fld Z h154 r0 "com/example/xrefloom/xrefloom/tree/CompactText" "length" "I" (.int len) := F_length_c151.other W154 (Or.inl ne_r0_b4)
  have F_narrow_c154 : Fld Z h154 r0 "com/example/xrefloom/xrefloom/tree/CompactText" "narrow" "[[B" (.ref na) := F_narrow_c151.other W154 (Or.inl ne_r0_b4)
  have F_wide_c154 : Fld Z h154 r0 "com/example/xrefloom/xrefloom/tree/CompactText" "wide" "[[C" (.ref wa) := F_wide_c151.other W154 (Or.inl ne_r0_b4)
  have V_na_c154 : Arv Z h154 na kn (.array .byte) (1 : Int32) [(.ref nb)] .null := V_na_c151.other W154 ne_na_b4
  have V_wa_c154 : Arv Z h154 wa kw (.array .char) (1 : Int32) [.null] .null := V_wa_c151.other W154 ne_wa_b4
  have V_nb_c154 : Arv Z h154 nb kb .byte (64 : Int32) (own_B x0 x1 x2) (.int (0 : Int32)) := V_nb_c151.other W154 ne_nb_b4
  have Ea4_c154 : Exa Z h154 b4 "[C" := Ea4_c151.wr W154
  have N154 := Fr.snoc X154 N151 gn_b4
  have Z154 : n0 ≤ h154.size := Nat.le_trans Z151 (Keep.of_wr W154).1
  refine own_go (G := T154.setTop (mkF m 39 #[.val (.ref r0), .val (.int (0 : Int32)), .val (.ref nb), .val (.ref b4), .val (.int (49 : Int32))] [])) (st154) ?_
  refine own_go (G := T154.setTop (mkF m 42 #[.val (.ref r0), .val (.int (0 : Int32)), .val (.ref nb), .val (.ref b4), .val (.int ((49 : Int32) + (1 : Int32)))] [])) (fun _ k => XS.iinc X154.here hx rfl (hb hby d7_39) rfl (l' := #[.val (.ref r0), .val (.int (0 : Int32)), .val (.ref nb), .val (.ref b4), .val (.int ((49 : Int32) + (1 : Int32)))]) rfl k) ?_
  rw [show ((49 : Int32) + (1 : Int32)) = (50 : Int32) from by decide]
  refine own_go (G := T154.setTop (mkF m 19 #[.val (.ref r0), .val (.int (0 : Int32)), .val (.ref nb), .val (.ref b4), .val (.int (50 : Int32))] [])) (fun _ k => XS.goto X154.here hx rfl (pc0 := 42) (pc' := 19) rfl (hb hby d7_42) (by decide) (by decide) k) ?_
  refine own_go (G := T154.setTop (mkF m 21 #[.val (.ref r0), .val (.int (0 : Int32)), .val (.ref nb), .val (.ref b4), .val (.int (50 : Int32))] [(.int (50 : Int32))])) (fun _ k => XS.iload X154.here hx rfl (hb hby d7_19) rfl k) ?_
  refine own_go (G := T154.setTop (mkF m 22 #[.val (.ref r0), .val (.int (0 : Int32)), .val (.ref nb), .val (.ref b4), .val (.int (50 : Int32))] [(.ref nb), (.int (50 : Int32))])) (fun _ k => XS.aloadN X154.here hx rfl (hb hby d7_21) rfl rfl k) ?_
  obtain ⟨cl155, Ar155, -, S155, N155_, -, -⟩ := id V_nb_c154
  refine own_go (G := T154.setTop (mkF m 23 #[.val (.ref r0), .val (.int (0 : Int32)), .val (.ref nb), .val (.ref b4), .val (.int (50 : Int32))] [(.int (64 : Int32)), (.int (50 : Int32))])) (fun t k => X154.arraylength hx (by rw [e154]; exact Ar155.1) (State.isArrayOf_alike hZ.alike Ar155.2.1) (g := (mkF m 22 #[.val (.ref r0), .val (.int (0 : Int32)), .val (.ref nb), .val (.ref b4), .val (.int (50 : Int32))] [(.ref nb), (.int (50 : Int32))])) rfl rfl (hb hby d7_22) t (by rw [len_of S155 N155_]; exact k)) ?_
  refine own_go (G := T154.setTop (mkF m 26 #[.val (.ref r0), .val (.int (0 : Int32)), .val (.ref nb), .val (.ref b4), .val (.int (50 : Int32))] [])) (fun _ k => XS.icmpNo X154.here hx rfl (hb hby d7_23) rfl (tlt (by decide : (50 : Int32) < (64 : Int32))).2.1 k) ?_
  refine own_go (G := T154.setTop (mkF m 27 #[.val (.ref r0), .val (.int (0 : Int32)), .val (.ref nb), .val (.ref b4), .val (.int (50 : Int32))] [(.ref b4)])) (fun _ k => XS.aloadN X154.here hx rfl (hb hby d7_26) rfl rfl k) ?_
  refine own_go (G := T154.setTop (mkF m 29 #[.val (.ref r0), .val (.int (0 : Int32)), .val (.ref nb), .val (.ref b4), .val (.int (50 : Int32))] [(.int (50 : Int32)), (.ref b4)])) (fun _ k => XS.iload X154.here hx rfl (hb hby d7_27) rfl k) ?_
  refine own_go (G := T154.setTop (mkF m 30 #[.val (.ref r0), .val (.int (0 : Int32)), .val (.ref nb), .val (.ref b4), .val (.int (50 : Int32))] [(.ref nb), (.int (50 : Int32)), (.ref b4)])) (fun _ k => XS.aloadN X154.here hx rfl (hb hby d7_29) rfl rfl k) ?_
  refine own_go (G := T154.setTop (mkF m 32 #[.val (.ref r0), .val (.int (0 : Int32)), .val (.ref nb), .val (.ref b4), .val (.int (50 : Int32))] [(.int (50 : Int32)), (.ref nb), (.int (50 : Int32)), (.ref b4)])) (fun _ k => XS.iload X154.here hx rfl (hb hby d7_30) rfl k) ?_
  obtain ⟨cl156, Ar156, qk156, S156, N156_, Ha156, G156⟩ := id V_nb_c154
  have hin156 : ¬ ((50 : Int32) < 0 ∨ cl156.slots.size ≤ ((50 : Int32)).toNatClampNeg) := inb_of S156 ⟨by decide, by decide⟩
  have hat156 : cl156.slots[((50 : Int32)).toNatClampNeg]? = some (.int (0 : Int32)) := Ha156.at hin156 rfl
  refine own_go (G := T154.setTop (mkF m 33 #[.val (.ref r0), .val (.int (0 : Int32)), .val (.ref nb), .val (.ref b4), .val (.int (50 : Int32))] [(.int (0 : Int32)), (.int (50 : Int32)), (.ref b4)])) (X154.baloadBytes hx (j := (50 : Int32)) (v := (.int (0 : Int32))) (by rw [e154]; exact Ar156.1) (State.isArrayOf_alike hZ.alike Ar156.2.1) Ar156.2.2 hin156 hat156 (g := (mkF m 32 #[.val (.ref r0), .val (.int (0 : Int32)), .val (.ref nb), .val (.ref b4), .val (.int (50 : Int32))] [(.int (50 : Int32)), (.ref nb), (.int (50 : Int32)), (.ref b4)])) rfl rfl (hb hby d7_32)) ?_
  refine own_go (G := T154.setTop (mkF m 36 #[.val (.ref r0), .val (.int (0 : Int32)), .val (.ref nb), .val (.ref b4), .val (.int (50 : Int32))] [(.int (255 : Int32)), (.int (0 : Int32)), (.int (50 : Int32)), (.ref b4)])) (fun _ k => XS.sipush X154.here hx rfl (hb hby d7_33) k) ?_
  refine own_go (G := T154.setTop (mkF m 37 #[.val (.ref r0), .val (.int (0 : Int32)), .val (.ref nb), .val (.ref b4), .val (.int (50 : Int32))] [(.int ((0 : Int32) &&& (255 : Int32))), (.int (50 : Int32)), (.ref b4)])) (fun _ k => XS.iand X154.here hx rfl (hb hby d7_36) rfl k) ?_
  rw [show ((0 : Int32) &&& (255 : Int32)) = (0 : Int32) from by decide]
  refine own_go (G := T154.setTop (mkF m 38 #[.val (.ref r0), .val (.int (0 : Int32)), .val (.ref nb), .val (.ref b4), .val (.int (50 : Int32))] [(.int ((0 : Int32).toUInt32.toUInt16.toUInt32.toInt32)), (.int (50 : Int32)), (.ref b4)])) (fun _ k => XS.i2c X154.here hx rfl (hb hby d7_37) rfl k) ?_
  rw [show ((0 : Int32).toUInt32.toUInt16.toUInt32.toInt32) = (0 : Int32) from by decide]
  obtain ⟨cl157, Ar157, qk157, S157, N157_, Ha157, G157⟩ := id V154_b4
  have hin157 : ¬ ((50 : Int32) < 0 ∨ cl157.slots.size ≤ ((50 : Int32)).toNatClampNeg) := inb_of S157 ⟨by decide, by decide⟩
  obtain ⟨T157, h157, X157, e157, W157, st157⟩ := stC X154 hx hZ e154 Ar157 (j := (50 : Int32)) hin157 (g := (mkF m 38 #[.val (.ref r0), .val (.int (0 : Int32)), .val (.ref nb), .val (.ref b4), .val (.int (50 : Int32))] [(.int (0 : Int32)), (.int (50 : Int32)), (.ref b4)])) rfl rfl (hb hby d7_38)
  have V157_b4 : Arv Z h157 b4 k4 .char (64 : Int32) (own_B (nar .char ((x0 &&& (255 : Int32)).toUInt32.toUInt16.toUInt32.toInt32)) (nar .char ((x1 &&& (255 : Int32)).toUInt32.toUInt16.toUInt32.toInt32)) (nar .char ((x2 &&& (255 : Int32)).toUInt32.toUInt16.toUInt32.toInt32))) (.int (0 : Int32)) := Arv.set Ar157 qk157 S157 N157_ Ha157 G157 (fits_nar_char _) W157 50 rfl (Nat.le_of_ble_eq_true rfl)
  have E_r0_c157 : Exa Z h157 r0 "com/example/xrefloom/xrefloom/tree/CompactText" := E_r0_c154.wr W157
  have F_length_c157 : Fld Z h157 r0 "com/example/xrefloom/xrefloom/tree/CompactText" "length" "I" (.int len) := F_length_c154.other W157 (Or.inl ne_r0_b4)
  have F_narrow_c157 : Fld Z h157 r0 "com/example/xrefloom/xrefloom/tree/CompactText" "narrow" "[[B" (.ref na) := F_narrow_c154.other W157 (Or.inl ne_r0_b4)
  have F_wide_c157 : Fld Z h157 r0 "com/example/xrefloom/xrefloom/tree/CompactText" "wide" "[[C" (.ref wa) := F_wide_c154.other W157 (Or.inl ne_r0_b4)
  have V_na_c157 : Arv Z h157 na kn (.array .byte) (1 : Int32) [(.ref nb)] .null := V_na_c154.other W157 ne_na_b4
  have V_wa_c157 : Arv Z h157 wa kw (.array .char) (1 : Int32) [.null] .null := V_wa_c154.other W157 ne_wa_b4
  have V_nb_c157 : Arv Z h157 nb kb .byte (64 : Int32) (own_B x0 x1 x2) (.int (0 : Int32)) := V_nb_c154.other W157 ne_nb_b4
  have Ea4_c157 : Exa Z h157 b4 "[C" := Ea4_c154.wr W157
  have N157 := Fr.snoc X157 N154 gn_b4
  have Z157 : n0 ≤ h157.size := Nat.le_trans Z154 (Keep.of_wr W157).1
  refine own_go (G := T157.setTop (mkF m 39 #[.val (.ref r0), .val (.int (0 : Int32)), .val (.ref nb), .val (.ref b4), .val (.int (50 : Int32))] [])) (st157) ?_
  refine own_go (G := T157.setTop (mkF m 42 #[.val (.ref r0), .val (.int (0 : Int32)), .val (.ref nb), .val (.ref b4), .val (.int ((50 : Int32) + (1 : Int32)))] [])) (fun _ k => XS.iinc X157.here hx rfl (hb hby d7_39) rfl (l' := #[.val (.ref r0), .val (.int (0 : Int32)), .val (.ref nb), .val (.ref b4), .val (.int ((50 : Int32) + (1 : Int32)))]) rfl k) ?_
  rw [show ((50 : Int32) + (1 : Int32)) = (51 : Int32) from by decide]
  refine own_go (G := T157.setTop (mkF m 19 #[.val (.ref r0), .val (.int (0 : Int32)), .val (.ref nb), .val (.ref b4), .val (.int (51 : Int32))] [])) (fun _ k => XS.goto X157.here hx rfl (pc0 := 42) (pc' := 19) rfl (hb hby d7_42) (by decide) (by decide) k) ?_
  refine own_go (G := T157.setTop (mkF m 21 #[.val (.ref r0), .val (.int (0 : Int32)), .val (.ref nb), .val (.ref b4), .val (.int (51 : Int32))] [(.int (51 : Int32))])) (fun _ k => XS.iload X157.here hx rfl (hb hby d7_19) rfl k) ?_
  refine own_go (G := T157.setTop (mkF m 22 #[.val (.ref r0), .val (.int (0 : Int32)), .val (.ref nb), .val (.ref b4), .val (.int (51 : Int32))] [(.ref nb), (.int (51 : Int32))])) (fun _ k => XS.aloadN X157.here hx rfl (hb hby d7_21) rfl rfl k) ?_
  obtain ⟨cl158, Ar158, -, S158, N158_, -, -⟩ := id V_nb_c157
  refine own_go (G := T157.setTop (mkF m 23 #[.val (.ref r0), .val (.int (0 : Int32)), .val (.ref nb), .val (.ref b4), .val (.int (51 : Int32))] [(.int (64 : Int32)), (.int (51 : Int32))])) (fun t k => X157.arraylength hx (by rw [e157]; exact Ar158.1) (State.isArrayOf_alike hZ.alike Ar158.2.1) (g := (mkF m 22 #[.val (.ref r0), .val (.int (0 : Int32)), .val (.ref nb), .val (.ref b4), .val (.int (51 : Int32))] [(.ref nb), (.int (51 : Int32))])) rfl rfl (hb hby d7_22) t (by rw [len_of S158 N158_]; exact k)) ?_
  refine own_go (G := T157.setTop (mkF m 26 #[.val (.ref r0), .val (.int (0 : Int32)), .val (.ref nb), .val (.ref b4), .val (.int (51 : Int32))] [])) (fun _ k => XS.icmpNo X157.here hx rfl (hb hby d7_23) rfl (tlt (by decide : (51 : Int32) < (64 : Int32))).2.1 k) ?_
  refine own_go (G := T157.setTop (mkF m 27 #[.val (.ref r0), .val (.int (0 : Int32)), .val (.ref nb), .val (.ref b4), .val (.int (51 : Int32))] [(.ref b4)])) (fun _ k => XS.aloadN X157.here hx rfl (hb hby d7_26) rfl rfl k) ?_
  refine own_go (G := T157.setTop (mkF m 29 #[.val (.ref r0), .val (.int (0 : Int32)), .val (.ref nb), .val (.ref b4), .val (.int (51 : Int32))] [(.int (51 : Int32)), (.ref b4)])) (fun _ k => XS.iload X157.here hx rfl (hb hby d7_27) rfl k) ?_
  refine own_go (G := T157.setTop (mkF m 30 #[.val (.ref r0), .val (.int (0 : Int32)), .val (.ref nb), .val (.ref b4), .val (.int (51 : Int32))] [(.ref nb), (.int (51 : Int32)), (.ref b4)])) (fun _ k => XS.aloadN X157.here hx rfl (hb hby d7_29) rfl rfl k) ?_
  refine own_go (G := T157.setTop (mkF m 32 #[.val (.ref r0), .val (.int (0 : Int32)), .val (.ref nb), .val (.ref b4), .val (.int (51 : Int32))] [(.int (51 : Int32)), (.ref nb), (.int (51 : Int32)), (.ref b4)])) (fun _ k => XS.iload X157.here hx rfl (hb hby d7_30) rfl k) ?_
  obtain ⟨cl159, Ar159, qk159, S159, N159_, Ha159, G159⟩ := id V_nb_c157
  have hin159 : ¬ ((51 : Int32) < 0 ∨ cl159.slots.size ≤ ((51 : Int32)).toNatClampNeg) := inb_of S159 ⟨by decide, by decide⟩
  have hat159 : cl159.slots[((51 : Int32)).toNatClampNeg]? = some (.int (0 : Int32)) := Ha159.at hin159 rfl
  refine own_go (G := T157.setTop (mkF m 33 #[.val (.ref r0), .val (.int (0 : Int32)), .val (.ref nb), .val (.ref b4), .val (.int (51 : Int32))] [(.int (0 : Int32)), (.int (51 : Int32)), (.ref b4)])) (X157.baloadBytes hx (j := (51 : Int32)) (v := (.int (0 : Int32))) (by rw [e157]; exact Ar159.1) (State.isArrayOf_alike hZ.alike Ar159.2.1) Ar159.2.2 hin159 hat159 (g := (mkF m 32 #[.val (.ref r0), .val (.int (0 : Int32)), .val (.ref nb), .val (.ref b4), .val (.int (51 : Int32))] [(.int (51 : Int32)), (.ref nb), (.int (51 : Int32)), (.ref b4)])) rfl rfl (hb hby d7_32)) ?_
  refine own_go (G := T157.setTop (mkF m 36 #[.val (.ref r0), .val (.int (0 : Int32)), .val (.ref nb), .val (.ref b4), .val (.int (51 : Int32))] [(.int (255 : Int32)), (.int (0 : Int32)), (.int (51 : Int32)), (.ref b4)])) (fun _ k => XS.sipush X157.here hx rfl (hb hby d7_33) k) ?_
  refine own_go (G := T157.setTop (mkF m 37 #[.val (.ref r0), .val (.int (0 : Int32)), .val (.ref nb), .val (.ref b4), .val (.int (51 : Int32))] [(.int ((0 : Int32) &&& (255 : Int32))), (.int (51 : Int32)), (.ref b4)])) (fun _ k => XS.iand X157.here hx rfl (hb hby d7_36) rfl k) ?_
  rw [show ((0 : Int32) &&& (255 : Int32)) = (0 : Int32) from by decide]
  refine own_go (G := T157.setTop (mkF m 38 #[.val (.ref r0), .val (.int (0 : Int32)), .val (.ref nb), .val (.ref b4), .val (.int (51 : Int32))] [(.int ((0 : Int32).toUInt32.toUInt16.toUInt32.toInt32)), (.int (51 : Int32)), (.ref b4)])) (fun _ k => XS.i2c X157.here hx rfl (hb hby d7_37) rfl k) ?_
  rw [show ((0 : Int32).toUInt32.toUInt16.toUInt32.toInt32) = (0 : Int32) from by decide]
  obtain ⟨cl160, Ar160, qk160, S160, N160_, Ha160, G160⟩ := id V157_b4
  have hin160 : ¬ ((51 : Int32) < 0 ∨ cl160.slots.size ≤ ((51 : Int32)).toNatClampNeg) := inb_of S160 ⟨by decide, by decide⟩
  obtain ⟨T160, h160, X160, e160, W160, st160⟩ := stC X157 hx hZ e157 Ar160 (j := (51 : Int32)) hin160 (g := (mkF m 38 #[.val (.ref r0), .val (.int (0 : Int32)), .val (.ref nb), .val (.ref b4), .val (.int (51 : Int32))] [(.int (0 : Int32)), (.int (51 : Int32)), (.ref b4)])) rfl rfl (hb hby d7_38)
  have V160_b4 : Arv Z h160 b4 k4 .char (64 : Int32) (own_B (nar .char ((x0 &&& (255 : Int32)).toUInt32.toUInt16.toUInt32.toInt32)) (nar .char ((x1 &&& (255 : Int32)).toUInt32.toUInt16.toUInt32.toInt32)) (nar .char ((x2 &&& (255 : Int32)).toUInt32.toUInt16.toUInt32.toInt32))) (.int (0 : Int32)) := Arv.set Ar160 qk160 S160 N160_ Ha160 G160 (fits_nar_char _) W160 51 rfl (Nat.le_of_ble_eq_true rfl)
  have E_r0_c160 : Exa Z h160 r0 "com/example/xrefloom/xrefloom/tree/CompactText" := E_r0_c157.wr W160
  have F_length_c160 : Fld Z h160 r0 "com/example/xrefloom/xrefloom/tree/CompactText" "length" "I" (.int len) := F_length_c157.other W160 (Or.inl ne_r0_b4)
  have F_narrow_c160 : Fld Z h160 r0 "com/example/xrefloom/xrefloom/tree/CompactText" "narrow" "[[B" (.ref na) := F_narrow_c157.other W160 (Or.inl ne_r0_b4)
  have F_wide_c160 : Fld Z h160 r0 "com/example/xrefloom/xrefloom/tree/CompactText" "wide" "[[C" (.ref wa) := F_wide_c157.other W160 (Or.inl ne_r0_b4)
  have V_na_c160 : Arv Z h160 na kn (.array .byte) (1 : Int32) [(.ref nb)] .null := V_na_c157.other W160 ne_na_b4
  have V_wa_c160 : Arv Z h160 wa kw (.array .char) (1 : Int32) [.null] .null := V_wa_c157.other W160 ne_wa_b4
  have V_nb_c160 : Arv Z h160 nb kb .byte (64 : Int32) (own_B x0 x1 x2) (.int (0 : Int32)) := V_nb_c157.other W160 ne_nb_b4
  have Ea4_c160 : Exa Z h160 b4 "[C" := Ea4_c157.wr W160
  have N160 := Fr.snoc X160 N157 gn_b4
  have Z160 : n0 ≤ h160.size := Nat.le_trans Z157 (Keep.of_wr W160).1
  refine own_go (G := T160.setTop (mkF m 39 #[.val (.ref r0), .val (.int (0 : Int32)), .val (.ref nb), .val (.ref b4), .val (.int (51 : Int32))] [])) (st160) ?_
  refine own_go (G := T160.setTop (mkF m 42 #[.val (.ref r0), .val (.int (0 : Int32)), .val (.ref nb), .val (.ref b4), .val (.int ((51 : Int32) + (1 : Int32)))] [])) (fun _ k => XS.iinc X160.here hx rfl (hb hby d7_39) rfl (l' := #[.val (.ref r0), .val (.int (0 : Int32)), .val (.ref nb), .val (.ref b4), .val (.int ((51 : Int32) + (1 : Int32)))]) rfl k) ?_
  rw [show ((51 : Int32) + (1 : Int32)) = (52 : Int32) from by decide]
  refine own_go (G := T160.setTop (mkF m 19 #[.val (.ref r0), .val (.int (0 : Int32)), .val (.ref nb), .val (.ref b4), .val (.int (52 : Int32))] [])) (fun _ k => XS.goto X160.here hx rfl (pc0 := 42) (pc' := 19) rfl (hb hby d7_42) (by decide) (by decide) k) ?_
  refine own_go (G := T160.setTop (mkF m 21 #[.val (.ref r0), .val (.int (0 : Int32)), .val (.ref nb), .val (.ref b4), .val (.int (52 : Int32))] [(.int (52 : Int32))])) (fun _ k => XS.iload X160.here hx rfl (hb hby d7_19) rfl k) ?_
  refine own_go (G := T160.setTop (mkF m 22 #[.val (.ref r0), .val (.int (0 : Int32)), .val (.ref nb), .val (.ref b4), .val (.int (52 : Int32))] [(.ref nb), (.int (52 : Int32))])) (fun _ k => XS.aloadN X160.here hx rfl (hb hby d7_21) rfl rfl k) ?_
  obtain ⟨cl161, Ar161, -, S161, N161_, -, -⟩ := id V_nb_c160
  refine own_go (G := T160.setTop (mkF m 23 #[.val (.ref r0), .val (.int (0 : Int32)), .val (.ref nb), .val (.ref b4), .val (.int (52 : Int32))] [(.int (64 : Int32)), (.int (52 : Int32))])) (fun t k => X160.arraylength hx (by rw [e160]; exact Ar161.1) (State.isArrayOf_alike hZ.alike Ar161.2.1) (g := (mkF m 22 #[.val (.ref r0), .val (.int (0 : Int32)), .val (.ref nb), .val (.ref b4), .val (.int (52 : Int32))] [(.ref nb), (.int (52 : Int32))])) rfl rfl (hb hby d7_22) t (by rw [len_of S161 N161_]; exact k)) ?_
  refine own_go (G := T160.setTop (mkF m 26 #[.val (.ref r0), .val (.int (0 : Int32)), .val (.ref nb), .val (.ref b4), .val (.int (52 : Int32))] [])) (fun _ k => XS.icmpNo X160.here hx rfl (hb hby d7_23) rfl (tlt (by decide : (52 : Int32) < (64 : Int32))).2.1 k) ?_
  refine own_go (G := T160.setTop (mkF m 27 #[.val (.ref r0), .val (.int (0 : Int32)), .val (.ref nb), .val (.ref b4), .val (.int (52 : Int32))] [(.ref b4)])) (fun _ k => XS.aloadN X160.here hx rfl (hb hby d7_26) rfl rfl k) ?_
  refine own_go (G := T160.setTop (mkF m 29 #[.val (.ref r0), .val (.int (0 : Int32)), .val (.ref nb), .val (.ref b4), .val (.int (52 : Int32))] [(.int (52 : Int32)), (.ref b4)])) (fun _ k => XS.iload X160.here hx rfl (hb hby d7_27) rfl k) ?_
  refine own_go (G := T160.setTop (mkF m 30 #[.val (.ref r0), .val (.int (0 : Int32)), .val (.ref nb), .val (.ref b4), .val (.int (52 : Int32))] [(.ref nb), (.int (52 : Int32)), (.ref b4)])) (fun _ k => XS.aloadN X160.here hx rfl (hb hby d7_29) rfl rfl k) ?_
  refine own_go (G := T160.setTop (mkF m 32 #[.val (.ref r0), .val (.int (0 : Int32)), .val (.ref nb), .val (.ref b4), .val (.int (52 : Int32))] [(.int (52 : Int32)), (.ref nb), (.int (52 : Int32)), (.ref b4)])) (fun _ k => XS.iload X160.here hx rfl (hb hby d7_30) rfl k) ?_
  obtain ⟨cl162, Ar162, qk162, S162, N162_, Ha162, G162⟩ := id V_nb_c160
  have hin162 : ¬ ((52 : Int32) < 0 ∨ cl162.slots.size ≤ ((52 : Int32)).toNatClampNeg) := inb_of S162 ⟨by decide, by decide⟩
  have hat162 : cl162.slots[((52 : Int32)).toNatClampNeg]? = some (.int (0 : Int32)) := Ha162.at hin162 rfl
  refine own_go (G := T160.setTop (mkF m 33 #[.val (.ref r0), .val (.int (0 : Int32)), .val (.ref nb), .val (.ref b4), .val (.int (52 : Int32))] [(.int (0 : Int32)), (.int (52 : Int32)), (.ref b4)])) (X160.baloadBytes hx (j := (52 : Int32)) (v := (.int (0 : Int32))) (by rw [e160]; exact Ar162.1) (State.isArrayOf_alike hZ.alike Ar162.2.1) Ar162.2.2 hin162 hat162 (g := (mkF m 32 #[.val (.ref r0), .val (.int (0 : Int32)), .val (.ref nb), .val (.ref b4), .val (.int (52 : Int32))] [(.int (52 : Int32)), (.ref nb), (.int (52 : Int32)), (.ref b4)])) rfl rfl (hb hby d7_32)) ?_
  refine own_go (G := T160.setTop (mkF m 36 #[.val (.ref r0), .val (.int (0 : Int32)), .val (.ref nb), .val (.ref b4), .val (.int (52 : Int32))] [(.int (255 : Int32)), (.int (0 : Int32)), (.int (52 : Int32)), (.ref b4)])) (fun _ k => XS.sipush X160.here hx rfl (hb hby d7_33) k) ?_
  refine own_go (G := T160.setTop (mkF m 37 #[.val (.ref r0), .val (.int (0 : Int32)), .val (.ref nb), .val (.ref b4), .val (.int (52 : Int32))] [(.int ((0 : Int32) &&& (255 : Int32))), (.int (52 : Int32)), (.ref b4)])) (fun _ k => XS.iand X160.here hx rfl (hb hby d7_36) rfl k) ?_
  rw [show ((0 : Int32) &&& (255 : Int32)) = (0 : Int32) from by decide]
  refine own_go (G := T160.setTop (mkF m 38 #[.val (.ref r0), .val (.int (0 : Int32)), .val (.ref nb), .val (.ref b4), .val (.int (52 : Int32))] [(.int ((0 : Int32).toUInt32.toUInt16.toUInt32.toInt32)), (.int (52 : Int32)), (.ref b4)])) (fun _ k => XS.i2c X160.here hx rfl (hb hby d7_37) rfl k) ?_
  rw [show ((0 : Int32).toUInt32.toUInt16.toUInt32.toInt32) = (0 : Int32) from by decide]
  obtain ⟨cl163, Ar163, qk163, S163, N163_, Ha163, G163⟩ := id V160_b4
  have hin163 : ¬ ((52 : Int32) < 0 ∨ cl163.slots.size ≤ ((52 : Int32)).toNatClampNeg) := inb_of S163 ⟨by decide, by decide⟩
  obtain ⟨T163, h163, X163, e163, W163, st163⟩ := stC X160 hx hZ e160 Ar163 (j := (52 : Int32)) hin163 (g := (mkF m 38 #[.val (.ref r0), .val (.int (0 : Int32)), .val (.ref nb), .val (.ref b4), .val (.int (52 : Int32))] [(.int (0 : Int32)), (.int (52 : Int32)), (.ref b4)])) rfl rfl (hb hby d7_38)
  have V163_b4 : Arv Z h163 b4 k4 .char (64 : Int32) (own_B (nar .char ((x0 &&& (255 : Int32)).toUInt32.toUInt16.toUInt32.toInt32)) (nar .char ((x1 &&& (255 : Int32)).toUInt32.toUInt16.toUInt32.toInt32)) (nar .char ((x2 &&& (255 : Int32)).toUInt32.toUInt16.toUInt32.toInt32))) (.int (0 : Int32)) := Arv.set Ar163 qk163 S163 N163_ Ha163 G163 (fits_nar_char _) W163 52 rfl (Nat.le_of_ble_eq_true rfl)
  have E_r0_c163 : Exa Z h163 r0 "com/example/xrefloom/xrefloom/tree/CompactText" := E_r0_c160.wr W163
  have F_length_c163 : Fld Z h163 r0 "com/example/xrefloom/xrefloom/tree/CompactText" "length" "I" (.int len) := F_length_c160.other W163 (Or.inl ne_r0_b4)
  have F_narrow_c163 : Fld Z h163 r0 "com/example/xrefloom/xrefloom/tree/CompactText" "narrow" "[[B" (.ref na) := F_narrow_c160.other W163 (Or.inl ne_r0_b4)
  have F_wide_c163 : Fld Z h163 r0 "com/example/xrefloom/xrefloom/tree/CompactText" "wide" "[[C" (.ref wa) := F_wide_c160.other W163 (Or.inl ne_r0_b4)
  have V_na_c163 : Arv Z h163 na kn (.array .byte) (1 : Int32) [(.ref nb)] .null := V_na_c160.other W163 ne_na_b4
  have V_wa_c163 : Arv Z h163 wa kw (.array .char) (1 : Int32) [.null] .null := V_wa_c160.other W163 ne_wa_b4
  have V_nb_c163 : Arv Z h163 nb kb .byte (64 : Int32) (own_B x0 x1 x2) (.int (0 : Int32)) := V_nb_c160.other W163 ne_nb_b4
  have Ea4_c163 : Exa Z h163 b4 "[C" := Ea4_c160.wr W163
  have N163 := Fr.snoc X163 N160 gn_b4
  have Z163 : n0 ≤ h163.size := Nat.le_trans Z160 (Keep.of_wr W163).1
  refine own_go (G := T163.setTop (mkF m 39 #[.val (.ref r0), .val (.int (0 : Int32)), .val (.ref nb), .val (.ref b4), .val (.int (52 : Int32))] [])) (st163) ?_
  refine own_go (G := T163.setTop (mkF m 42 #[.val (.ref r0), .val (.int (0 : Int32)), .val (.ref nb), .val (.ref b4), .val (.int ((52 : Int32) + (1 : Int32)))] [])) (fun _ k => XS.iinc X163.here hx rfl (hb hby d7_39) rfl (l' := #[.val (.ref r0), .val (.int (0 : Int32)), .val (.ref nb), .val (.ref b4), .val (.int ((52 : Int32) + (1 : Int32)))]) rfl k) ?_
  rw [show ((52 : Int32) + (1 : Int32)) = (53 : Int32) from by decide]
  refine own_go (G := T163.setTop (mkF m 19 #[.val (.ref r0), .val (.int (0 : Int32)), .val (.ref nb), .val (.ref b4), .val (.int (53 : Int32))] [])) (fun _ k => XS.goto X163.here hx rfl (pc0 := 42) (pc' := 19) rfl (hb hby d7_42) (by decide) (by decide) k) ?_
  refine own_go (G := T163.setTop (mkF m 21 #[.val (.ref r0), .val (.int (0 : Int32)), .val (.ref nb), .val (.ref b4), .val (.int (53 : Int32))] [(.int (53 : Int32))])) (fun _ k => XS.iload X163.here hx rfl (hb hby d7_19) rfl k) ?_
  refine own_go (G := T163.setTop (mkF m 22 #[.val (.ref r0), .val (.int (0 : Int32)), .val (.ref nb), .val (.ref b4), .val (.int (53 : Int32))] [(.ref nb), (.int (53 : Int32))])) (fun _ k => XS.aloadN X163.here hx rfl (hb hby d7_21) rfl rfl k) ?_
  obtain ⟨cl164, Ar164, -, S164, N164_, -, -⟩ := id V_nb_c163
  refine own_go (G := T163.setTop (mkF m 23 #[.val (.ref r0), .val (.int (0 : Int32)), .val (.ref nb), .val (.ref b4), .val (.int (53 : Int32))] [(.int (64 : Int32)), (.int (53 : Int32))])) (fun t k => X163.arraylength hx (by rw [e163]; exact Ar164.1) (State.isArrayOf_alike hZ.alike Ar164.2.1) (g := (mkF m 22 #[.val (.ref r0), .val (.int (0 : Int32)), .val (.ref nb), .val (.ref b4), .val (.int (53 : Int32))] [(.ref nb), (.int (53 : Int32))])) rfl rfl (hb hby d7_22) t (by rw [len_of S164 N164_]; exact k)) ?_
  refine own_go (G := T163.setTop (mkF m 26 #[.val (.ref r0), .val (.int (0 : Int32)), .val (.ref nb), .val (.ref b4), .val (.int (53 : Int32))] [])) (fun _ k => XS.icmpNo X163.here hx rfl (hb hby d7_23) rfl (tlt (by decide : (53 : Int32) < (64 : Int32))).2.1 k) ?_
  refine own_go (G := T163.setTop (mkF m 27 #[.val (.ref r0), .val (.int (0 : Int32)), .val (.ref nb), .val (.ref b4), .val (.int (53 : Int32))] [(.ref b4)])) (fun _ k => XS.aloadN X163.here hx rfl (hb hby d7_26) rfl rfl k) ?_
  refine own_go (G := T163.setTop (mkF m 29 #[.val (.ref r0), .val (.int (0 : Int32)), .val (.ref nb), .val (.ref b4), .val (.int (53 : Int32))] [(.int (53 : Int32)), (.ref b4)])) (fun _ k => XS.iload X163.here hx rfl (hb hby d7_27) rfl k) ?_
  refine own_go (G := T163.setTop (mkF m 30 #[.val (.ref r0), .val (.int (0 : Int32)), .val (.ref nb), .val (.ref b4), .val (.int (53 : Int32))] [(.ref nb), (.int (53 : Int32)), (.ref b4)])) (fun _ k => XS.aloadN X163.here hx rfl (hb hby d7_29) rfl rfl k) ?_
  refine own_go (G := T163.setTop (mkF m 32 #[.val (.ref r0), .val (.int (0 : Int32)), .val (.ref nb), .val (.ref b4), .val (.int (53 : Int32))] [(.int (53 : Int32)), (.ref nb), (.int (53 : Int32)), (.ref b4)])) (fun _ k => XS.iload X163.here hx rfl (hb hby d7_30) rfl k) ?_
  obtain ⟨cl165, Ar165, qk165, S165, N165_, Ha165, G165⟩ := id V_nb_c163
  have hin165 : ¬ ((53 : Int32) < 0 ∨ cl165.slots.size ≤ ((53 : Int32)).toNatClampNeg) := inb_of S165 ⟨by decide, by decide⟩
  have hat165 : cl165.slots[((53 : Int32)).toNatClampNeg]? = some (.int (0 : Int32)) := Ha165.at hin165 rfl
  refine own_go (G := T163.setTop (mkF m 33 #[.val (.ref r0), .val (.int (0 : Int32)), .val (.ref nb), .val (.ref b4), .val (.int (53 : Int32))] [(.int (0 : Int32)), (.int (53 : Int32)), (.ref b4)])) (X163.baloadBytes hx (j := (53 : Int32)) (v := (.int (0 : Int32))) (by rw [e163]; exact Ar165.1) (State.isArrayOf_alike hZ.alike Ar165.2.1) Ar165.2.2 hin165 hat165 (g := (mkF m 32 #[.val (.ref r0), .val (.int (0 : Int32)), .val (.ref nb), .val (.ref b4), .val (.int (53 : Int32))] [(.int (53 : Int32)), (.ref nb), (.int (53 : Int32)), (.ref b4)])) rfl rfl (hb hby d7_32)) ?_
  refine own_go (G := T163.setTop (mkF m 36 #[.val (.ref r0), .val (.int (0 : Int32)), .val (.ref nb), .val (.ref b4), .val (.int (53 : Int32))] [(.int (255 : Int32)), (.int (0 : Int32)), (.int (53 : Int32)), (.ref b4)])) (fun _ k => XS.sipush X163.here hx rfl (hb hby d7_33) k) ?_
  refine own_go (G := T163.setTop (mkF m 37 #[.val (.ref r0), .val (.int (0 : Int32)), .val (.ref nb), .val (.ref b4), .val (.int (53 : Int32))] [(.int ((0 : Int32) &&& (255 : Int32))), (.int (53 : Int32)), (.ref b4)])) (fun _ k => XS.iand X163.here hx rfl (hb hby d7_36) rfl k) ?_
  rw [show ((0 : Int32) &&& (255 : Int32)) = (0 : Int32) from by decide]
  refine own_go (G := T163.setTop (mkF m 38 #[.val (.ref r0), .val (.int (0 : Int32)), .val (.ref nb), .val (.ref b4), .val (.int (53 : Int32))] [(.int ((0 : Int32).toUInt32.toUInt16.toUInt32.toInt32)), (.int (53 : Int32)), (.ref b4)])) (fun _ k => XS.i2c X163.here hx rfl (hb hby d7_37) rfl k) ?_
  rw [show ((0 : Int32).toUInt32.toUInt16.toUInt32.toInt32) = (0 : Int32) from by decide]
  obtain ⟨cl166, Ar166, qk166, S166, N166_, Ha166, G166⟩ := id V163_b4
  have hin166 : ¬ ((53 : Int32) < 0 ∨ cl166.slots.size ≤ ((53 : Int32)).toNatClampNeg) := inb_of S166 ⟨by decide, by decide⟩
  obtain ⟨T166, h166, X166, e166, W166, st166⟩ := stC X163 hx hZ e163 Ar166 (j := (53 : Int32)) hin166 (g := (mkF m 38 #[.val (.ref r0), .val (.int (0 : Int32)), .val (.ref nb), .val (.ref b4), .val (.int (53 : Int32))] [(.int (0 : Int32)), (.int (53 : Int32)), (.ref b4)])) rfl rfl (hb hby d7_38)
  have V166_b4 : Arv Z h166 b4 k4 .char (64 : Int32) (own_B (nar .char ((x0 &&& (255 : Int32)).toUInt32.toUInt16.toUInt32.toInt32)) (nar .char ((x1 &&& (255 : Int32)).toUInt32.toUInt16.toUInt32.toInt32)) (nar .char ((x2 &&& (255 : Int32)).toUInt32.toUInt16.toUInt32.toInt32))) (.int (0 : Int32)) := Arv.set Ar166 qk166 S166 N166_ Ha166 G166 (fits_nar_char _) W166 53 rfl (Nat.le_of_ble_eq_true rfl)
  have E_r0_c166 : Exa Z h166 r0 "com/example/xrefloom/xrefloom/tree/CompactText" := E_r0_c163.wr W166
  have F_length_c166 : Fld Z h166 r0 "com/example/xrefloom/xrefloom/tree/CompactText" "length" "I" (.int len) := F_length_c163.other W166 (Or.inl ne_r0_b4)
  have F_narrow_c166 : Fld Z h166 r0 "com/example/xrefloom/xrefloom/tree/CompactText" "narrow" "[[B" (.ref na) := F_narrow_c163.other W166 (Or.inl ne_r0_b4)
  have F_wide_c166 : Fld Z h166 r0 "com/example/xrefloom/xrefloom/tree/CompactText" "wide" "[[C" (.ref wa) := F_wide_c163.other W166 (Or.inl ne_r0_b4)
  have V_na_c166 : Arv Z h166 na kn (.array .byte) (1 : Int32) [(.ref nb)] .null := V_na_c163.other W166 ne_na_b4
  have V_wa_c166 : Arv Z h166 wa kw (.array .char) (1 : Int32) [.null] .null := V_wa_c163.other W166 ne_wa_b4
  have V_nb_c166 : Arv Z h166 nb kb .byte (64 : Int32) (own_B x0 x1 x2) (.int (0 : Int32)) := V_nb_c163.other W166 ne_nb_b4
  have Ea4_c166 : Exa Z h166 b4 "[C" := Ea4_c163.wr W166
  have N166 := Fr.snoc X166 N163 gn_b4
  have Z166 : n0 ≤ h166.size := Nat.le_trans Z163 (Keep.of_wr W166).1
  refine own_go (G := T166.setTop (mkF m 39 #[.val (.ref r0), .val (.int (0 : Int32)), .val (.ref nb), .val (.ref b4), .val (.int (53 : Int32))] [])) (st166) ?_
  refine own_go (G := T166.setTop (mkF m 42 #[.val (.ref r0), .val (.int (0 : Int32)), .val (.ref nb), .val (.ref b4), .val (.int ((53 : Int32) + (1 : Int32)))] [])) (fun _ k => XS.iinc X166.here hx rfl (hb hby d7_39) rfl (l' := #[.val (.ref r0), .val (.int (0 : Int32)), .val (.ref nb), .val (.ref b4), .val (.int ((53 : Int32) + (1 : Int32)))]) rfl k) ?_
  rw [show ((53 : Int32) + (1 : Int32)) = (54 : Int32) from by decide]
  refine own_go (G := T166.setTop (mkF m 19 #[.val (.ref r0), .val (.int (0 : Int32)), .val (.ref nb), .val (.ref b4), .val (.int (54 : Int32))] [])) (fun _ k => XS.goto X166.here hx rfl (pc0 := 42) (pc' := 19) rfl (hb hby d7_42) (by decide) (by decide) k) ?_
  refine own_go (G := T166.setTop (mkF m 21 #[.val (.ref r0), .val (.int (0 : Int32)), .val (.ref nb), .val (.ref b4), .val (.int (54 : Int32))] [(.int (54 : Int32))])) (fun _ k => XS.iload X166.here hx rfl (hb hby d7_19) rfl k) ?_
  refine own_go (G := T166.setTop (mkF m 22 #[.val (.ref r0), .val (.int (0 : Int32)), .val (.ref nb), .val (.ref b4), .val (.int (54 : Int32))] [(.ref nb), (.int (54 : Int32))])) (fun _ k => XS.aloadN X166.here hx rfl (hb hby d7_21) rfl rfl k) ?_
  obtain ⟨cl167, Ar167, -, S167, N167_, -, -⟩ := id V_nb_c166
  refine own_go (G := T166.setTop (mkF m 23 #[.val (.ref r0), .val (.int (0 : Int32)), .val (.ref nb), .val (.ref b4), .val (.int (54 : Int32))] [(.int (64 : Int32)), (.int (54 : Int32))])) (fun t k => X166.arraylength hx (by rw [e166]; exact Ar167.1) (State.isArrayOf_alike hZ.alike Ar167.2.1) (g := (mkF m 22 #[.val (.ref r0), .val (.int (0 : Int32)), .val (.ref nb), .val (.ref b4), .val (.int (54 : Int32))] [(.ref nb), (.int (54 : Int32))])) rfl rfl (hb hby d7_22) t (by rw [len_of S167 N167_]; exact k)) ?_
  refine own_go (G := T166.setTop (mkF m 26 #[.val (.ref r0), .val (.int (0 : Int32)), .val (.ref nb), .val (.ref b4), .val (.int (54 : Int32))] [])) (fun _ k => XS.icmpNo X166.here hx rfl (hb hby d7_23) rfl (tlt (by decide : (54 : Int32) < (64 : Int32))).2.1 k) ?_
  refine own_go (G := T166.setTop (mkF m 27 #[.val (.ref r0), .val (.int (0 : Int32)), .val (.ref nb), .val (.ref b4), .val (.int (54 : Int32))] [(.ref b4)])) (fun _ k => XS.aloadN X166.here hx rfl (hb hby d7_26) rfl rfl k) ?_
  refine own_go (G := T166.setTop (mkF m 29 #[.val (.ref r0), .val (.int (0 : Int32)), .val (.ref nb), .val (.ref b4), .val (.int (54 : Int32))] [(.int (54 : Int32)), (.ref b4)])) (fun _ k => XS.iload X166.here hx rfl (hb hby d7_27) rfl k) ?_
  refine own_go (G := T166.setTop (mkF m 30 #[.val (.ref r0), .val (.int (0 : Int32)), .val (.ref nb), .val (.ref b4), .val (.int (54 : Int32))] [(.ref nb), (.int (54 : Int32)), (.ref b4)])) (fun _ k => XS.aloadN X166.here hx rfl (hb hby d7_29) rfl rfl k) ?_
  refine own_go (G := T166.setTop (mkF m 32 #[.val (.ref r0), .val (.int (0 : Int32)), .val (.ref nb), .val (.ref b4), .val (.int (54 : Int32))] [(.int (54 : Int32)), (.ref nb), (.int (54 : Int32)), (.ref b4)])) (fun _ k => XS.iload X166.here hx rfl (hb hby d7_30) rfl k) ?_
  obtain ⟨cl168, Ar168, qk168, S168, N168_, Ha168, G168⟩ := id V_nb_c166
  have hin168 : ¬ ((54 : Int32) < 0 ∨ cl168.slots.size ≤ ((54 : Int32)).toNatClampNeg) := inb_of S168 ⟨by decide, by decide⟩
  have hat168 : cl168.slots[((54 : Int32)).toNatClampNeg]? = some (.int (0 : Int32)) := Ha168.at hin168 rfl
  refine own_go (G := T166.setTop (mkF m 33 #[.val (.ref r0), .val (.int (0 : Int32)), .val (.ref nb), .val (.ref b4), .val (.int (54 : Int32))] [(.int (0 : Int32)), (.int (54 : Int32)), (.ref b4)])) (X166.baloadBytes hx (j := (54 : Int32)) (v := (.int (0 : Int32))) (by rw [e166]; exact Ar168.1) (State.isArrayOf_alike hZ.alike Ar168.2.1) Ar168.2.2 hin168 hat168 (g := (mkF m 32 #[.val (.ref r0), .val (.int (0 : Int32)), .val (.ref nb), .val (.ref b4), .val (.int (54 : Int32))] [(.int (54 : Int32)), (.ref nb), (.int (54 : Int32)), (.ref b4)])) rfl rfl (hb hby d7_32)) ?_
  refine own_go (G := T166.setTop (mkF m 36 #[.val (.ref r0), .val (.int (0 : Int32)), .val (.ref nb), .val (.ref b4), .val (.int (54 : Int32))] [(.int (255 : Int32)), (.int (0 : Int32)), (.int (54 : Int32)), (.ref b4)])) (fun _ k => XS.sipush X166.here hx rfl (hb hby d7_33) k) ?_
  refine own_go (G := T166.setTop (mkF m 37 #[.val (.ref r0), .val (.int (0 : Int32)), .val (.ref nb), .val (.ref b4), .val (.int (54 : Int32))] [(.int ((0 : Int32) &&& (255 : Int32))), (.int (54 : Int32)), (.ref b4)])) (fun _ k => XS.iand X166.here hx rfl (hb hby d7_36) rfl k) ?_
  rw [show ((0 : Int32) &&& (255 : Int32)) = (0 : Int32) from by decide]
  refine own_go (G := T166.setTop (mkF m 38 #[.val (.ref r0), .val (.int (0 : Int32)), .val (.ref nb), .val (.ref b4), .val (.int (54 : Int32))] [(.int ((0 : Int32).toUInt32.toUInt16.toUInt32.toInt32)), (.int (54 : Int32)), (.ref b4)])) (fun _ k => XS.i2c X166.here hx rfl (hb hby d7_37) rfl k) ?_
  rw [show ((0 : Int32).toUInt32.toUInt16.toUInt32.toInt32) = (0 : Int32) from by decide]
  obtain ⟨cl169, Ar169, qk169, S169, N169_, Ha169, G169⟩ := id V166_b4
  have hin169 : ¬ ((54 : Int32) < 0 ∨ cl169.slots.size ≤ ((54 : Int32)).toNatClampNeg) := inb_of S169 ⟨by decide, by decide⟩
  obtain ⟨T169, h169, X169, e169, W169, st169⟩ := stC X166 hx hZ e166 Ar169 (j := (54 : Int32)) hin169 (g := (mkF m 38 #[.val (.ref r0), .val (.int (0 : Int32)), .val (.ref nb), .val (.ref b4), .val (.int (54 : Int32))] [(.int (0 : Int32)), (.int (54 : Int32)), (.ref b4)])) rfl rfl (hb hby d7_38)
  have V169_b4 : Arv Z h169 b4 k4 .char (64 : Int32) (own_B (nar .char ((x0 &&& (255 : Int32)).toUInt32.toUInt16.toUInt32.toInt32)) (nar .char ((x1 &&& (255 : Int32)).toUInt32.toUInt16.toUInt32.toInt32)) (nar .char ((x2 &&& (255 : Int32)).toUInt32.toUInt16.toUInt32.toInt32))) (.int (0 : Int32)) := Arv.set Ar169 qk169 S169 N169_ Ha169 G169 (fits_nar_char _) W169 54 rfl (Nat.le_of_ble_eq_true rfl)
  have E_r0_c169 : Exa Z h169 r0 "com/example/xrefloom/xrefloom/tree/CompactText" := E_r0_c166.wr W169
  have F_length_c169 : Fld Z h169 r0 "com/example/xrefloom/xrefloom/tree/CompactText" "length" "I" (.int len) := F_length_c166.other W169 (Or.inl ne_r0_b4)
  have F_narrow_c169 : Fld Z h169 r0 "com/example/xrefloom/xrefloom/tree/CompactText" "narrow" "[[B" (.ref na) := F_narrow_c166.other W169 (Or.inl ne_r0_b4)
  have F_wide_c169 : Fld Z h169 r0 "com/example/xrefloom/xrefloom/tree/CompactText" "wide" "[[C" (.ref wa) := F_wide_c166.other W169 (Or.inl ne_r0_b4)
  have V_na_c169 : Arv Z h169 na kn (.array .byte) (1 : Int32) [(.ref nb)] .null := V_na_c166.other W169 ne_na_b4
  have V_wa_c169 : Arv Z h169 wa kw (.array .char) (1 : Int32) [.null] .null := V_wa_c166.other W169 ne_wa_b4
  have V_nb_c169 : Arv Z h169 nb kb .byte (64 : Int32) (own_B x0 x1 x2) (.int (0 : Int32)) := V_nb_c166.other W169 ne_nb_b4
  have Ea4_c169 : Exa Z h169 b4 "[C" := Ea4_c166.wr W169
  have N169 := Fr.snoc X169 N166 gn_b4
  have Z169 : n0 ≤ h169.size := Nat.le_trans Z166 (Keep.of_wr W169).1
  refine own_go (G := T169.setTop (mkF m 39 #[.val (.ref r0), .val (.int (0 : Int32)), .val (.ref nb), .val (.ref b4), .val (.int (54 : Int32))] [])) (st169) ?_
  refine own_go (G := T169.setTop (mkF m 42 #[.val (.ref r0), .val (.int (0 : Int32)), .val (.ref nb), .val (.ref b4), .val (.int ((54 : Int32) + (1 : Int32)))] [])) (fun _ k => XS.iinc X169.here hx rfl (hb hby d7_39) rfl (l' := #[.val (.ref r0), .val (.int (0 : Int32)), .val (.ref nb), .val (.ref b4), .val (.int ((54 : Int32) + (1 : Int32)))]) rfl k) ?_
  rw [show ((54 : Int32) + (1 : Int32)) = (55 : Int32) from by decide]
  refine own_go (G := T169.setTop (mkF m 19 #[.val (.ref r0), .val (.int (0 : Int32)), .val (.ref nb), .val (.ref b4), .val (.int (55 : Int32))] [])) (fun _ k => XS.goto X169.here hx rfl (pc0 := 42) (pc' := 19) rfl (hb hby d7_42) (by decide) (by decide) k) ?_
  refine own_go (G := T169.setTop (mkF m 21 #[.val (.ref r0), .val (.int (0 : Int32)), .val (.ref nb), .val (.ref b4), .val (.int (55 : Int32))] [(.int (55 : Int32))])) (fun _ k => XS.iload X169.here hx rfl (hb hby d7_19) rfl k) ?_
  refine own_go (G := T169.setTop (mkF m 22 #[.val (.ref r0), .val (.int (0 : Int32)), .val (.ref nb), .val (.ref b4), .val (.int (55 : Int32))] [(.ref nb), (.int (55 : Int32))])) (fun _ k => XS.aloadN X169.here hx rfl (hb hby d7_21) rfl rfl k) ?_
  obtain ⟨cl170, Ar170, -, S170, N170_, -, -⟩ := id V_nb_c169
  refine own_go (G := T169.setTop (mkF m 23 #[.val (.ref r0), .val (.int (0 : Int32)), .val (.ref nb), .val (.ref b4), .val (.int (55 : Int32))] [(.int (64 : Int32)), (.int (55 : Int32))])) (fun t k => X169.arraylength hx (by rw [e169]; exact Ar170.1) (State.isArrayOf_alike hZ.alike Ar170.2.1) (g := (mkF m 22 #[.val (.ref r0), .val (.int (0 : Int32)), .val (.ref nb), .val (.ref b4), .val (.int (55 : Int32))] [(.ref nb), (.int (55 : Int32))])) rfl rfl (hb hby d7_22) t (by rw [len_of S170 N170_]; exact k)) ?_
  refine own_go (G := T169.setTop (mkF m 26 #[.val (.ref r0), .val (.int (0 : Int32)), .val (.ref nb), .val (.ref b4), .val (.int (55 : Int32))] [])) (fun _ k => XS.icmpNo X169.here hx rfl (hb hby d7_23) rfl (tlt (by decide : (55 : Int32) < (64 : Int32))).2.1 k) ?_
  refine own_go (G := T169.setTop (mkF m 27 #[.val (.ref r0), .val (.int (0 : Int32)), .val (.ref nb), .val (.ref b4), .val (.int (55 : Int32))] [(.ref b4)])) (fun _ k => XS.aloadN X169.here hx rfl (hb hby d7_26) rfl rfl k) ?_
  refine own_go (G := T169.setTop (mkF m 29 #[.val (.ref r0), .val (.int (0 : Int32)), .val (.ref nb), .val (.ref b4), .val (.int (55 : Int32))] [(.int (55 : Int32)), (.ref b4)])) (fun _ k => XS.iload X169.here hx rfl (hb hby d7_27) rfl k) ?_
  refine own_go (G := T169.setTop (mkF m 30 #[.val (.ref r0), .val (.int (0 : Int32)), .val (.ref nb), .val (.ref b4), .val (.int (55 : Int32))] [(.ref nb), (.int (55 : Int32)), (.ref b4)])) (fun _ k => XS.aloadN X169.here hx rfl (hb hby d7_29) rfl rfl k) ?_
  refine own_go (G := T169.setTop (mkF m 32 #[.val (.ref r0), .val (.int (0 : Int32)), .val (.ref nb), .val (.ref b4), .val (.int (55 : Int32))] [(.int (55 : Int32)), (.ref nb), (.int (55 : Int32)), (.ref b4)])) (fun _ k => XS.iload X169.here hx rfl (hb hby d7_30) rfl k) ?_
  obtain ⟨cl171, Ar171, qk171, S171, N171_, Ha171, G171⟩ := id V_nb_c169
  have hin171 : ¬ ((55 : Int32) < 0 ∨ cl171.slots.size ≤ ((55 : Int32)).toNatClampNeg) := inb_of S171 ⟨by decide, by decide⟩
  have hat171 : cl171.slots[((55 : Int32)).toNatClampNeg]? = some (.int (0 : Int32)) := Ha171.at hin171 rfl
  refine own_go (G := T169.setTop (mkF m 33 #[.val (.ref r0), .val (.int (0 : Int32)), .val (.ref nb), .val (.ref b4), .val (.int (55 : Int32))] [(.int (0 : Int32)), (.int (55 : Int32)), (.ref b4)])) (X169.baloadBytes hx (j := (55 : Int32)) (v := (.int (0 : Int32))) (by rw [e169]; exact Ar171.1) (State.isArrayOf_alike hZ.alike Ar171.2.1) Ar171.2.2 hin171 hat171 (g := (mkF m 32 #[.val (.ref r0), .val (.int (0 : Int32)), .val (.ref nb), .val (.ref b4), .val (.int (55 : Int32))] [(.int (55 : Int32)), (.ref nb), (.int (55 : Int32)), (.ref b4)])) rfl rfl (hb hby d7_32)) ?_
  refine own_go (G := T169.setTop (mkF m 36 #[.val (.ref r0), .val (.int (0 : Int32)), .val (.ref nb), .val (.ref b4), .val (.int (55 : Int32))] [(.int (255 : Int32)), (.int (0 : Int32)), (.int (55 : Int32)), (.ref b4)])) (fun _ k => XS.sipush X169.here hx rfl (hb hby d7_33) k) ?_
  refine own_go (G := T169.setTop (mkF m 37 #[.val (.ref r0), .val (.int (0 : Int32)), .val (.ref nb), .val (.ref b4), .val (.int (55 : Int32))] [(.int ((0 : Int32) &&& (255 : Int32))), (.int (55 : Int32)), (.ref b4)])) (fun _ k => XS.iand X169.here hx rfl (hb hby d7_36) rfl k) ?_
  rw [show ((0 : Int32) &&& (255 : Int32)) = (0 : Int32) from by decide]
  refine own_go (G := T169.setTop (mkF m 38 #[.val (.ref r0), .val (.int (0 : Int32)), .val (.ref nb), .val (.ref b4), .val (.int (55 : Int32))] [(.int ((0 : Int32).toUInt32.toUInt16.toUInt32.toInt32)), (.int (55 : Int32)), (.ref b4)])) (fun _ k => XS.i2c X169.here hx rfl (hb hby d7_37) rfl k) ?_
  rw [show ((0 : Int32).toUInt32.toUInt16.toUInt32.toInt32) = (0 : Int32) from by decide]
  obtain ⟨cl172, Ar172, qk172, S172, N172_, Ha172, G172⟩ := id V169_b4
  have hin172 : ¬ ((55 : Int32) < 0 ∨ cl172.slots.size ≤ ((55 : Int32)).toNatClampNeg) := inb_of S172 ⟨by decide, by decide⟩
  obtain ⟨T172, h172, X172, e172, W172, st172⟩ := stC X169 hx hZ e169 Ar172 (j := (55 : Int32)) hin172 (g := (mkF m 38 #[.val (.ref r0), .val (.int (0 : Int32)), .val (.ref nb), .val (.ref b4), .val (.int (55 : Int32))] [(.int (0 : Int32)), (.int (55 : Int32)), (.ref b4)])) rfl rfl (hb hby d7_38)
  have V172_b4 : Arv Z h172 b4 k4 .char (64 : Int32) (own_B (nar .char ((x0 &&& (255 : Int32)).toUInt32.toUInt16.toUInt32.toInt32)) (nar .char ((x1 &&& (255 : Int32)).toUInt32.toUInt16.toUInt32.toInt32)) (nar .char ((x2 &&& (255 : Int32)).toUInt32.toUInt16.toUInt32.toInt32))) (.int (0 : Int32)) := Arv.set Ar172 qk172 S172 N172_ Ha172 G172 (fits_nar_char _) W172 55 rfl (Nat.le_of_ble_eq_true rfl)
  have E_r0_c172 : Exa Z h172 r0 "com/example/xrefloom/xrefloom/tree/CompactText" := E_r0_c169.wr W172
  have F_length_c172 : Fld Z h172 r0 "com/example/xrefloom/xrefloom/tree/CompactText" "length" "I" (.int len) := F_length_c169.other W172 (Or.inl ne_r0_b4)
  have F_narrow_c172 : Fld Z h172 r0 "com/example/xrefloom/xrefloom/tree/CompactText" "narrow" "[[B" (.ref na) := F_narrow_c169.other W172 (Or.inl ne_r0_b4)
  have F_wide_c172 : Fld Z h172 r0 "com/example/xrefloom/xrefloom/tree/CompactText" "wide" "[[C" (.ref wa) := F_wide_c169.other W172 (Or.inl ne_r0_b4)
  have V_na_c172 : Arv Z h172 na kn (.array .byte) (1 : Int32) [(.ref nb)] .null := V_na_c169.other W172 ne_na_b4
  have V_wa_c172 : Arv Z h172 wa kw (.array .char) (1 : Int32) [.null] .null := V_wa_c169.other W172 ne_wa_b4
  have V_nb_c172 : Arv Z h172 nb kb .byte (64 : Int32) (own_B x0 x1 x2) (.int (0 : Int32)) := V_nb_c169.other W172 ne_nb_b4
  have Ea4_c172 : Exa Z h172 b4 "[C" := Ea4_c169.wr W172
  have N172 := Fr.snoc X172 N169 gn_b4
  have Z172 : n0 ≤ h172.size := Nat.le_trans Z169 (Keep.of_wr W172).1
  refine own_go (G := T172.setTop (mkF m 39 #[.val (.ref r0), .val (.int (0 : Int32)), .val (.ref nb), .val (.ref b4), .val (.int (55 : Int32))] [])) (st172) ?_
  refine own_go (G := T172.setTop (mkF m 42 #[.val (.ref r0), .val (.int (0 : Int32)), .val (.ref nb), .val (.ref b4), .val (.int ((55 : Int32) + (1 : Int32)))] [])) (fun _ k => XS.iinc X172.here hx rfl (hb hby d7_39) rfl (l' := #[.val (.ref r0), .val (.int (0 : Int32)), .val (.ref nb), .val (.ref b4), .val (.int ((55 : Int32) + (1 : Int32)))]) rfl k) ?_
  rw [show ((55 : Int32) + (1 : Int32)) = (56 : Int32) from by decide]
  refine own_go (G := T172.setTop (mkF m 19 #[.val (.ref r0), .val (.int (0 : Int32)), .val (.ref nb), .val (.ref b4), .val (.int (56 : Int32))] [])) (fun _ k => XS.goto X172.here hx rfl (pc0 := 42) (pc' := 19) rfl (hb hby d7_42) (by decide) (by decide) k) ?_
  refine own_go (G := T172.setTop (mkF m 21 #[.val (.ref r0), .val (.int (0 : Int32)), .val (.ref nb), .val (.ref b4), .val (.int (56 : Int32))] [(.int (56 : Int32))])) (fun _ k => XS.iload X172.here hx rfl (hb hby d7_19) rfl k) ?_
  refine own_go (G := T172.setTop (mkF m 22 #[.val (.ref r0), .val (.int (0 : Int32)), .val (.ref nb), .val (.ref b4), .val (.int (56 : Int32))] [(.ref nb), (.int (56 : Int32))])) (fun _ k => XS.aloadN X172.here hx rfl (hb hby d7_21) rfl rfl k) ?_
  obtain ⟨cl173, Ar173, -, S173, N173_, -, -⟩ := id V_nb_c172
  refine own_go (G := T172.setTop (mkF m 23 #[.val (.ref r0), .val (.int (0 : Int32)), .val (.ref nb), .val (.ref b4), .val (.int (56 : Int32))] [(.int (64 : Int32)), (.int (56 : Int32))])) (fun t k => X172.arraylength hx (by rw [e172]; exact Ar173.1) (State.isArrayOf_alike hZ.alike Ar173.2.1) (g := (mkF m 22 #[.val (.ref r0), .val (.int (0 : Int32)), .val (.ref nb), .val (.ref b4), .val (.int (56 : Int32))] [(.ref nb), (.int (56 : Int32))])) rfl rfl (hb hby d7_22) t (by rw [len_of S173 N173_]; exact k)) ?_
  refine own_go (G := T172.setTop (mkF m 26 #[.val (.ref r0), .val (.int (0 : Int32)), .val (.ref nb), .val (.ref b4), .val (.int (56 : Int32))] [])) (fun _ k => XS.icmpNo X172.here hx rfl (hb hby d7_23) rfl (tlt (by decide : (56 : Int32) < (64 : Int32))).2.1 k) ?_
  refine own_go (G := T172.setTop (mkF m 27 #[.val (.ref r0), .val (.int (0 : Int32)), .val (.ref nb), .val (.ref b4), .val (.int (56 : Int32))] [(.ref b4)])) (fun _ k => XS.aloadN X172.here hx rfl (hb hby d7_26) rfl rfl k) ?_
  refine own_go (G := T172.setTop (mkF m 29 #[.val (.ref r0), .val (.int (0 : Int32)), .val (.ref nb), .val (.ref b4), .val (.int (56 : Int32))] [(.int (56 : Int32)), (.ref b4)])) (fun _ k => XS.iload X172.here hx rfl (hb hby d7_27) rfl k) ?_
  refine own_go (G := T172.setTop (mkF m 30 #[.val (.ref r0), .val (.int (0 : Int32)), .val (.ref nb), .val (.ref b4), .val (.int (56 : Int32))] [(.ref nb), (.int (56 : Int32)), (.ref b4)])) (fun _ k => XS.aloadN X172.here hx rfl (hb hby d7_29) rfl rfl k) ?_
  refine own_go (G := T172.setTop (mkF m 32 #[.val (.ref r0), .val (.int (0 : Int32)), .val (.ref nb), .val (.ref b4), .val (.int (56 : Int32))] [(.int (56 : Int32)), (.ref nb), (.int (56 : Int32)), (.ref b4)])) (fun _ k => XS.iload X172.here hx rfl (hb hby d7_30) rfl k) ?_
  obtain ⟨cl174, Ar174, qk174, S174, N174_, Ha174, G174⟩ := id V_nb_c172
  have hin174 : ¬ ((56 : Int32) < 0 ∨ cl174.slots.size ≤ ((56 : Int32)).toNatClampNeg) := inb_of S174 ⟨by decide, by decide⟩
  have hat174 : cl174.slots[((56 : Int32)).toNatClampNeg]? = some (.int (0 : Int32)) := Ha174.at hin174 rfl
  refine own_go (G := T172.setTop (mkF m 33 #[.val (.ref r0), .val (.int (0 : Int32)), .val (.ref nb), .val (.ref b4), .val (.int (56 : Int32))] [(.int (0 : Int32)), (.int (56 : Int32)), (.ref b4)])) (X172.baloadBytes hx (j := (56 : Int32)) (v := (.int (0 : Int32))) (by rw [e172]; exact Ar174.1) (State.isArrayOf_alike hZ.alike Ar174.2.1) Ar174.2.2 hin174 hat174 (g := (mkF m 32 #[.val (.ref r0), .val (.int (0 : Int32)), .val (.ref nb), .val (.ref b4), .val (.int (56 : Int32))] [(.int (56 : Int32)), (.ref nb), (.int (56 : Int32)), (.ref b4)])) rfl rfl (hb hby d7_32)) ?_
  refine own_go (G := T172.setTop (mkF m 36 #[.val (.ref r0), .val (.int (0 : Int32)), .val (.ref nb), .val (.ref b4), .val (.int (56 : Int32))] [(.int (255 : Int32)), (.int (0 : Int32)), (.int (56 : Int32)), (.ref b4)])) (fun _ k => XS.sipush X172.here hx rfl (hb hby d7_33) k) ?_
  refine own_go (G := T172.setTop (mkF m 37 #[.val (.ref r0), .val (.int (0 : Int32)), .val (.ref nb), .val (.ref b4), .val (.int (56 : Int32))] [(.int ((0 : Int32) &&& (255 : Int32))), (.int (56 : Int32)), (.ref b4)])) (fun _ k => XS.iand X172.here hx rfl (hb hby d7_36) rfl k) ?_
  rw [show ((0 : Int32) &&& (255 : Int32)) = (0 : Int32) from by decide]
  refine own_go (G := T172.setTop (mkF m 38 #[.val (.ref r0), .val (.int (0 : Int32)), .val (.ref nb), .val (.ref b4), .val (.int (56 : Int32))] [(.int ((0 : Int32).toUInt32.toUInt16.toUInt32.toInt32)), (.int (56 : Int32)), (.ref b4)])) (fun _ k => XS.i2c X172.here hx rfl (hb hby d7_37) rfl k) ?_
  rw [show ((0 : Int32).toUInt32.toUInt16.toUInt32.toInt32) = (0 : Int32) from by decide]
  obtain ⟨cl175, Ar175, qk175, S175, N175_, Ha175, G175⟩ := id V172_b4
  have hin175 : ¬ ((56 : Int32) < 0 ∨ cl175.slots.size ≤ ((56 : Int32)).toNatClampNeg) := inb_of S175 ⟨by decide, by decide⟩
  obtain ⟨T175, h175, X175, e175, W175, st175⟩ := stC X172 hx hZ e172 Ar175 (j := (56 : Int32)) hin175 (g := (mkF m 38 #[.val (.ref r0), .val (.int (0 : Int32)), .val (.ref nb), .val (.ref b4), .val (.int (56 : Int32))] [(.int (0 : Int32)), (.int (56 : Int32)), (.ref b4)])) rfl rfl (hb hby d7_38)
  have V175_b4 : Arv Z h175 b4 k4 .char (64 : Int32) (own_B (nar .char ((x0 &&& (255 : Int32)).toUInt32.toUInt16.toUInt32.toInt32)) (nar .char ((x1 &&& (255 : Int32)).toUInt32.toUInt16.toUInt32.toInt32)) (nar .char ((x2 &&& (255 : Int32)).toUInt32.toUInt16.toUInt32.toInt32))) (.int (0 : Int32)) := Arv.set Ar175 qk175 S175 N175_ Ha175 G175 (fits_nar_char _) W175 56 rfl (Nat.le_of_ble_eq_true rfl)
  have E_r0_c175 : Exa Z h175 r0 "com/example/xrefloom/xrefloom/tree/CompactText" := E_r0_c172.wr W175
  have F_length_c175 : Fld Z h175 r0 "com/example/xrefloom/xrefloom/tree/CompactText" "length" "I" (.int len) := F_length_c172.other W175 (Or.inl ne_r0_b4)
  have F_narrow_c175 : Fld Z h175 r0 "com/example/xrefloom/xrefloom/tree/CompactText" "narrow" "[[B" (.ref na) := F_narrow_c172.other W175 (Or.inl ne_r0_b4)
  have F_wide_c175 : Fld Z h175 r0 "com/example/xrefloom/xrefloom/tree/CompactText" "wide" "[[C" (.ref wa) := F_wide_c172.other W175 (Or.inl ne_r0_b4)
  have V_na_c175 : Arv Z h175 na kn (.array .byte) (1 : Int32) [(.ref nb)] .null := V_na_c172.other W175 ne_na_b4
  have V_wa_c175 : Arv Z h175 wa kw (.array .char) (1 : Int32) [.null] .null := V_wa_c172.other W175 ne_wa_b4
  have V_nb_c175 : Arv Z h175 nb kb .byte (64 : Int32) (own_B x0 x1 x2) (.int (0 : Int32)) := V_nb_c172.other W175 ne_nb_b4
  have Ea4_c175 : Exa Z h175 b4 "[C" := Ea4_c172.wr W175
  have N175 := Fr.snoc X175 N172 gn_b4
  have Z175 : n0 ≤ h175.size := Nat.le_trans Z172 (Keep.of_wr W175).1
  refine own_go (G := T175.setTop (mkF m 39 #[.val (.ref r0), .val (.int (0 : Int32)), .val (.ref nb), .val (.ref b4), .val (.int (56 : Int32))] [])) (st175) ?_
  refine own_go (G := T175.setTop (mkF m 42 #[.val (.ref r0), .val (.int (0 : Int32)), .val (.ref nb), .val (.ref b4), .val (.int ((56 : Int32) + (1 : Int32)))] [])) (fun _ k => XS.iinc X175.here hx rfl (hb hby d7_39) rfl (l' := #[.val (.ref r0), .val (.int (0 : Int32)), .val (.ref nb), .val (.ref b4), .val (.int ((56 : Int32) + (1 : Int32)))]) rfl k) ?_
  rw [show ((56 : Int32) + (1 : Int32)) = (57 : Int32) from by decide]
  refine own_go (G := T175.setTop (mkF m 19 #[.val (.ref r0), .val (.int (0 : Int32)), .val (.ref nb), .val (.ref b4), .val (.int (57 : Int32))] [])) (fun _ k => XS.goto X175.here hx rfl (pc0 := 42) (pc' := 19) rfl (hb hby d7_42) (by decide) (by decide) k) ?_
  refine own_go (G := T175.setTop (mkF m 21 #[.val (.ref r0), .val (.int (0 : Int32)), .val (.ref nb), .val (.ref b4), .val (.int (57 : Int32))] [(.int (57 : Int32))])) (fun _ k => XS.iload X175.here hx rfl (hb hby d7_19) rfl k) ?_
  refine own_go (G := T175.setTop (mkF m 22 #[.val (.ref r0), .val (.int (0 : Int32)), .val (.ref nb), .val (.ref b4), .val (.int (57 : Int32))] [(.ref nb), (.int (57 : Int32))])) (fun _ k => XS.aloadN X175.here hx rfl (hb hby d7_21) rfl rfl k) ?_
  obtain ⟨cl176, Ar176, -, S176, N176_, -, -⟩ := id V_nb_c175
  refine own_go (G := T175.setTop (mkF m 23 #[.val (.ref r0), .val (.int (0 : Int32)), .val (.ref nb), .val (.ref b4), .val (.int (57 : Int32))] [(.int (64 : Int32)), (.int (57 : Int32))])) (fun t k => X175.arraylength hx (by rw [e175]; exact Ar176.1) (State.isArrayOf_alike hZ.alike Ar176.2.1) (g := (mkF m 22 #[.val (.ref r0), .val (.int (0 : Int32)), .val (.ref nb), .val (.ref b4), .val (.int (57 : Int32))] [(.ref nb), (.int (57 : Int32))])) rfl rfl (hb hby d7_22) t (by rw [len_of S176 N176_]; exact k)) ?_
  refine own_go (G := T175.setTop (mkF m 26 #[.val (.ref r0), .val (.int (0 : Int32)), .val (.ref nb), .val (.ref b4), .val (.int (57 : Int32))] [])) (fun _ k => XS.icmpNo X175.here hx rfl (hb hby d7_23) rfl (tlt (by decide : (57 : Int32) < (64 : Int32))).2.1 k) ?_
  refine own_go (G := T175.setTop (mkF m 27 #[.val (.ref r0), .val (.int (0 : Int32)), .val (.ref nb), .val (.ref b4), .val (.int (57 : Int32))] [(.ref b4)])) (fun _ k => XS.aloadN X175.here hx rfl (hb hby d7_26) rfl rfl k) ?_
  refine own_go (G := T175.setTop (mkF m 29 #[.val (.ref r0), .val (.int (0 : Int32)), .val (.ref nb), .val (.ref b4), .val (.int (57 : Int32))] [(.int (57 : Int32)), (.ref b4)])) (fun _ k => XS.iload X175.here hx rfl (hb hby d7_27) rfl k) ?_
  refine own_go (G := T175.setTop (mkF m 30 #[.val (.ref r0), .val (.int (0 : Int32)), .val (.ref nb), .val (.ref b4), .val (.int (57 : Int32))] [(.ref nb), (.int (57 : Int32)), (.ref b4)])) (fun _ k => XS.aloadN X175.here hx rfl (hb hby d7_29) rfl rfl k) ?_
  refine own_go (G := T175.setTop (mkF m 32 #[.val (.ref r0), .val (.int (0 : Int32)), .val (.ref nb), .val (.ref b4), .val (.int (57 : Int32))] [(.int (57 : Int32)), (.ref nb), (.int (57 : Int32)), (.ref b4)])) (fun _ k => XS.iload X175.here hx rfl (hb hby d7_30) rfl k) ?_
  obtain ⟨cl177, Ar177, qk177, S177, N177_, Ha177, G177⟩ := id V_nb_c175
  have hin177 : ¬ ((57 : Int32) < 0 ∨ cl177.slots.size ≤ ((57 : Int32)).toNatClampNeg) := inb_of S177 ⟨by decide, by decide⟩
  have hat177 : cl177.slots[((57 : Int32)).toNatClampNeg]? = some (.int (0 : Int32)) := Ha177.at hin177 rfl
  refine own_go (G := T175.setTop (mkF m 33 #[.val (.ref r0), .val (.int (0 : Int32)), .val (.ref nb), .val (.ref b4), .val (.int (57 : Int32))] [(.int (0 : Int32)), (.int (57 : Int32)), (.ref b4)])) (X175.baloadBytes hx (j := (57 : Int32)) (v := (.int (0 : Int32))) (by rw [e175]; exact Ar177.1) (State.isArrayOf_alike hZ.alike Ar177.2.1) Ar177.2.2 hin177 hat177 (g := (mkF m 32 #[.val (.ref r0), .val (.int (0 : Int32)), .val (.ref nb), .val (.ref b4), .val (.int (57 : Int32))] [(.int (57 : Int32)), (.ref nb), (.int (57 : Int32)), (.ref b4)])) rfl rfl (hb hby d7_32)) ?_
  refine own_go (G := T175.setTop (mkF m 36 #[.val (.ref r0), .val (.int (0 : Int32)), .val (.ref nb), .val (.ref b4), .val (.int (57 : Int32))] [(.int (255 : Int32)), (.int (0 : Int32)), (.int (57 : Int32)), (.ref b4)])) (fun _ k => XS.sipush X175.here hx rfl (hb hby d7_33) k) ?_
  refine own_go (G := T175.setTop (mkF m 37 #[.val (.ref r0), .val (.int (0 : Int32)), .val (.ref nb), .val (.ref b4), .val (.int (57 : Int32))] [(.int ((0 : Int32) &&& (255 : Int32))), (.int (57 : Int32)), (.ref b4)])) (fun _ k => XS.iand X175.here hx rfl (hb hby d7_36) rfl k) ?_
  rw [show ((0 : Int32) &&& (255 : Int32)) = (0 : Int32) from by decide]
  refine own_go (G := T175.setTop (mkF m 38 #[.val (.ref r0), .val (.int (0 : Int32)), .val (.ref nb), .val (.ref b4), .val (.int (57 : Int32))] [(.int ((0 : Int32).toUInt32.toUInt16.toUInt32.toInt32)), (.int (57 : Int32)), (.ref b4)])) (fun _ k => XS.i2c X175.here hx rfl (hb hby d7_37) rfl k) ?_
  rw [show ((0 : Int32).toUInt32.toUInt16.toUInt32.toInt32) = (0 : Int32) from by decide]
  obtain ⟨cl178, Ar178, qk178, S178, N178_, Ha178, G178⟩ := id V175_b4
  have hin178 : ¬ ((57 : Int32) < 0 ∨ cl178.slots.size ≤ ((57 : Int32)).toNatClampNeg) := inb_of S178 ⟨by decide, by decide⟩
  obtain ⟨T178, h178, X178, e178, W178, st178⟩ := stC X175 hx hZ e175 Ar178 (j := (57 : Int32)) hin178 (g := (mkF m 38 #[.val (.ref r0), .val (.int (0 : Int32)), .val (.ref nb), .val (.ref b4), .val (.int (57 : Int32))] [(.int (0 : Int32)), (.int (57 : Int32)), (.ref b4)])) rfl rfl (hb hby d7_38)
  have V178_b4 : Arv Z h178 b4 k4 .char (64 : Int32) (own_B (nar .char ((x0 &&& (255 : Int32)).toUInt32.toUInt16.toUInt32.toInt32)) (nar .char ((x1 &&& (255 : Int32)).toUInt32.toUInt16.toUInt32.toInt32)) (nar .char ((x2 &&& (255 : Int32)).toUInt32.toUInt16.toUInt32.toInt32))) (.int (0 : Int32)) := Arv.set Ar178 qk178 S178 N178_ Ha178 G178 (fits_nar_char _) W178 57 rfl (Nat.le_of_ble_eq_true rfl)
  have E_r0_c178 : Exa Z h178 r0 "com/example/xrefloom/xrefloom/tree/CompactText" := E_r0_c175.wr W178
  have F_length_c178 : Fld Z h178 r0 "com/example/xrefloom/xrefloom/tree/CompactText" "length" "I" (.int len) := F_length_c175.other W178 (Or.inl ne_r0_b4)
  have F_narrow_c178 : Fld Z h178 r0 "com/example/xrefloom/xrefloom/tree/CompactText" "narrow" "[[B" (.ref na) := F_narrow_c175.other W178 (Or.inl ne_r0_b4)
  have F_wide_c178 : Fld Z h178 r0 "com/example/xrefloom/xrefloom/tree/CompactText" "wide" "[[C" (.ref wa) := F_wide_c175.other W178 (Or.inl ne_r0_b4)
  have V_na_c178 : Arv Z h178 na kn (.array .byte) (1 : Int32) [(.ref nb)] .null := V_na_c175.other W178 ne_na_b4
  have V_wa_c178 : Arv Z h178 wa kw (.array .char) (1 : Int32) [.null] .null := V_wa_c175.other W178 ne_wa_b4
  have V_nb_c178 : Arv Z h178 nb kb .byte (64 : Int32) (own_B x0 x1 x2) (.int (0 : Int32)) := V_nb_c175.other W178 ne_nb_b4
  have Ea4_c178 : Exa Z h178 b4 "[C" := Ea4_c175.wr W178
  have N178 := Fr.snoc X178 N175 gn_b4
  have Z178 : n0 ≤ h178.size := Nat.le_trans Z175 (Keep.of_wr W178).1
  refine own_go (G := T178.setTop (mkF m 39 #[.val (.ref r0), .val (.int (0 : Int32)), .val (.ref nb), .val (.ref b4), .val (.int (57 : Int32))] [])) (st178) ?_
  refine own_go (G := T178.setTop (mkF m 42 #[.val (.ref r0), .val (.int (0 : Int32)), .val (.ref nb), .val (.ref b4), .val (.int ((57 : Int32) + (1 : Int32)))] [])) (fun _ k => XS.iinc X178.here hx rfl (hb hby d7_39) rfl (l' := #[.val (.ref r0), .val (.int (0 : Int32)), .val (.ref nb), .val (.ref b4), .val (.int ((57 : Int32) + (1 : Int32)))]) rfl k) ?_
  rw [show ((57 : Int32) + (1 : Int32)) = (58 : Int32) from by decide]
  refine own_go (G := T178.setTop (mkF m 19 #[.val (.ref r0), .val (.int (0 : Int32)), .val (.ref nb), .val (.ref b4), .val (.int (58 : Int32))] [])) (fun _ k => XS.goto X178.here hx rfl (pc0 := 42) (pc' := 19) rfl (hb hby d7_42) (by decide) (by decide) k) ?_
  refine own_go (G := T178.setTop (mkF m 21 #[.val (.ref r0), .val (.int (0 : Int32)), .val (.ref nb), .val (.ref b4), .val (.int (58 : Int32))] [(.int (58 : Int32))])) (fun _ k => XS.iload X178.here hx rfl (hb hby d7_19) rfl k) ?_
  refine own_go (G := T178.setTop (mkF m 22 #[.val (.ref r0), .val (.int (0 : Int32)), .val (.ref nb), .val (.ref b4), .val (.int (58 : Int32))] [(.ref nb), (.int (58 : Int32))])) (fun _ k => XS.aloadN X178.here hx rfl (hb hby d7_21) rfl rfl k) ?_
  obtain ⟨cl179, Ar179, -, S179, N179_, -, -⟩ := id V_nb_c178
  refine own_go (G := T178.setTop (mkF m 23 #[.val (.ref r0), .val (.int (0 : Int32)), .val (.ref nb), .val (.ref b4), .val (.int (58 : Int32))] [(.int (64 : Int32)), (.int (58 : Int32))])) (fun t k => X178.arraylength hx (by rw [e178]; exact Ar179.1) (State.isArrayOf_alike hZ.alike Ar179.2.1) (g := (mkF m 22 #[.val (.ref r0), .val (.int (0 : Int32)), .val (.ref nb), .val (.ref b4), .val (.int (58 : Int32))] [(.ref nb), (.int (58 : Int32))])) rfl rfl (hb hby d7_22) t (by rw [len_of S179 N179_]; exact k)) ?_
  refine own_go (G := T178.setTop (mkF m 26 #[.val (.ref r0), .val (.int (0 : Int32)), .val (.ref nb), .val (.ref b4), .val (.int (58 : Int32))] [])) (fun _ k => XS.icmpNo X178.here hx rfl (hb hby d7_23) rfl (tlt (by decide : (58 : Int32) < (64 : Int32))).2.1 k) ?_
  refine own_go (G := T178.setTop (mkF m 27 #[.val (.ref r0), .val (.int (0 : Int32)), .val (.ref nb), .val (.ref b4), .val (.int (58 : Int32))] [(.ref b4)])) (fun _ k => XS.aloadN X178.here hx rfl (hb hby d7_26) rfl rfl k) ?_
  refine own_go (G := T178.setTop (mkF m 29 #[.val (.ref r0), .val (.int (0 : Int32)), .val (.ref nb), .val (.ref b4), .val (.int (58 : Int32))] [(.int (58 : Int32)), (.ref b4)])) (fun _ k => XS.iload X178.here hx rfl (hb hby d7_27) rfl k) ?_
  refine own_go (G := T178.setTop (mkF m 30 #[.val (.ref r0), .val (.int (0 : Int32)), .val (.ref nb), .val (.ref b4), .val (.int (58 : Int32))] [(.ref nb), (.int (58 : Int32)), (.ref b4)])) (fun _ k => XS.aloadN X178.here hx rfl (hb hby d7_29) rfl rfl k) ?_
  refine own_go (G := T178.setTop (mkF m 32 #[.val (.ref r0), .val (.int (0 : Int32)), .val (.ref nb), .val (.ref b4), .val (.int (58 : Int32))] [(.int (58 : Int32)), (.ref nb), (.int (58 : Int32)), (.ref b4)])) (fun _ k => XS.iload X178.here hx rfl (hb hby d7_30) rfl k) ?_
  obtain ⟨cl180, Ar180, qk180, S180, N180_, Ha180, G180⟩ := id V_nb_c178
  have hin180 : ¬ ((58 : Int32) < 0 ∨ cl180.slots.size ≤ ((58 : Int32)).toNatClampNeg) := inb_of S180 ⟨by decide, by decide⟩
  have hat180 : cl180.slots[((58 : Int32)).toNatClampNeg]? = some (.int (0 : Int32)) := Ha180.at hin180 rfl
  refine own_go (G := T178.setTop (mkF m 33 #[.val (.ref r0), .val (.int (0 : Int32)), .val (.ref nb), .val (.ref b4), .val (.int (58 : Int32))] [(.int (0 : Int32)), (.int (58 : Int32)), (.ref b4)])) (X178.baloadBytes hx (j := (58 : Int32)) (v := (.int (0 : Int32))) (by rw [e178]; exact Ar180.1) (State.isArrayOf_alike hZ.alike Ar180.2.1) Ar180.2.2 hin180 hat180 (g := (mkF m 32 #[.val (.ref r0), .val (.int (0 : Int32)), .val (.ref nb), .val (.ref b4), .val (.int (58 : Int32))] [(.int (58 : Int32)), (.ref nb), (.int (58 : Int32)), (.ref b4)])) rfl rfl (hb hby d7_32)) ?_
  refine own_go (G := T178.setTop (mkF m 36 #[.val (.ref r0), .val (.int (0 : Int32)), .val (.ref nb), .val (.ref b4), .val (.int (58 : Int32))] [(.int (255 : Int32)), (.int (0 : Int32)), (.int (58 : Int32)), (.ref b4)])) (fun _ k => XS.sipush X178.here hx rfl (hb hby d7_33) k) ?_
  refine own_go (G := T178.setTop (mkF m 37 #[.val (.ref r0), .val (.int (0 : Int32)), .val (.ref nb), .val (.ref b4), .val (.int (58 : Int32))] [(.int ((0 : Int32) &&& (255 : Int32))), (.int (58 : Int32)), (.ref b4)])) (fun _ k => XS.iand X178.here hx rfl (hb hby d7_36) rfl k) ?_
  rw [show ((0 : Int32) &&& (255 : Int32)) = (0 : Int32) from by decide]
  refine own_go (G := T178.setTop (mkF m 38 #[.val (.ref r0), .val (.int (0 : Int32)), .val (.ref nb), .val (.ref b4), .val (.int (58 : Int32))] [(.int ((0 : Int32).toUInt32.toUInt16.toUInt32.toInt32)), (.int (58 : Int32)), (.ref b4)])) (fun _ k => XS.i2c X178.here hx rfl (hb hby d7_37) rfl k) ?_
  rw [show ((0 : Int32).toUInt32.toUInt16.toUInt32.toInt32) = (0 : Int32) from by decide]
  obtain ⟨cl181, Ar181, qk181, S181, N181_, Ha181, G181⟩ := id V178_b4
  have hin181 : ¬ ((58 : Int32) < 0 ∨ cl181.slots.size ≤ ((58 : Int32)).toNatClampNeg) := inb_of S181 ⟨by decide, by decide⟩
  obtain ⟨T181, h181, X181, e181, W181, st181⟩ := stC X178 hx hZ e178 Ar181 (j := (58 : Int32)) hin181 (g := (mkF m 38 #[.val (.ref r0), .val (.int (0 : Int32)), .val (.ref nb), .val (.ref b4), .val (.int (58 : Int32))] [(.int (0 : Int32)), (.int (58 : Int32)), (.ref b4)])) rfl rfl (hb hby d7_38)
  have V181_b4 : Arv Z h181 b4 k4 .char (64 : Int32) (own_B (nar .char ((x0 &&& (255 : Int32)).toUInt32.toUInt16.toUInt32.toInt32)) (nar .char ((x1 &&& (255 : Int32)).toUInt32.toUInt16.toUInt32.toInt32)) (nar .char ((x2 &&& (255 : Int32)).toUInt32.toUInt16.toUInt32.toInt32))) (.int (0 : Int32)) := Arv.set Ar181 qk181 S181 N181_ Ha181 G181 (fits_nar_char _) W181 58 rfl (Nat.le_of_ble_eq_true rfl)
  have E_r0_c181 : Exa Z h181 r0 "com/example/xrefloom/xrefloom/tree/CompactText" := E_r0_c178.wr W181
  have F_length_c181 : Fld Z h181 r0 "com/example/xrefloom/xrefloom/tree/CompactText" "length" "I" (.int len) := F_length_c178.other W181 (Or.inl ne_r0_b4)
  have F_narrow_c181 : Fld Z h181 r0 "com/example/xrefloom/xrefloom/tree/CompactText" "narrow" "[[B" (.ref na) := F_narrow_c178.other W181 (Or.inl ne_r0_b4)
  have F_wide_c181 : Fld Z h181 r0 "com/example/xrefloom/xrefloom/tree/CompactText" "wide" "[[C" (.ref wa) := F_wide_c178.other W181 (Or.inl ne_r0_b4)
  have V_na_c181 : Arv Z h181 na kn (.array .byte) (1 : Int32) [(.ref nb)] .null := V_na_c178.other W181 ne_na_b4
  have V_wa_c181 : Arv Z h181 wa kw (.array .char) (1 : Int32) [.null] .null := V_wa_c178.other W181 ne_wa_b4
  have V_nb_c181 : Arv Z h181 nb kb .byte (64 : Int32) (own_B x0 x1 x2) (.int (0 : Int32)) := V_nb_c178.other W181 ne_nb_b4
  have Ea4_c181 : Exa Z h181 b4 "[C" := Ea4_c178.wr W181
  have N181 := Fr.snoc X181 N178 gn_b4
  have Z181 : n0 ≤ h181.size := Nat.le_trans Z178 (Keep.of_wr W181).1
  refine own_go (G := T181.setTop (mkF m 39 #[.val (.ref r0), .val (.int (0 : Int32)), .val (.ref nb), .val (.ref b4), .val (.int (58 : Int32))] [])) (st181) ?_
  refine own_go (G := T181.setTop (mkF m 42 #[.val (.ref r0), .val (.int (0 : Int32)), .val (.ref nb), .val (.ref b4), .val (.int ((58 : Int32) + (1 : Int32)))] [])) (fun _ k => XS.iinc X181.here hx rfl (hb hby d7_39) rfl (l' := #[.val (.ref r0), .val (.int (0 : Int32)), .val (.ref nb), .val (.ref b4), .val (.int ((58 : Int32) + (1 : Int32)))]) rfl k) ?_
  rw [show ((58 : Int32) + (1 : Int32)) = (59 : Int32) from by decide]
  refine own_go (G := T181.setTop (mkF m 19 #[.val (.ref r0), .val (.int (0 : Int32)), .val (.ref nb), .val (.ref b4), .val (.int (59 : Int32))] [])) (fun _ k => XS.goto X181.here hx rfl (pc0 := 42) (pc' := 19) rfl (hb hby d7_42) (by decide) (by decide) k) ?_
  refine own_go (G := T181.setTop (mkF m 21 #[.val (.ref r0), .val (.int (0 : Int32)), .val (.ref nb), .val (.ref b4), .val (.int (59 : Int32))] [(.int (59 : Int32))])) (fun _ k => XS.iload X181.here hx rfl (hb hby d7_19) rfl k) ?_
  refine own_go (G := T181.setTop (mkF m 22 #[.val (.ref r0), .val (.int (0 : Int32)), .val (.ref nb), .val (.ref b4), .val (.int (59 : Int32))] [(.ref nb), (.int (59 : Int32))])) (fun _ k => XS.aloadN X181.here hx rfl (hb hby d7_21) rfl rfl k) ?_
  obtain ⟨cl182, Ar182, -, S182, N182_, -, -⟩ := id V_nb_c181
  refine own_go (G := T181.setTop (mkF m 23 #[.val (.ref r0), .val (.int (0 : Int32)), .val (.ref nb), .val (.ref b4), .val (.int (59 : Int32))] [(.int (64 : Int32)), (.int (59 : Int32))])) (fun t k => X181.arraylength hx (by rw [e181]; exact Ar182.1) (State.isArrayOf_alike hZ.alike Ar182.2.1) (g := (mkF m 22 #[.val (.ref r0), .val (.int (0 : Int32)), .val (.ref nb), .val (.ref b4), .val (.int (59 : Int32))] [(.ref nb), (.int (59 : Int32))])) rfl rfl (hb hby d7_22) t (by rw [len_of S182 N182_]; exact k)) ?_
  refine own_go (G := T181.setTop (mkF m 26 #[.val (.ref r0), .val (.int (0 : Int32)), .val (.ref nb), .val (.ref b4), .val (.int (59 : Int32))] [])) (fun _ k => XS.icmpNo X181.here hx rfl (hb hby d7_23) rfl (tlt (by decide : (59 : Int32) < (64 : Int32))).2.1 k) ?_
  refine own_go (G := T181.setTop (mkF m 27 #[.val (.ref r0), .val (.int (0 : Int32)), .val (.ref nb), .val (.ref b4), .val (.int (59 : Int32))] [(.ref b4)])) (fun _ k => XS.aloadN X181.here hx rfl (hb hby d7_26) rfl rfl k) ?_
  refine own_go (G := T181.setTop (mkF m 29 #[.val (.ref r0), .val (.int (0 : Int32)), .val (.ref nb), .val (.ref b4), .val (.int (59 : Int32))] [(.int (59 : Int32)), (.ref b4)])) (fun _ k => XS.iload X181.here hx rfl (hb hby d7_27) rfl k) ?_
  refine own_go (G := T181.setTop (mkF m 30 #[.val (.ref r0), .val (.int (0 : Int32)), .val (.ref nb), .val (.ref b4), .val (.int (59 : Int32))] [(.ref nb), (.int (59 : Int32)), (.ref b4)])) (fun _ k => XS.aloadN X181.here hx rfl (hb hby d7_29) rfl rfl k) ?_
  refine own_go (G := T181.setTop (mkF m 32 #[.val (.ref r0), .val (.int (0 : Int32)), .val (.ref nb), .val (.ref b4), .val (.int (59 : Int32))] [(.int (59 : Int32)), (.ref nb), (.int (59 : Int32)), (.ref b4)])) (fun _ k => XS.iload X181.here hx rfl (hb hby d7_30) rfl k) ?_
  obtain ⟨cl183, Ar183, qk183, S183, N183_, Ha183, G183⟩ := id V_nb_c181
  have hin183 : ¬ ((59 : Int32) < 0 ∨ cl183.slots.size ≤ ((59 : Int32)).toNatClampNeg) := inb_of S183 ⟨by decide, by decide⟩
  have hat183 : cl183.slots[((59 : Int32)).toNatClampNeg]? = some (.int (0 : Int32)) := Ha183.at hin183 rfl
  refine own_go (G := T181.setTop (mkF m 33 #[.val (.ref r0), .val (.int (0 : Int32)), .val (.ref nb), .val (.ref b4), .val (.int (59 : Int32))] [(.int (0 : Int32)), (.int (59 : Int32)), (.ref b4)])) (X181.baloadBytes hx (j := (59 : Int32)) (v := (.int (0 : Int32))) (by rw [e181]; exact Ar183.1) (State.isArrayOf_alike hZ.alike Ar183.2.1) Ar183.2.2 hin183 hat183 (g := (mkF m 32 #[.val (.ref r0), .val (.int (0 : Int32)), .val (.ref nb), .val (.ref b4), .val (.int (59 : Int32))] [(.int (59 : Int32)), (.ref nb), (.int (59 : Int32)), (.ref b4)])) rfl rfl (hb hby d7_32)) ?_
  refine own_go (G := T181.setTop (mkF m 36 #[.val (.ref r0), .val (.int (0 : Int32)), .val (.ref nb), .val (.ref b4), .val (.int (59 : Int32))] [(.int (255 : Int32)), (.int (0 : Int32)), (.int (59 : Int32)), (.ref b4)])) (fun _ k => XS.sipush X181.here hx rfl (hb hby d7_33) k) ?_
  refine own_go (G := T181.setTop (mkF m 37 #[.val (.ref r0), .val (.int (0 : Int32)), .val (.ref nb), .val (.ref b4), .val (.int (59 : Int32))] [(.int ((0 : Int32) &&& (255 : Int32))), (.int (59 : Int32)), (.ref b4)])) (fun _ k => XS.iand X181.here hx rfl (hb hby d7_36) rfl k) ?_
  rw [show ((0 : Int32) &&& (255 : Int32)) = (0 : Int32) from by decide]
  refine own_go (G := T181.setTop (mkF m 38 #[.val (.ref r0), .val (.int (0 : Int32)), .val (.ref nb), .val (.ref b4), .val (.int (59 : Int32))] [(.int ((0 : Int32).toUInt32.toUInt16.toUInt32.toInt32)), (.int (59 : Int32)), (.ref b4)])) (fun _ k => XS.i2c X181.here hx rfl (hb hby d7_37) rfl k) ?_
  rw [show ((0 : Int32).toUInt32.toUInt16.toUInt32.toInt32) = (0 : Int32) from by decide]
  obtain ⟨cl184, Ar184, qk184, S184, N184_, Ha184, G184⟩ := id V181_b4
  have hin184 : ¬ ((59 : Int32) < 0 ∨ cl184.slots.size ≤ ((59 : Int32)).toNatClampNeg) := inb_of S184 ⟨by decide, by decide⟩
  obtain ⟨T184, h184, X184, e184, W184, st184⟩ := stC X181 hx hZ e181 Ar184 (j := (59 : Int32)) hin184 (g := (mkF m 38 #[.val (.ref r0), .val (.int (0 : Int32)), .val (.ref nb), .val (.ref b4), .val (.int (59 : Int32))] [(.int (0 : Int32)), (.int (59 : Int32)), (.ref b4)])) rfl rfl (hb hby d7_38)
  have V184_b4 : Arv Z h184 b4 k4 .char (64 : Int32) (own_B (nar .char ((x0 &&& (255 : Int32)).toUInt32.toUInt16.toUInt32.toInt32)) (nar .char ((x1 &&& (255 : Int32)).toUInt32.toUInt16.toUInt32.toInt32)) (nar .char ((x2 &&& (255 : Int32)).toUInt32.toUInt16.toUInt32.toInt32))) (.int (0 : Int32)) := Arv.set Ar184 qk184 S184 N184_ Ha184 G184 (fits_nar_char _) W184 59 rfl (Nat.le_of_ble_eq_true rfl)
  have E_r0_c184 : Exa Z h184 r0 "com/example/xrefloom/xrefloom/tree/CompactText" := E_r0_c181.wr W184
  have F_length_c184 : Fld Z h184 r0 "com/example/xrefloom/xrefloom/tree/CompactText" "length" "I" (.int len) := F_length_c181.other W184 (Or.inl ne_r0_b4)
  have F_narrow_c184 : Fld Z h184 r0 "com/example/xrefloom/xrefloom/tree/CompactText" "narrow" "[[B" (.ref na) := F_narrow_c181.other W184 (Or.inl ne_r0_b4)
  have F_wide_c184 : Fld Z h184 r0 "com/example/xrefloom/xrefloom/tree/CompactText" "wide" "[[C" (.ref wa) := F_wide_c181.other W184 (Or.inl ne_r0_b4)
  have V_na_c184 : Arv Z h184 na kn (.array .byte) (1 : Int32) [(.ref nb)] .null := V_na_c181.other W184 ne_na_b4
  have V_wa_c184 : Arv Z h184 wa kw (.array .char) (1 : Int32) [.null] .null := V_wa_c181.other W184 ne_wa_b4
  have V_nb_c184 : Arv Z h184 nb kb .byte (64 : Int32) (own_B x0 x1 x2) (.int (0 : Int32)) := V_nb_c181.other W184 ne_nb_b4
  have Ea4_c184 : Exa Z h184 b4 "[C" := Ea4_c181.wr W184
  have N184 := Fr.snoc X184 N181 gn_b4
  have Z184 : n0 ≤ h184.size := Nat.le_trans Z181 (Keep.of_wr W184).1
  refine own_go (G := T184.setTop (mkF m 39 #[.val (.ref r0), .val (.int (0 : Int32)), .val (.ref nb), .val (.ref b4), .val (.int (59 : Int32))] [])) (st184) ?_
  refine own_go (G := T184.setTop (mkF m 42 #[.val (.ref r0), .val (.int (0 : Int32)), .val (.ref nb), .val (.ref b4), .val (.int ((59 : Int32) + (1 : Int32)))] [])) (fun _ k => XS.iinc X184.here hx rfl (hb hby d7_39) rfl (l' := #[.val (.ref r0), .val (.int (0 : Int32)), .val (.ref nb), .val (.ref b4), .val (.int ((59 : Int32) + (1 : Int32)))]) rfl k) ?_
  rw [show ((59 : Int32) + (1 : Int32)) = (60 : Int32) from by decide]
  refine own_go (G := T184.setTop (mkF m 19 #[.val (.ref r0), .val (.int (0 : Int32)), .val (.ref nb), .val (.ref b4), .val (.int (60 : Int32))] [])) (fun _ k => XS.goto X184.here hx rfl (pc0 := 42) (pc' := 19) rfl (hb hby d7_42) (by decide) (by decide) k) ?_
  refine own_go (G := T184.setTop (mkF m 21 #[.val (.ref r0), .val (.int (0 : Int32)), .val (.ref nb), .val (.ref b4), .val (.int (60 : Int32))] [(.int (60 : Int32))])) (fun _ k => XS.iload X184.here hx rfl (hb hby d7_19) rfl k) ?_
  refine own_go (G := T184.setTop (mkF m 22 #[.val (.ref r0), .val (.int (0 : Int32)), .val (.ref nb), .val (.ref b4), .val (.int (60 : Int32))] [(.ref nb), (.int (60 : Int32))])) (fun _ k => XS.aloadN X184.here hx rfl (hb hby d7_21) rfl rfl k) ?_
  obtain ⟨cl185, Ar185, -, S185, N185_, -, -⟩ := id V_nb_c184
  refine own_go (G := T184.setTop (mkF m 23 #[.val (.ref r0), .val (.int (0 : Int32)), .val (.ref nb), .val (.ref b4), .val (.int (60 : Int32))] [(.int (64 : Int32)), (.int (60 : Int32))])) (fun t k => X184.arraylength hx (by rw [e184]; exact Ar185.1) (State.isArrayOf_alike hZ.alike Ar185.2.1) (g := (mkF m 22 #[.val (.ref r0), .val (.int (0 : Int32)), .val (.ref nb), .val (.ref b4), .val (.int (60 : Int32))] [(.ref nb), (.int (60 : Int32))])) rfl rfl (hb hby d7_22) t (by rw [len_of S185 N185_]; exact k)) ?_
  refine own_go (G := T184.setTop (mkF m 26 #[.val (.ref r0), .val (.int (0 : Int32)), .val (.ref nb), .val (.ref b4), .val (.int (60 : Int32))] [])) (fun _ k => XS.icmpNo X184.here hx rfl (hb hby d7_23) rfl (tlt (by decide : (60 : Int32) < (64 : Int32))).2.1 k) ?_
  refine own_go (G := T184.setTop (mkF m 27 #[.val (.ref r0), .val (.int (0 : Int32)), .val (.ref nb), .val (.ref b4), .val (.int (60 : Int32))] [(.ref b4)])) (fun _ k => XS.aloadN X184.here hx rfl (hb hby d7_26) rfl rfl k) ?_
  refine own_go (G := T184.setTop (mkF m 29 #[.val (.ref r0), .val (.int (0 : Int32)), .val (.ref nb), .val (.ref b4), .val (.int (60 : Int32))] [(.int (60 : Int32)), (.ref b4)])) (fun _ k => XS.iload X184.here hx rfl (hb hby d7_27) rfl k) ?_
  refine own_go (G := T184.setTop (mkF m 30 #[.val (.ref r0), .val (.int (0 : Int32)), .val (.ref nb), .val (.ref b4), .val (.int (60 : Int32))] [(.ref nb), (.int (60 : Int32)), (.ref b4)])) (fun _ k => XS.aloadN X184.here hx rfl (hb hby d7_29) rfl rfl k) ?_
  refine own_go (G := T184.setTop (mkF m 32 #[.val (.ref r0), .val (.int (0 : Int32)), .val (.ref nb), .val (.ref b4), .val (.int (60 : Int32))] [(.int (60 : Int32)), (.ref nb), (.int (60 : Int32)), (.ref b4)])) (fun _ k => XS.iload X184.here hx rfl (hb hby d7_30) rfl k) ?_
  obtain ⟨cl186, Ar186, qk186, S186, N186_, Ha186, G186⟩ := id V_nb_c184
  have hin186 : ¬ ((60 : Int32) < 0 ∨ cl186.slots.size ≤ ((60 : Int32)).toNatClampNeg) := inb_of S186 ⟨by decide, by decide⟩
  have hat186 : cl186.slots[((60 : Int32)).toNatClampNeg]? = some (.int (0 : Int32)) := Ha186.at hin186 rfl
  refine own_go (G := T184.setTop (mkF m 33 #[.val (.ref r0), .val (.int (0 : Int32)), .val (.ref nb), .val (.ref b4), .val (.int (60 : Int32))] [(.int (0 : Int32)), (.int (60 : Int32)), (.ref b4)])) (X184.baloadBytes hx (j := (60 : Int32)) (v := (.int (0 : Int32))) (by rw [e184]; exact Ar186.1) (State.isArrayOf_alike hZ.alike Ar186.2.1) Ar186.2.2 hin186 hat186 (g := (mkF m 32 #[.val (.ref r0), .val (.int (0 : Int32)), .val (.ref nb), .val (.ref b4), .val (.int (60 : Int32))] [(.int (60 : Int32)), (.ref nb), (.int (60 : Int32)), (.ref b4)])) rfl rfl (hb hby d7_32)) ?_
  refine own_go (G := T184.setTop (mkF m 36 #[.val (.ref r0), .val (.int (0 : Int32)), .val (.ref nb), .val (.ref b4), .val (.int (60 : Int32))] [(.int (255 : Int32)), (.int (0 : Int32)), (.int (60 : Int32)), (.ref b4)])) (fun _ k => XS.sipush X184.here hx rfl (hb hby d7_33) k) ?_
  refine own_go (G := T184.setTop (mkF m 37 #[.val (.ref r0), .val (.int (0 : Int32)), .val (.ref nb), .val (.ref b4), .val (.int (60 : Int32))] [(.int ((0 : Int32) &&& (255 : Int32))), (.int (60 : Int32)), (.ref b4)])) (fun _ k => XS.iand X184.here hx rfl (hb hby d7_36) rfl k) ?_
  rw [show ((0 : Int32) &&& (255 : Int32)) = (0 : Int32) from by decide]
  refine own_go (G := T184.setTop (mkF m 38 #[.val (.ref r0), .val (.int (0 : Int32)), .val (.ref nb), .val (.ref b4), .val (.int (60 : Int32))] [(.int ((0 : Int32).toUInt32.toUInt16.toUInt32.toInt32)), (.int (60 : Int32)), (.ref b4)])) (fun _ k => XS.i2c X184.here hx rfl (hb hby d7_37) rfl k) ?_
  rw [show ((0 : Int32).toUInt32.toUInt16.toUInt32.toInt32) = (0 : Int32) from by decide]
  obtain ⟨cl187, Ar187, qk187, S187, N187_, Ha187, G187⟩ := id V184_b4
  have hin187 : ¬ ((60 : Int32) < 0 ∨ cl187.slots.size ≤ ((60 : Int32)).toNatClampNeg) := inb_of S187 ⟨by decide, by decide⟩
  obtain ⟨T187, h187, X187, e187, W187, st187⟩ := stC X184 hx hZ e184 Ar187 (j := (60 : Int32)) hin187 (g := (mkF m 38 #[.val (.ref r0), .val (.int (0 : Int32)), .val (.ref nb), .val (.ref b4), .val (.int (60 : Int32))] [(.int (0 : Int32)), (.int (60 : Int32)), (.ref b4)])) rfl rfl (hb hby d7_38)
  have V187_b4 : Arv Z h187 b4 k4 .char (64 : Int32) (own_B (nar .char ((x0 &&& (255 : Int32)).toUInt32.toUInt16.toUInt32.toInt32)) (nar .char ((x1 &&& (255 : Int32)).toUInt32.toUInt16.toUInt32.toInt32)) (nar .char ((x2 &&& (255 : Int32)).toUInt32.toUInt16.toUInt32.toInt32))) (.int (0 : Int32)) := Arv.set Ar187 qk187 S187 N187_ Ha187 G187 (fits_nar_char _) W187 60 rfl (Nat.le_of_ble_eq_true rfl)
  have E_r0_c187 : Exa Z h187 r0 "com/example/xrefloom/xrefloom/tree/CompactText" := E_r0_c184.wr W187
  have F_length_c187 : Fld Z h187 r0 "com/example/xrefloom/xrefloom/tree/CompactText" "length" "I" (.int len) := F_length_c184.other W187 (Or.inl ne_r0_b4)
  have F_narrow_c187 : Fld Z h187 r0 "com/example/xrefloom/xrefloom/tree/CompactText" "narrow" "[[B" (.ref na) := F_narrow_c184.other W187 (Or.inl ne_r0_b4)
  have F_wide_c187 : Fld Z h187 r0 "com/example/xrefloom/xrefloom/tree/CompactText" "wide" "[[C" (.ref wa) := F_wide_c184.other W187 (Or.inl ne_r0_b4)
  have V_na_c187 : Arv Z h187 na kn (.array .byte) (1 : Int32) [(.ref nb)] .null := V_na_c184.other W187 ne_na_b4
  have V_wa_c187 : Arv Z h187 wa kw (.array .char) (1 : Int32) [.null] .null := V_wa_c184.other W187 ne_wa_b4
  have V_nb_c187 : Arv Z h187 nb kb .byte (64 : Int32) (own_B x0 x1 x2) (.int (0 : Int32)) := V_nb_c184.other W187 ne_nb_b4
  have Ea4_c187 : Exa Z h187 b4 "[C" := Ea4_c184.wr W187
  have N187 := Fr.snoc X187 N184 gn_b4
  have Z187 : n0 ≤ h187.size := Nat.le_trans Z184 (Keep.of_wr W187).1
  refine own_go (G := T187.setTop (mkF m 39 #[.val (.ref r0), .val (.int (0 : Int32)), .val (.ref nb), .val (.ref b4), .val (.int (60 : Int32))] [])) (st187) ?_
  refine own_go (G := T187.setTop (mkF m 42 #[.val (.ref r0), .val (.int (0 : Int32)), .val (.ref nb), .val (.ref b4), .val (.int ((60 : Int32) + (1 : Int32)))] [])) (fun _ k => XS.iinc X187.here hx rfl (hb hby d7_39) rfl (l' := #[.val (.ref r0), .val (.int (0 : Int32)), .val (.ref nb), .val (.ref b4), .val (.int ((60 : Int32) + (1 : Int32)))]) rfl k) ?_
  rw [show ((60 : Int32) + (1 : Int32)) = (61 : Int32) from by decide]
  refine own_go (G := T187.setTop (mkF m 19 #[.val (.ref r0), .val (.int (0 : Int32)), .val (.ref nb), .val (.ref b4), .val (.int (61 : Int32))] [])) (fun _ k => XS.goto X187.here hx rfl (pc0 := 42) (pc' := 19) rfl (hb hby d7_42) (by decide) (by decide) k) ?_
  refine own_go (G := T187.setTop (mkF m 21 #[.val (.ref r0), .val (.int (0 : Int32)), .val (.ref nb), .val (.ref b4), .val (.int (61 : Int32))] [(.int (61 : Int32))])) (fun _ k => XS.iload X187.here hx rfl (hb hby d7_19) rfl k) ?_
  refine own_go (G := T187.setTop (mkF m 22 #[.val (.ref r0), .val (.int (0 : Int32)), .val (.ref nb), .val (.ref b4), .val (.int (61 : Int32))] [(.ref nb), (.int (61 : Int32))])) (fun _ k => XS.aloadN X187.here hx rfl (hb hby d7_21) rfl rfl k) ?_
  obtain ⟨cl188, Ar188, -, S188, N188_, -, -⟩ := id V_nb_c187
  refine own_go (G := T187.setTop (mkF m 23 #[.val (.ref r0), .val (.int (0 : Int32)), .val (.ref nb), .val (.ref b4), .val (.int (61 : Int32))] [(.int (64 : Int32)), (.int (61 : Int32))])) (fun t k => X187.arraylength hx (by rw [e187]; exact Ar188.1) (State.isArrayOf_alike hZ.alike Ar188.2.1) (g := (mkF m 22 #[.val (.ref r0), .val (.int (0 : Int32)), .val (.ref nb), .val (.ref b4), .val (.int (61 : Int32))] [(.ref nb), (.int (61 : Int32))])) rfl rfl (hb hby d7_22) t (by rw [len_of S188 N188_]; exact k)) ?_
  refine own_go (G := T187.setTop (mkF m 26 #[.val (.ref r0), .val (.int (0 : Int32)), .val (.ref nb), .val (.ref b4), .val (.int (61 : Int32))] [])) (fun _ k => XS.icmpNo X187.here hx rfl (hb hby d7_23) rfl (tlt (by decide : (61 : Int32) < (64 : Int32))).2.1 k) ?_
  refine own_go (G := T187.setTop (mkF m 27 #[.val (.ref r0), .val (.int (0 : Int32)), .val (.ref nb), .val (.ref b4), .val (.int (61 : Int32))] [(.ref b4)])) (fun _ k => XS.aloadN X187.here hx rfl (hb hby d7_26) rfl rfl k) ?_
  refine own_go (G := T187.setTop (mkF m 29 #[.val (.ref r0), .val (.int (0 : Int32)), .val (.ref nb), .val (.ref b4), .val (.int (61 : Int32))] [(.int (61 : Int32)), (.ref b4)])) (fun _ k => XS.iload X187.here hx rfl (hb hby d7_27) rfl k) ?_
  refine own_go (G := T187.setTop (mkF m 30 #[.val (.ref r0), .val (.int (0 : Int32)), .val (.ref nb), .val (.ref b4), .val (.int (61 : Int32))] [(.ref nb), (.int (61 : Int32)), (.ref b4)])) (fun _ k => XS.aloadN X187.here hx rfl (hb hby d7_29) rfl rfl k) ?_
  refine own_go (G := T187.setTop (mkF m 32 #[.val (.ref r0), .val (.int (0 : Int32)), .val (.ref nb), .val (.ref b4), .val (.int (61 : Int32))] [(.int (61 : Int32)), (.ref nb), (.int (61 : Int32)), (.ref b4)])) (fun _ k => XS.iload X187.here hx rfl (hb hby d7_30) rfl k) ?_
  obtain ⟨cl189, Ar189, qk189, S189, N189_, Ha189, G189⟩ := id V_nb_c187
  have hin189 : ¬ ((61 : Int32) < 0 ∨ cl189.slots.size ≤ ((61 : Int32)).toNatClampNeg) := inb_of S189 ⟨by decide, by decide⟩
  have hat189 : cl189.slots[((61 : Int32)).toNatClampNeg]? = some (.int (0 : Int32)) := Ha189.at hin189 rfl
  refine own_go (G := T187.setTop (mkF m 33 #[.val (.ref r0), .val (.int (0 : Int32)), .val (.ref nb), .val (.ref b4), .val (.int (61 : Int32))] [(.int (0 : Int32)), (.int (61 : Int32)), (.ref b4)])) (X187.baloadBytes hx (j := (61 : Int32)) (v := (.int (0 : Int32))) (by rw [e187]; exact Ar189.1) (State.isArrayOf_alike hZ.alike Ar189.2.1) Ar189.2.2 hin189 hat189 (g := (mkF m 32 #[.val (.ref r0), .val (.int (0 : Int32)), .val (.ref nb), .val (.ref b4), .val (.int (61 : Int32))] [(.int (61 : Int32)), (.ref nb), (.int (61 : Int32)), (.ref b4)])) rfl rfl (hb hby d7_32)) ?_
  refine own_go (G := T187.setTop (mkF m 36 #[.val (.ref r0), .val (.int (0 : Int32)), .val (.ref nb), .val (.ref b4), .val (.int (61 : Int32))] [(.int (255 : Int32)), (.int (0 : Int32)), (.int (61 : Int32)), (.ref b4)])) (fun _ k => XS.sipush X187.here hx rfl (hb hby d7_33) k) ?_
  refine own_go (G := T187.setTop (mkF m 37 #[.val (.ref r0), .val (.int (0 : Int32)), .val (.ref nb), .val (.ref b4), .val (.int (61 : Int32))] [(.int ((0 : Int32) &&& (255 : Int32))), (.int (61 : Int32)), (.ref b4)])) (fun _ k => XS.iand X187.here hx rfl (hb hby d7_36) rfl k) ?_
  rw [show ((0 : Int32) &&& (255 : Int32)) = (0 : Int32) from by decide]
  refine own_go (G := T187.setTop (mkF m 38 #[.val (.ref r0), .val (.int (0 : Int32)), .val (.ref nb), .val (.ref b4), .val (.int (61 : Int32))] [(.int ((0 : Int32).toUInt32.toUInt16.toUInt32.toInt32)), (.int (61 : Int32)), (.ref b4)])) (fun _ k => XS.i2c X187.here hx rfl (hb hby d7_37) rfl k) ?_
  rw [show ((0 : Int32).toUInt32.toUInt16.toUInt32.toInt32) = (0 : Int32) from by decide]
  obtain ⟨cl190, Ar190, qk190, S190, N190_, Ha190, G190⟩ := id V187_b4
  have hin190 : ¬ ((61 : Int32) < 0 ∨ cl190.slots.size ≤ ((61 : Int32)).toNatClampNeg) := inb_of S190 ⟨by decide, by decide⟩
  obtain ⟨T190, h190, X190, e190, W190, st190⟩ := stC X187 hx hZ e187 Ar190 (j := (61 : Int32)) hin190 (g := (mkF m 38 #[.val (.ref r0), .val (.int (0 : Int32)), .val (.ref nb), .val (.ref b4), .val (.int (61 : Int32))] [(.int (0 : Int32)), (.int (61 : Int32)), (.ref b4)])) rfl rfl (hb hby d7_38)
  have V190_b4 : Arv Z h190 b4 k4 .char (64 : Int32) (own_B (nar .char ((x0 &&& (255 : Int32)).toUInt32.toUInt16.toUInt32.toInt32)) (nar .char ((x1 &&& (255 : Int32)).toUInt32.toUInt16.toUInt32.toInt32)) (nar .char ((x2 &&& (255 : Int32)).toUInt32.toUInt16.toUInt32.toInt32))) (.int (0 : Int32)) := Arv.set Ar190 qk190 S190 N190_ Ha190 G190 (fits_nar_char _) W190 61 rfl (Nat.le_of_ble_eq_true rfl)
  have E_r0_c190 : Exa Z h190 r0 "com/example/xrefloom/xrefloom/tree/CompactText" := E_r0_c187.wr W190
  have F_length_c190 : Fld Z h190 r0 "com/example/xrefloom/xrefloom/tree/CompactText" "length" "I" (.int len) := F_length_c187.other W190 (Or.inl ne_r0_b4)
  have F_narrow_c190 : Fld Z h190 r0 "com/example/xrefloom/xrefloom/tree/CompactText" "narrow" "[[B" (.ref na) := F_narrow_c187.other W190 (Or.inl ne_r0_b4)
  have F_wide_c190 : Fld Z h190 r0 "com/example/xrefloom/xrefloom/tree/CompactText" "wide" "[[C" (.ref wa) := F_wide_c187.other W190 (Or.inl ne_r0_b4)
  have V_na_c190 : Arv Z h190 na kn (.array .byte) (1 : Int32) [(.ref nb)] .null := V_na_c187.other W190 ne_na_b4
  have V_wa_c190 : Arv Z h190 wa kw (.array .char) (1 : Int32) [.null] .null := V_wa_c187.other W190 ne_wa_b4
  have V_nb_c190 : Arv Z h190 nb kb .byte (64 : Int32) (own_B x0 x1 x2) (.int (0 : Int32)) := V_nb_c187.other W190 ne_nb_b4
  have Ea4_c190 : Exa Z h190 b4 "[C" := Ea4_c187.wr W190
  have N190 := Fr.snoc X190 N187 gn_b4
  have Z190 : n0 ≤ h190.size := Nat.le_trans Z187 (Keep.of_wr W190).1
  refine own_go (G := T190.setTop (mkF m 39 #[.val (.ref r0), .val (.int (0 : Int32)), .val (.ref nb), .val (.ref b4), .val (.int (61 : Int32))] [])) (st190) ?_
  refine own_go (G := T190.setTop (mkF m 42 #[.val (.ref r0), .val (.int (0 : Int32)), .val (.ref nb), .val (.ref b4), .val (.int ((61 : Int32) + (1 : Int32)))] [])) (fun _ k => XS.iinc X190.here hx rfl (hb hby d7_39) rfl (l' := #[.val (.ref r0), .val (.int (0 : Int32)), .val (.ref nb), .val (.ref b4), .val (.int ((61 : Int32) + (1 : Int32)))]) rfl k) ?_
  rw [show ((61 : Int32) + (1 : Int32)) = (62 : Int32) from by decide]
  refine own_go (G := T190.setTop (mkF m 19 #[.val (.ref r0), .val (.int (0 : Int32)), .val (.ref nb), .val (.ref b4), .val (.int (62 : Int32))] [])) (fun _ k => XS.goto X190.here hx rfl (pc0 := 42) (pc' := 19) rfl (hb hby d7_42) (by decide) (by decide) k) ?_
  refine own_go (G := T190.setTop (mkF m 21 #[.val (.ref r0), .val (.int (0 : Int32)), .val (.ref nb), .val (.ref b4), .val (.int (62 : Int32))] [(.int (62 : Int32))])) (fun _ k => XS.iload X190.here hx rfl (hb hby d7_19) rfl k) ?_
  refine own_go (G := T190.setTop (mkF m 22 #[.val (.ref r0), .val (.int (0 : Int32)), .val (.ref nb), .val (.ref b4), .val (.int (62 : Int32))] [(.ref nb), (.int (62 : Int32))])) (fun _ k => XS.aloadN X190.here hx rfl (hb hby d7_21) rfl rfl k) ?_
  obtain ⟨cl191, Ar191, -, S191, N191_, -, -⟩ := id V_nb_c190
  refine own_go (G := T190.setTop (mkF m 23 #[.val (.ref r0), .val (.int (0 : Int32)), .val (.ref nb), .val (.ref b4), .val (.int (62 : Int32))] [(.int (64 : Int32)), (.int (62 : Int32))])) (fun t k => X190.arraylength hx (by rw [e190]; exact Ar191.1) (State.isArrayOf_alike hZ.alike Ar191.2.1) (g := (mkF m 22 #[.val (.ref r0), .val (.int (0 : Int32)), .val (.ref nb), .val (.ref b4), .val (.int (62 : Int32))] [(.ref nb), (.int (62 : Int32))])) rfl rfl (hb hby d7_22) t (by rw [len_of S191 N191_]; exact k)) ?_
  refine own_go (G := T190.setTop (mkF m 26 #[.val (.ref r0), .val (.int (0 : Int32)), .val (.ref nb), .val (.ref b4), .val (.int (62 : Int32))] [])) (fun _ k => XS.icmpNo X190.here hx rfl (hb hby d7_23) rfl (tlt (by decide : (62 : Int32) < (64 : Int32))).2.1 k) ?_
  refine own_go (G := T190.setTop (mkF m 27 #[.val (.ref r0), .val (.int (0 : Int32)), .val (.ref nb), .val (.ref b4), .val (.int (62 : Int32))] [(.ref b4)])) (fun _ k => XS.aloadN X190.here hx rfl (hb hby d7_26) rfl rfl k) ?_
  refine own_go (G := T190.setTop (mkF m 29 #[.val (.ref r0), .val (.int (0 : Int32)), .val (.ref nb), .val (.ref b4), .val (.int (62 : Int32))] [(.int (62 : Int32)), (.ref b4)])) (fun _ k => XS.iload X190.here hx rfl (hb hby d7_27) rfl k) ?_
  refine own_go (G := T190.setTop (mkF m 30 #[.val (.ref r0), .val (.int (0 : Int32)), .val (.ref nb), .val (.ref b4), .val (.int (62 : Int32))] [(.ref nb), (.int (62 : Int32)), (.ref b4)])) (fun _ k => XS.aloadN X190.here hx rfl (hb hby d7_29) rfl rfl k) ?_
  refine own_go (G := T190.setTop (mkF m 32 #[.val (.ref r0), .val (.int (0 : Int32)), .val (.ref nb), .val (.ref b4), .val (.int (62 : Int32))] [(.int (62 : Int32)), (.ref nb), (.int (62 : Int32)), (.ref b4)])) (fun _ k => XS.iload X190.here hx rfl (hb hby d7_30) rfl k) ?_
  obtain ⟨cl192, Ar192, qk192, S192, N192_, Ha192, G192⟩ := id V_nb_c190
  have hin192 : ¬ ((62 : Int32) < 0 ∨ cl192.slots.size ≤ ((62 : Int32)).toNatClampNeg) := inb_of S192 ⟨by decide, by decide⟩
  have hat192 : cl192.slots[((62 : Int32)).toNatClampNeg]? = some (.int (0 : Int32)) := Ha192.at hin192 rfl
  refine own_go (G := T190.setTop (mkF m 33 #[.val (.ref r0), .val (.int (0 : Int32)), .val (.ref nb), .val (.ref b4), .val (.int (62 : Int32))] [(.int (0 : Int32)), (.int (62 : Int32)), (.ref b4)])) (X190.baloadBytes hx (j := (62 : Int32)) (v := (.int (0 : Int32))) (by rw [e190]; exact Ar192.1) (State.isArrayOf_alike hZ.alike Ar192.2.1) Ar192.2.2 hin192 hat192 (g := (mkF m 32 #[.val (.ref r0), .val (.int (0 : Int32)), .val (.ref nb), .val (.ref b4), .val (.int (62 : Int32))] [(.int (62 : Int32)), (.ref nb), (.int (62 : Int32)), (.ref b4)])) rfl rfl (hb hby d7_32)) ?_
  refine own_go (G := T190.setTop (mkF m 36 #[.val (.ref r0), .val (.int (0 : Int32)), .val (.ref nb), .val (.ref b4), .val (.int (62 : Int32))] [(.int (255 : Int32)), (.int (0 : Int32)), (.int (62 : Int32)), (.ref b4)])) (fun _ k => XS.sipush X190.here hx rfl (hb hby d7_33) k) ?_
  refine own_go (G := T190.setTop (mkF m 37 #[.val (.ref r0), .val (.int (0 : Int32)), .val (.ref nb), .val (.ref b4), .val (.int (62 : Int32))] [(.int ((0 : Int32) &&& (255 : Int32))), (.int (62 : Int32)), (.ref b4)])) (fun _ k => XS.iand X190.here hx rfl (hb hby d7_36) rfl k) ?_
  rw [show ((0 : Int32) &&& (255 : Int32)) = (0 : Int32) from by decide]
  refine own_go (G := T190.setTop (mkF m 38 #[.val (.ref r0), .val (.int (0 : Int32)), .val (.ref nb), .val (.ref b4), .val (.int (62 : Int32))] [(.int ((0 : Int32).toUInt32.toUInt16.toUInt32.toInt32)), (.int (62 : Int32)), (.ref b4)])) (fun _ k => XS.i2c X190.here hx rfl (hb hby d7_37) rfl k) ?_
  rw [show ((0 : Int32).toUInt32.toUInt16.toUInt32.toInt32) = (0 : Int32) from by decide]
  obtain ⟨cl193, Ar193, qk193, S193, N193_, Ha193, G193⟩ := id V190_b4
  have hin193 : ¬ ((62 : Int32) < 0 ∨ cl193.slots.size ≤ ((62 : Int32)).toNatClampNeg) := inb_of S193 ⟨by decide, by decide⟩
  obtain ⟨T193, h193, X193, e193, W193, st193⟩ := stC X190 hx hZ e190 Ar193 (j := (62 : Int32)) hin193 (g := (mkF m 38 #[.val (.ref r0), .val (.int (0 : Int32)), .val (.ref nb), .val (.ref b4), .val (.int (62 : Int32))] [(.int (0 : Int32)), (.int (62 : Int32)), (.ref b4)])) rfl rfl (hb hby d7_38)
  have V193_b4 : Arv Z h193 b4 k4 .char (64 : Int32) (own_B (nar .char ((x0 &&& (255 : Int32)).toUInt32.toUInt16.toUInt32.toInt32)) (nar .char ((x1 &&& (255 : Int32)).toUInt32.toUInt16.toUInt32.toInt32)) (nar .char ((x2 &&& (255 : Int32)).toUInt32.toUInt16.toUInt32.toInt32))) (.int (0 : Int32)) := Arv.set Ar193 qk193 S193 N193_ Ha193 G193 (fits_nar_char _) W193 62 rfl (Nat.le_of_ble_eq_true rfl)
  have E_r0_c193 : Exa Z h193 r0 "com/example/xrefloom/xrefloom/tree/CompactText" := E_r0_c190.wr W193
  have F_length_c193 : Fld Z h193 r0 "com/example/xrefloom/xrefloom/tree/CompactText" "length" "I" (.int len) := F_length_c190.other W193 (Or.inl ne_r0_b4)
  have F_narrow_c193 : Fld Z h193 r0 "com/example/xrefloom/xrefloom/tree/CompactText" "narrow" "[[B" (.ref na) := F_narrow_c190.other W193 (Or.inl ne_r0_b4)
  have F_wide_c193 : Fld Z h193 r0 "com/example/xrefloom/xrefloom/tree/CompactText" "wide" "[[C" (.ref wa) := F_wide_c190.other W193 (Or.inl ne_r0_b4)
  have V_na_c193 : Arv Z h193 na kn (.array .byte) (1 : Int32) [(.ref nb)] .null := V_na_c190.other W193 ne_na_b4
  have V_wa_c193 : Arv Z h193 wa kw (.array .char) (1 : Int32) [.null] .null := V_wa_c190.other W193 ne_wa_b4
  have V_nb_c193 : Arv Z h193 nb kb .byte (64 : Int32) (own_B x0 x1 x2) (.int (0 : Int32)) := V_nb_c190.other W193 ne_nb_b4
  have Ea4_c193 : Exa Z h193 b4 "[C" := Ea4_c190.wr W193
  have N193 := Fr.snoc X193 N190 gn_b4
  have Z193 : n0 ≤ h193.size := Nat.le_trans Z190 (Keep.of_wr W193).1
  refine own_go (G := T193.setTop (mkF m 39 #[.val (.ref r0), .val (.int (0 : Int32)), .val (.ref nb), .val (.ref b4), .val (.int (62 : Int32))] [])) (st193) ?_
  refine own_go (G := T193.setTop (mkF m 42 #[.val (.ref r0), .val (.int (0 : Int32)), .val (.ref nb), .val (.ref b4), .val (.int ((62 : Int32) + (1 : Int32)))] [])) (fun _ k => XS.iinc X193.here hx rfl (hb hby d7_39) rfl (l' := #[.val (.ref r0), .val (.int (0 : Int32)), .val (.ref nb), .val (.ref b4), .val (.int ((62 : Int32) + (1 : Int32)))]) rfl k) ?_
  rw [show ((62 : Int32) + (1 : Int32)) = (63 : Int32) from by decide]
  refine own_go (G := T193.setTop (mkF m 19 #[.val (.ref r0), .val (.int (0 : Int32)), .val (.ref nb), .val (.ref b4), .val (.int (63 : Int32))] [])) (fun _ k => XS.goto X193.here hx rfl (pc0 := 42) (pc' := 19) rfl (hb hby d7_42) (by decide) (by decide) k) ?_
  refine own_go (G := T193.setTop (mkF m 21 #[.val (.ref r0), .val (.int (0 : Int32)), .val (.ref nb), .val (.ref b4), .val (.int (63 : Int32))] [(.int (63 : Int32))])) (fun _ k => XS.iload X193.here hx rfl (hb hby d7_19) rfl k) ?_
  refine own_go (G := T193.setTop (mkF m 22 #[.val (.ref r0), .val (.int (0 : Int32)), .val (.ref nb), .val (.ref b4), .val (.int (63 : Int32))] [(.ref nb), (.int (63 : Int32))])) (fun _ k => XS.aloadN X193.here hx rfl (hb hby d7_21) rfl rfl k) ?_
  obtain ⟨cl194, Ar194, -, S194, N194_, -, -⟩ := id V_nb_c193
  refine own_go (G := T193.setTop (mkF m 23 #[.val (.ref r0), .val (.int (0 : Int32)), .val (.ref nb), .val (.ref b4), .val (.int (63 : Int32))] [(.int (64 : Int32)), (.int (63 : Int32))])) (fun t k => X193.arraylength hx (by rw [e193]; exact Ar194.1) (State.isArrayOf_alike hZ.alike Ar194.2.1) (g := (mkF m 22 #[.val (.ref r0), .val (.int (0 : Int32)), .val (.ref nb), .val (.ref b4), .val (.int (63 : Int32))] [(.ref nb), (.int (63 : Int32))])) rfl rfl (hb hby d7_22) t (by rw [len_of S194 N194_]; exact k)) ?_
  refine own_go (G := T193.setTop (mkF m 26 #[.val (.ref r0), .val (.int (0 : Int32)), .val (.ref nb), .val (.ref b4), .val (.int (63 : Int32))] [])) (fun _ k => XS.icmpNo X193.here hx rfl (hb hby d7_23) rfl (tlt (by decide : (63 : Int32) < (64 : Int32))).2.1 k) ?_
  refine own_go (G := T193.setTop (mkF m 27 #[.val (.ref r0), .val (.int (0 : Int32)), .val (.ref nb), .val (.ref b4), .val (.int (63 : Int32))] [(.ref b4)])) (fun _ k => XS.aloadN X193.here hx rfl (hb hby d7_26) rfl rfl k) ?_
  refine own_go (G := T193.setTop (mkF m 29 #[.val (.ref r0), .val (.int (0 : Int32)), .val (.ref nb), .val (.ref b4), .val (.int (63 : Int32))] [(.int (63 : Int32)), (.ref b4)])) (fun _ k => XS.iload X193.here hx rfl (hb hby d7_27) rfl k) ?_
  refine own_go (G := T193.setTop (mkF m 30 #[.val (.ref r0), .val (.int (0 : Int32)), .val (.ref nb), .val (.ref b4), .val (.int (63 : Int32))] [(.ref nb), (.int (63 : Int32)), (.ref b4)])) (fun _ k => XS.aloadN X193.here hx rfl (hb hby d7_29) rfl rfl k) ?_
  refine own_go (G := T193.setTop (mkF m 32 #[.val (.ref r0), .val (.int (0 : Int32)), .val (.ref nb), .val (.ref b4), .val (.int (63 : Int32))] [(.int (63 : Int32)), (.ref nb), (.int (63 : Int32)), (.ref b4)])) (fun _ k => XS.iload X193.here hx rfl (hb hby d7_30) rfl k) ?_
  obtain ⟨cl195, Ar195, qk195, S195, N195_, Ha195, G195⟩ := id V_nb_c193
  have hin195 : ¬ ((63 : Int32) < 0 ∨ cl195.slots.size ≤ ((63 : Int32)).toNatClampNeg) := inb_of S195 ⟨by decide, by decide⟩
  have hat195 : cl195.slots[((63 : Int32)).toNatClampNeg]? = some (.int (0 : Int32)) := Ha195.at hin195 rfl
  refine own_go (G := T193.setTop (mkF m 33 #[.val (.ref r0), .val (.int (0 : Int32)), .val (.ref nb), .val (.ref b4), .val (.int (63 : Int32))] [(.int (0 : Int32)), (.int (63 : Int32)), (.ref b4)])) (X193.baloadBytes hx (j := (63 : Int32)) (v := (.int (0 : Int32))) (by rw [e193]; exact Ar195.1) (State.isArrayOf_alike hZ.alike Ar195.2.1) Ar195.2.2 hin195 hat195 (g := (mkF m 32 #[.val (.ref r0), .val (.int (0 : Int32)), .val (.ref nb), .val (.ref b4), .val (.int (63 : Int32))] [(.int (63 : Int32)), (.ref nb), (.int (63 : Int32)), (.ref b4)])) rfl rfl (hb hby d7_32)) ?_
  refine own_go (G := T193.setTop (mkF m 36 #[.val (.ref r0), .val (.int (0 : Int32)), .val (.ref nb), .val (.ref b4), .val (.int (63 : Int32))] [(.int (255 : Int32)), (.int (0 : Int32)), (.int (63 : Int32)), (.ref b4)])) (fun _ k => XS.sipush X193.here hx rfl (hb hby d7_33) k) ?_
  refine own_go (G := T193.setTop (mkF m 37 #[.val (.ref r0), .val (.int (0 : Int32)), .val (.ref nb), .val (.ref b4), .val (.int (63 : Int32))] [(.int ((0 : Int32) &&& (255 : Int32))), (.int (63 : Int32)), (.ref b4)])) (fun _ k => XS.iand X193.here hx rfl (hb hby d7_36) rfl k) ?_
  rw [show ((0 : Int32) &&& (255 : Int32)) = (0 : Int32) from by decide]
  refine own_go (G := T193.setTop (mkF m 38 #[.val (.ref r0), .val (.int (0 : Int32)), .val (.ref nb), .val (.ref b4), .val (.int (63 : Int32))] [(.int ((0 : Int32).toUInt32.toUInt16.toUInt32.toInt32)), (.int (63 : Int32)), (.ref b4)])) (fun _ k => XS.i2c X193.here hx rfl (hb hby d7_37) rfl k) ?_
  rw [show ((0 : Int32).toUInt32.toUInt16.toUInt32.toInt32) = (0 : Int32) from by decide]
  obtain ⟨cl196, Ar196, qk196, S196, N196_, Ha196, G196⟩ := id V193_b4
  have hin196 : ¬ ((63 : Int32) < 0 ∨ cl196.slots.size ≤ ((63 : Int32)).toNatClampNeg) := inb_of S196 ⟨by decide, by decide⟩
  obtain ⟨T196, h196, X196, e196, W196, st196⟩ := stC X193 hx hZ e193 Ar196 (j := (63 : Int32)) hin196 (g := (mkF m 38 #[.val (.ref r0), .val (.int (0 : Int32)), .val (.ref nb), .val (.ref b4), .val (.int (63 : Int32))] [(.int (0 : Int32)), (.int (63 : Int32)), (.ref b4)])) rfl rfl (hb hby d7_38)
  have V196_b4 : Arv Z h196 b4 k4 .char (64 : Int32) (own_B (nar .char ((x0 &&& (255 : Int32)).toUInt32.toUInt16.toUInt32.toInt32)) (nar .char ((x1 &&& (255 : Int32)).toUInt32.toUInt16.toUInt32.toInt32)) (nar .char ((x2 &&& (255 : Int32)).toUInt32.toUInt16.toUInt32.toInt32))) (.int (0 : Int32)) := Arv.set Ar196 qk196 S196 N196_ Ha196 G196 (fits_nar_char _) W196 63 rfl (Nat.le_of_ble_eq_true rfl)
  have E_r0_c196 : Exa Z h196 r0 "com/example/xrefloom/xrefloom/tree/CompactText" := E_r0_c193.wr W196
  have F_length_c196 : Fld Z h196 r0 "com/example/xrefloom/xrefloom/tree/CompactText" "length" "I" (.int len) := F_length_c193.other W196 (Or.inl ne_r0_b4)
  have F_narrow_c196 : Fld Z h196 r0 "com/example/xrefloom/xrefloom/tree/CompactText" "narrow" "[[B" (.ref na) := F_narrow_c193.other W196 (Or.inl ne_r0_b4)
  have F_wide_c196 : Fld Z h196 r0 "com/example/xrefloom/xrefloom/tree/CompactText" "wide" "[[C" (.ref wa) := F_wide_c193.other W196 (Or.inl ne_r0_b4)
  have V_na_c196 : Arv Z h196 na kn (.array .byte) (1 : Int32) [(.ref nb)] .null := V_na_c193.other W196 ne_na_b4
  have V_wa_c196 : Arv Z h196 wa kw (.array .char) (1 : Int32) [.null] .null := V_wa_c193.other W196 ne_wa_b4
  have V_nb_c196 : Arv Z h196 nb kb .byte (64 : Int32) (own_B x0 x1 x2) (.int (0 : Int32)) := V_nb_c193.other W196 ne_nb_b4
  have Ea4_c196 : Exa Z h196 b4 "[C" := Ea4_c193.wr W196
  have N196 := Fr.snoc X196 N193 gn_b4
  have Z196 : n0 ≤ h196.size := Nat.le_trans Z193 (Keep.of_wr W196).1
  refine own_go (G := T196.setTop (mkF m 39 #[.val (.ref r0), .val (.int (0 : Int32)), .val (.ref nb), .val (.ref b4), .val (.int (63 : Int32))] [])) (st196) ?_
  refine own_go (G := T196.setTop (mkF m 42 #[.val (.ref r0), .val (.int (0 : Int32)), .val (.ref nb), .val (.ref b4), .val (.int ((63 : Int32) + (1 : Int32)))] [])) (fun _ k => XS.iinc X196.here hx rfl (hb hby d7_39) rfl (l' := #[.val (.ref r0), .val (.int (0 : Int32)), .val (.ref nb), .val (.ref b4), .val (.int ((63 : Int32) + (1 : Int32)))]) rfl k) ?_
  rw [show ((63 : Int32) + (1 : Int32)) = (64 : Int32) from by decide]
  refine own_go (G := T196.setTop (mkF m 19 #[.val (.ref r0), .val (.int (0 : Int32)), .val (.ref nb), .val (.ref b4), .val (.int (64 : Int32))] [])) (fun _ k => XS.goto X196.here hx rfl (pc0 := 42) (pc' := 19) rfl (hb hby d7_42) (by decide) (by decide) k) ?_
  refine own_go (G := T196.setTop (mkF m 21 #[.val (.ref r0), .val (.int (0 : Int32)), .val (.ref nb), .val (.ref b4), .val (.int (64 : Int32))] [(.int (64 : Int32))])) (fun _ k => XS.iload X196.here hx rfl (hb hby d7_19) rfl k) ?_
  refine own_go (G := T196.setTop (mkF m 22 #[.val (.ref r0), .val (.int (0 : Int32)), .val (.ref nb), .val (.ref b4), .val (.int (64 : Int32))] [(.ref nb), (.int (64 : Int32))])) (fun _ k => XS.aloadN X196.here hx rfl (hb hby d7_21) rfl rfl k) ?_
  obtain ⟨cl197, Ar197, -, S197, N197_, -, -⟩ := id V_nb_c196
  refine own_go (G := T196.setTop (mkF m 23 #[.val (.ref r0), .val (.int (0 : Int32)), .val (.ref nb), .val (.ref b4), .val (.int (64 : Int32))] [(.int (64 : Int32)), (.int (64 : Int32))])) (fun t k => X196.arraylength hx (by rw [e196]; exact Ar197.1) (State.isArrayOf_alike hZ.alike Ar197.2.1) (g := (mkF m 22 #[.val (.ref r0), .val (.int (0 : Int32)), .val (.ref nb), .val (.ref b4), .val (.int (64 : Int32))] [(.ref nb), (.int (64 : Int32))])) rfl rfl (hb hby d7_22) t (by rw [len_of S197 N197_]; exact k)) ?_
  refine own_go (G := T196.setTop (mkF m 45 #[.val (.ref r0), .val (.int (0 : Int32)), .val (.ref nb), .val (.ref b4), .val (.int (64 : Int32))] [])) (fun _ k => XS.icmpYes X196.here hx rfl (pc0 := 23) (pc' := 45) rfl (hb hby d7_23) rfl (flt (by decide : ¬ ((64 : Int32) < (64 : Int32)))).2.1 (by decide) (by decide) k) ?_
  refine own_go (G := T196.setTop (mkF m 46 #[.val (.ref r0), .val (.int (0 : Int32)), .val (.ref nb), .val (.ref b4), .val (.int (64 : Int32))] [(.ref r0)])) (fun _ k => XS.aloadN X196.here hx rfl (hb hby d7_45) rfl rfl k) ?_
  obtain ⟨T198, X198, e198, st198⟩ := getF X196 hx hZ hown (host := "") (Or.inl (hw _ (List.mem_of_getElem? (i := 22) rfl))) Via.refl e196 F_wide_c196 (g := (mkF m 46 #[.val (.ref r0), .val (.int (0 : Int32)), .val (.ref nb), .val (.ref b4), .val (.int (64 : Int32))] [(.ref r0)])) rfl rfl (hb hby d7_46)
  refine own_go (G := T198.setTop (mkF m 49 #[.val (.ref r0), .val (.int (0 : Int32)), .val (.ref nb), .val (.ref b4), .val (.int (64 : Int32))] [(.ref wa)])) (st198) ?_
  refine own_go (G := T198.setTop (mkF m 50 #[.val (.ref r0), .val (.int (0 : Int32)), .val (.ref nb), .val (.ref b4), .val (.int (64 : Int32))] [(.int (0 : Int32)), (.ref wa)])) (fun _ k => XS.iloadN X198.here hx rfl (hb hby d7_49) rfl k) ?_
  refine own_go (G := T198.setTop (mkF m 51 #[.val (.ref r0), .val (.int (0 : Int32)), .val (.ref nb), .val (.ref b4), .val (.int (64 : Int32))] [(.ref b4), (.int (0 : Int32)), (.ref wa)])) (fun _ k => XS.aloadN X198.here hx rfl (hb hby d7_50) rfl rfl k) ?_
  obtain ⟨cl199, Ar199, qk199, S199, N199_, Ha199, G199⟩ := id V_wa_c196
  have hin199 : ¬ ((0 : Int32) < 0 ∨ cl199.slots.size ≤ ((0 : Int32)).toNatClampNeg) := inb_of S199 ⟨by decide, by decide⟩
  obtain ⟨T199, h199, X199, e199, W199, st199⟩ := stR X198 hx hZ e198 Ar199 (j := (0 : Int32)) hin199 rfl (Sto.ofVA Ar199 qk199 Ov (Ins.self Ea4_c196)) (g := (mkF m 51 #[.val (.ref r0), .val (.int (0 : Int32)), .val (.ref nb), .val (.ref b4), .val (.int (64 : Int32))] [(.ref b4), (.int (0 : Int32)), (.ref wa)])) rfl rfl (hb hby d7_51)
  have V199_wa : Arv Z h199 wa kw (.array .char) (1 : Int32) [(.ref b4)] .null := Arv.set Ar199 qk199 S199 N199_ Ha199 G199 rfl W199 0 rfl (Nat.le_of_ble_eq_true rfl)
  have E_r0_c199 : Exa Z h199 r0 "com/example/xrefloom/xrefloom/tree/CompactText" := E_r0_c196.wr W199
  have F_length_c199 : Fld Z h199 r0 "com/example/xrefloom/xrefloom/tree/CompactText" "length" "I" (.int len) := F_length_c196.other W199 (Or.inl ne_r0_wa)
  have F_narrow_c199 : Fld Z h199 r0 "com/example/xrefloom/xrefloom/tree/CompactText" "narrow" "[[B" (.ref na) := F_narrow_c196.other W199 (Or.inl ne_r0_wa)
  have F_wide_c199 : Fld Z h199 r0 "com/example/xrefloom/xrefloom/tree/CompactText" "wide" "[[C" (.ref wa) := F_wide_c196.other W199 (Or.inl ne_r0_wa)
  have V_na_c199 : Arv Z h199 na kn (.array .byte) (1 : Int32) [(.ref nb)] .null := V_na_c196.other W199 ne_na_wa
  have V_nb_c199 : Arv Z h199 nb kb .byte (64 : Int32) (own_B x0 x1 x2) (.int (0 : Int32)) := V_nb_c196.other W199 (Ne.symm ne_wa_nb)
  have V196_b4_c199 : Arv Z h199 b4 k4 .char (64 : Int32) (own_B (nar .char ((x0 &&& (255 : Int32)).toUInt32.toUInt16.toUInt32.toInt32)) (nar .char ((x1 &&& (255 : Int32)).toUInt32.toUInt16.toUInt32.toInt32)) (nar .char ((x2 &&& (255 : Int32)).toUInt32.toUInt16.toUInt32.toInt32))) (.int (0 : Int32)) := V196_b4.other W199 (Ne.symm ne_wa_b4)
  have Ea4_c199 : Exa Z h199 b4 "[C" := Ea4_c196.wr W199
  have N199 := Fr.snoc X199 N196 gn_wa
  have Z199 : n0 ≤ h199.size := Nat.le_trans Z196 (Keep.of_wr W199).1
  refine own_go (G := T199.setTop (mkF m 52 #[.val (.ref r0), .val (.int (0 : Int32)), .val (.ref nb), .val (.ref b4), .val (.int (64 : Int32))] [])) (st199) ?_
  refine own_go (G := T199.setTop (mkF m 53 #[.val (.ref r0), .val (.int (0 : Int32)), .val (.ref nb), .val (.ref b4), .val (.int (64 : Int32))] [(.ref r0)])) (fun _ k => XS.aloadN X199.here hx rfl (hb hby d7_52) rfl rfl k) ?_
  obtain ⟨T200, X200, e200, st200⟩ := getF X199 hx hZ hown (host := "") (Or.inl (hw _ (List.mem_of_getElem? (i := 18) rfl))) Via.refl e199 F_narrow_c199 (g := (mkF m 53 #[.val (.ref r0), .val (.int (0 : Int32)), .val (.ref nb), .val (.ref b4), .val (.int (64 : Int32))] [(.ref r0)])) rfl rfl (hb hby d7_53)
  refine own_go (G := T200.setTop (mkF m 56 #[.val (.ref r0), .val (.int (0 : Int32)), .val (.ref nb), .val (.ref b4), .val (.int (64 : Int32))] [(.ref na)])) (st200) ?_
  refine own_go (G := T200.setTop (mkF m 57 #[.val (.ref r0), .val (.int (0 : Int32)), .val (.ref nb), .val (.ref b4), .val (.int (64 : Int32))] [(.int (0 : Int32)), (.ref na)])) (fun _ k => XS.iloadN X200.here hx rfl (hb hby d7_56) rfl k) ?_
  refine own_go (G := T200.setTop (mkF m 58 #[.val (.ref r0), .val (.int (0 : Int32)), .val (.ref nb), .val (.ref b4), .val (.int (64 : Int32))] [.null, (.int (0 : Int32)), (.ref na)])) (fun _ k => XS.aconstNull X200.here hx rfl (hb hby d7_57) k) ?_
  obtain ⟨cl201, Ar201, qk201, S201, N201_, Ha201, G201⟩ := id V_na_c199
  have hin201 : ¬ ((0 : Int32) < 0 ∨ cl201.slots.size ≤ ((0 : Int32)).toNatClampNeg) := inb_of S201 ⟨by decide, by decide⟩
  obtain ⟨T201, h201, X201, e201, W201, st201⟩ := stR X200 hx hZ e200 Ar201 (j := (0 : Int32)) hin201 rfl (Or.inl rfl) (g := (mkF m 58 #[.val (.ref r0), .val (.int (0 : Int32)), .val (.ref nb), .val (.ref b4), .val (.int (64 : Int32))] [.null, (.int (0 : Int32)), (.ref na)])) rfl rfl (hb hby d7_58)
  have V201_na : Arv Z h201 na kn (.array .byte) (1 : Int32) [.null] .null := Arv.set Ar201 qk201 S201 N201_ Ha201 G201 rfl W201 0 rfl (Nat.le_of_ble_eq_true rfl)
  have E_r0_c201 : Exa Z h201 r0 "com/example/xrefloom/xrefloom/tree/CompactText" := E_r0_c199.wr W201
  have F_length_c201 : Fld Z h201 r0 "com/example/xrefloom/xrefloom/tree/CompactText" "length" "I" (.int len) := F_length_c199.other W201 (Or.inl ne_r0_na)
  have F_narrow_c201 : Fld Z h201 r0 "com/example/xrefloom/xrefloom/tree/CompactText" "narrow" "[[B" (.ref na) := F_narrow_c199.other W201 (Or.inl ne_r0_na)
  have F_wide_c201 : Fld Z h201 r0 "com/example/xrefloom/xrefloom/tree/CompactText" "wide" "[[C" (.ref wa) := F_wide_c199.other W201 (Or.inl ne_r0_na)
  have V199_wa_c201 : Arv Z h201 wa kw (.array .char) (1 : Int32) [(.ref b4)] .null := V199_wa.other W201 (Ne.symm ne_na_wa)
  have V_nb_c201 : Arv Z h201 nb kb .byte (64 : Int32) (own_B x0 x1 x2) (.int (0 : Int32)) := V_nb_c199.other W201 (Ne.symm ne_na_nb)
  have V196_b4_c201 : Arv Z h201 b4 k4 .char (64 : Int32) (own_B (nar .char ((x0 &&& (255 : Int32)).toUInt32.toUInt16.toUInt32.toInt32)) (nar .char ((x1 &&& (255 : Int32)).toUInt32.toUInt16.toUInt32.toInt32)) (nar .char ((x2 &&& (255 : Int32)).toUInt32.toUInt16.toUInt32.toInt32))) (.int (0 : Int32)) := V196_b4_c199.other W201 (Ne.symm ne_na_b4)
  have Ea4_c201 : Exa Z h201 b4 "[C" := Ea4_c199.wr W201
  have N201 := Fr.snoc X201 N199 gn_na
  have Z201 : n0 ≤ h201.size := Nat.le_trans Z199 (Keep.of_wr W201).1
  refine own_go (G := T201.setTop (mkF m 59 #[.val (.ref r0), .val (.int (0 : Int32)), .val (.ref nb), .val (.ref b4), .val (.int (64 : Int32))] [])) (st201) ?_
  refine own_go (G := T201.setTop (mkF m 60 #[.val (.ref r0), .val (.int (0 : Int32)), .val (.ref nb), .val (.ref b4), .val (.int (64 : Int32))] [(.ref r0)])) (fun _ k => XS.aloadN X201.here hx rfl (hb hby d7_59) rfl rfl k) ?_
  obtain ⟨T202, X202, e202, st202⟩ := getF X201 hx hZ hown (host := "") (Or.inl (hw _ (List.mem_of_getElem? (i := 22) rfl))) Via.refl e201 F_wide_c201 (g := (mkF m 60 #[.val (.ref r0), .val (.int (0 : Int32)), .val (.ref nb), .val (.ref b4), .val (.int (64 : Int32))] [(.ref r0)])) rfl rfl (hb hby d7_60)
  refine own_go (G := T202.setTop (mkF m 63 #[.val (.ref r0), .val (.int (0 : Int32)), .val (.ref nb), .val (.ref b4), .val (.int (64 : Int32))] [(.ref wa)])) (st202) ?_
  refine own_go (G := T202.setTop (mkF m 64 #[.val (.ref r0), .val (.int (0 : Int32)), .val (.ref nb), .val (.ref b4), .val (.int (64 : Int32))] [(.int (0 : Int32)), (.ref wa)])) (fun _ k => XS.iloadN X202.here hx rfl (hb hby d7_63) rfl k) ?_
  obtain ⟨cl203, Ar203, qk203, S203, N203_, Ha203, G203⟩ := id V199_wa_c201
  have hin203 : ¬ ((0 : Int32) < 0 ∨ cl203.slots.size ≤ ((0 : Int32)).toNatClampNeg) := inb_of S203 ⟨by decide, by decide⟩
  have hat203 : cl203.slots[((0 : Int32)).toNatClampNeg]? = some (.ref b4) := Ha203.at hin203 rfl
  refine own_go (G := T202.setTop (mkF m 65 #[.val (.ref r0), .val (.int (0 : Int32)), .val (.ref nb), .val (.ref b4), .val (.int (64 : Int32))] [(.ref b4)])) (X202.aaload hx (j := (0 : Int32)) (v := (.ref b4)) (by rw [e202]; exact Ar203.1) (State.isArrayOf_alike hZ.alike Ar203.2.1) rfl Ar203.2.2 hin203 hat203 (g := (mkF m 64 #[.val (.ref r0), .val (.int (0 : Int32)), .val (.ref nb), .val (.ref b4), .val (.int (64 : Int32))] [(.int (0 : Int32)), (.ref wa)])) rfl rfl (hb hby d7_64)) ?_
  exact own_retA X202 hx Bd.returns rfl rfl (hb hby d7_65) Bd.notSynchronized (by decide) (by decide) (by rw [e202]; exact ⟨b4, rfl, N201, Z201, ⟨gn_r0, E_r0_c201, F_length_c201, na, wa, kn, kw, k4, gn_na, gn_wa, gn_b4, ne_r0_na, ne_r0_wa, ne_r0_b4, ne_na_wa, ne_na_b4, ne_wa_b4, F_narrow_c201, F_wide_c201, Ov, V201_na, V199_wa_c201, V196_b4_c201⟩⟩)
theorem ef_wdW (m : MethodId) (r0 : Addr) : entryFrame m #[(.ref r0), (.int (0 : Int32))] 5 = mkF m 0 #[.val (.ref r0), .val (.int (0 : Int32)), .unset, .unset, .unset] [] := by first | (simp [entryFrame, mkF, argsToLocals, Value.category]; done) | rfl
set_option maxRecDepth 65536 in
set_option maxHeartbeats 40000000 in
theorem wdW (l : Launch) (Z : State) (a0 : Array Value) (hw : ∀ d ∈ tables_1, d.before a0 Z = true) (ws : List Jvm.Cond) (r0 : Addr) (len : Int32) (x0 : Int32) (x1 : Int32) (x2 : Int32) (wc : Addr) (h0 : Heap) (n0 : Nat) (Z0 : n0 ≤ h0.size) (G : own_W Z h0 n0 r0 len x0 x1 x2 wc) :
    MetFree l (⟨"com/example/xrefloom/xrefloom/tree/CompactText", "widen", "(I)[C"⟩ : MethodName) (head1 (Jvm.Cond.code (⟨"com/example/xrefloom/xrefloom/tree/CompactText", "widen", "(I)[C"⟩ : MethodName) prog_30_method_10_code 5 (some (.array .char)) :: ws) ({ frames := 0, cells := 0, slots := 0, locals := 0 } : Room)) (fun a U => a = #[(.ref r0), (.int (0 : Int32))] ∧ Z.Warmed39 U.vm ∧ U.heap = h0) (fun _ _ _ _ _ => True) (fun _ U o U' => ∃ v L, o = .returned v ∧ (own_Same (.ref wc) h0 n0) v U'.heap L ∧ FrameEnd U o U' L 0 0) := by
  refine MetFree.of_bodySF (plainFor_of_name pn7) hisR ?_
  intro p e s m args below meth c s₁ Bd hml0 hP hK
  obtain ⟨rfl, hZ, hh⟩ := hP
  have hx := Bd.exec
  have hby := Bd.bytes
  have hml : c.maxLocals = 5 := hml0
  have hown : s.vm.findClass "com/example/xrefloom/xrefloom/tree/CompactText" = some m.cls := findClass_of_methodNamed Bd.named
  have hnm := (name_of_methodNamed Bd.named Bd.method).1
  have X0 : Stand p l e ({ frames := 0, cells := 0, slots := 0, locals := 0 } : Room) s m #[(.ref r0), (.int (0 : Int32))] below meth c s₁ [] 0 0 := Stand.of_body Bd
  have e0 : s₁.heap = h0 := by rw [← hh, Bd.state]; rfl
  have N0 := Fr.nil n0
  obtain ⟨gn_r0, E_r0, F_length, na, wa, kn, kw, kb, gn_na, gn_wa, gn_wc, ne_r0_na, ne_r0_wa, ne_r0_wc, ne_na_wa, ne_na_wc, ne_wa_wc, F_narrow, F_wide, Ov, V_na, V_wa, V_wc⟩ := G
  show own_Goes p e below (own_End s (own_Same (.ref wc) h0 n0) 0 0) _
  refine own_go (G := s₁.setTop (mkF m 0 #[.val (.ref r0), .val (.int (0 : Int32)), .unset, .unset, .unset] [])) (fun t k => castTop (ef_wdW m r0) k) ?_
  refine own_go (G := s₁.setTop (mkF m 1 #[.val (.ref r0), .val (.int (0 : Int32)), .unset, .unset, .unset] [(.ref r0)])) (fun _ k => XS.aloadN X0.here hx rfl (hb hby d7_0) rfl rfl k) ?_
  obtain ⟨T1, X1, e1, st1⟩ := getF X0 hx hZ hown (host := "") (Or.inl (hw _ (List.mem_of_getElem? (i := 18) rfl))) Via.refl e0 F_narrow (g := (mkF m 1 #[.val (.ref r0), .val (.int (0 : Int32)), .unset, .unset, .unset] [(.ref r0)])) rfl rfl (hb hby d7_1)
  refine own_go (G := T1.setTop (mkF m 4 #[.val (.ref r0), .val (.int (0 : Int32)), .unset, .unset, .unset] [(.ref na)])) (st1) ?_
  refine own_go (G := T1.setTop (mkF m 5 #[.val (.ref r0), .val (.int (0 : Int32)), .unset, .unset, .unset] [(.int (0 : Int32)), (.ref na)])) (fun _ k => XS.iloadN X1.here hx rfl (hb hby d7_4) rfl k) ?_
  obtain ⟨cl2, Ar2, qk2, S2, N2_, Ha2, G2⟩ := id V_na
  have hin2 : ¬ ((0 : Int32) < 0 ∨ cl2.slots.size ≤ ((0 : Int32)).toNatClampNeg) := inb_of S2 ⟨by decide, by decide⟩
  have hat2 : cl2.slots[((0 : Int32)).toNatClampNeg]? = some .null := Ha2.at hin2 rfl
  refine own_go (G := T1.setTop (mkF m 6 #[.val (.ref r0), .val (.int (0 : Int32)), .unset, .unset, .unset] [.null])) (X1.aaload hx (j := (0 : Int32)) (v := .null) (by rw [e1]; exact Ar2.1) (State.isArrayOf_alike hZ.alike Ar2.2.1) rfl Ar2.2.2 hin2 hat2 (g := (mkF m 5 #[.val (.ref r0), .val (.int (0 : Int32)), .unset, .unset, .unset] [(.int (0 : Int32)), (.ref na)])) rfl rfl (hb hby d7_5)) ?_
  refine own_go (G := T1.setTop (mkF m 7 #[.val (.ref r0), .val (.int (0 : Int32)), .val .null, .unset, .unset] [])) (fun _ k => XS.astoreN X1.here hx rfl (hb hby d7_6) rfl rfl (l' := #[.val (.ref r0), .val (.int (0 : Int32)), .val .null, .unset, .unset]) rfl k) ?_
  refine own_go (G := T1.setTop (mkF m 8 #[.val (.ref r0), .val (.int (0 : Int32)), .val .null, .unset, .unset] [.null])) (fun _ k => XS.aloadN X1.here hx rfl (hb hby d7_7) rfl rfl k) ?_
  refine own_go (G := T1.setTop (mkF m 59 #[.val (.ref r0), .val (.int (0 : Int32)), .val .null, .unset, .unset] [])) (fun _ k => XS.ifnullYes X1.here hx rfl (pc0 := 8) (pc' := 59) rfl (hb hby d7_8) rfl (by decide) (by decide) k) ?_
  refine own_go (G := T1.setTop (mkF m 60 #[.val (.ref r0), .val (.int (0 : Int32)), .val .null, .unset, .unset] [(.ref r0)])) (fun _ k => XS.aloadN X1.here hx rfl (hb hby d7_59) rfl rfl k) ?_
  obtain ⟨T3, X3, e3, st3⟩ := getF X1 hx hZ hown (host := "") (Or.inl (hw _ (List.mem_of_getElem? (i := 22) rfl))) Via.refl e1 F_wide (g := (mkF m 60 #[.val (.ref r0), .val (.int (0 : Int32)), .val .null, .unset, .unset] [(.ref r0)])) rfl rfl (hb hby d7_60)
  refine own_go (G := T3.setTop (mkF m 63 #[.val (.ref r0), .val (.int (0 : Int32)), .val .null, .unset, .unset] [(.ref wa)])) (st3) ?_
  refine own_go (G := T3.setTop (mkF m 64 #[.val (.ref r0), .val (.int (0 : Int32)), .val .null, .unset, .unset] [(.int (0 : Int32)), (.ref wa)])) (fun _ k => XS.iloadN X3.here hx rfl (hb hby d7_63) rfl k) ?_
  obtain ⟨cl4, Ar4, qk4, S4, N4_, Ha4, G4⟩ := id V_wa
  have hin4 : ¬ ((0 : Int32) < 0 ∨ cl4.slots.size ≤ ((0 : Int32)).toNatClampNeg) := inb_of S4 ⟨by decide, by decide⟩
  have hat4 : cl4.slots[((0 : Int32)).toNatClampNeg]? = some (.ref wc) := Ha4.at hin4 rfl
  refine own_go (G := T3.setTop (mkF m 65 #[.val (.ref r0), .val (.int (0 : Int32)), .val .null, .unset, .unset] [(.ref wc)])) (X3.aaload hx (j := (0 : Int32)) (v := (.ref wc)) (by rw [e3]; exact Ar4.1) (State.isArrayOf_alike hZ.alike Ar4.2.1) rfl Ar4.2.2 hin4 hat4 (g := (mkF m 64 #[.val (.ref r0), .val (.int (0 : Int32)), .val .null, .unset, .unset] [(.int (0 : Int32)), (.ref wa)])) rfl rfl (hb hby d7_64)) ?_
  exact own_retA X3 hx Bd.returns rfl rfl (hb hby d7_65) Bd.notSynchronized (by decide) (by decide) ⟨rfl, N0, e3⟩
theorem d4_0 : decode prog_30_method_5_code 0 = .ok (.aload_n 0, 1) := by decide +kernel
theorem d4_1 : decode prog_30_method_5_code 1 = .ok (.getfield 21, 3) := by decide +kernel
theorem d4_4 : decode prog_30_method_5_code 4 = .ok (.bipush 16, 2) := by decide +kernel
theorem d4_6 : decode prog_30_method_5_code 6 = .ok (.iushr, 1) := by decide +kernel
theorem d4_7 : decode prog_30_method_5_code 7 = .ok (.istore_n 2, 1) := by decide +kernel
theorem d4_8 : decode prog_30_method_5_code 8 = .ok (.aload_n 0, 1) := by decide +kernel
theorem d4_9 : decode prog_30_method_5_code 9 = .ok (.getfield 21, 3) := by decide +kernel
theorem d4_12 : decode prog_30_method_5_code 12 = .ok (.ldc 25, 2) := by decide +kernel
theorem d4_14 : decode prog_30_method_5_code 14 = .ok (.iand, 1) := by decide +kernel
theorem d4_15 : decode prog_30_method_5_code 15 = .ok (.istore_n 3, 1) := by decide +kernel
theorem d4_16 : decode prog_30_method_5_code 16 = .ok (.aload_n 0, 1) := by decide +kernel
theorem d4_17 : decode prog_30_method_5_code 17 = .ok (.iload_n 2, 1) := by decide +kernel
theorem d4_18 : decode prog_30_method_5_code 18 = .ok (.iload_n 3, 1) := by decide +kernel
theorem d4_19 : decode prog_30_method_5_code 19 = .ok (.invokevirtual 59, 3) := by decide +kernel
theorem d4_22 : decode prog_30_method_5_code 22 = .ok (.aload_n 0, 1) := by decide +kernel
theorem d4_23 : decode prog_30_method_5_code 23 = .ok (.getfield 11, 3) := by decide +kernel
theorem d4_26 : decode prog_30_method_5_code 26 = .ok (.iload_n 2, 1) := by decide +kernel
theorem d4_27 : decode prog_30_method_5_code 27 = .ok (.aaload, 1) := by decide +kernel
theorem d4_28 : decode prog_30_method_5_code 28 = .ok (.astore 4, 2) := by decide +kernel
theorem d4_30 : decode prog_30_method_5_code 30 = .ok (.aload 4, 2) := by decide +kernel
theorem d4_32 : decode prog_30_method_5_code 32 = .ok (.ifnull 19, 3) := by decide +kernel
theorem d4_35 : decode prog_30_method_5_code 35 = .ok (.iload_n 1, 1) := by decide +kernel
theorem d4_36 : decode prog_30_method_5_code 36 = .ok (.sipush 256, 3) := by decide +kernel
theorem d4_39 : decode prog_30_method_5_code 39 = .ok (.if_icmp .ge 12, 3) := by decide +kernel
theorem d4_42 : decode prog_30_method_5_code 42 = .ok (.aload 4, 2) := by decide +kernel
theorem d4_44 : decode prog_30_method_5_code 44 = .ok (.iload_n 3, 1) := by decide +kernel
theorem d4_45 : decode prog_30_method_5_code 45 = .ok (.iload_n 1, 1) := by decide +kernel
theorem d4_46 : decode prog_30_method_5_code 46 = .ok (.i2b, 1) := by decide +kernel
theorem d4_47 : decode prog_30_method_5_code 47 = .ok (.bastore, 1) := by decide +kernel
theorem d4_48 : decode prog_30_method_5_code 48 = .ok (.goto 11, 3) := by decide +kernel
theorem d4_59 : decode prog_30_method_5_code 59 = .ok (.aload_n 0, 1) := by decide +kernel
theorem d4_60 : decode prog_30_method_5_code 60 = .ok (.dup, 1) := by decide +kernel
theorem d4_61 : decode prog_30_method_5_code 61 = .ok (.getfield 21, 3) := by decide +kernel
theorem d4_64 : decode prog_30_method_5_code 64 = .ok (.iconst 1, 1) := by decide +kernel
theorem d4_65 : decode prog_30_method_5_code 65 = .ok (.iadd, 1) := by decide +kernel
theorem d4_66 : decode prog_30_method_5_code 66 = .ok (.putfield 21, 3) := by decide +kernel
theorem d4_69 : decode prog_30_method_5_code 69 = .ok (.return_, 1) := by decide +kernel
theorem pn4 : plainName "com/example/xrefloom/xrefloom/tree/CompactText" = true := by first | (simp [plainName, overriddenIn]; done) | decide +kernel
theorem pd0 : parseMethodDescriptor "(II)V" = some ⟨[.int, .int], none⟩ := by decide +kernel
theorem ef_apN0 (m : MethodId) (r0 : Addr) (p1 : Int32) : entryFrame m #[(.ref r0), (.int p1)] 5 = mkF m 0 #[.val (.ref r0), .val (.int p1), .unset, .unset, .unset] [] := by first | (simp [entryFrame, mkF, argsToLocals, Value.category]; done) | rfl
set_option maxRecDepth 65536 in
set_option maxHeartbeats 40000000 in
theorem apN0 (l : Launch) (Z : State) (a0 : Array Value) (hw : ∀ d ∈ tables_1, d.before a0 Z = true) (ws : List Jvm.Cond) (r0 : Addr) (p1 : Int32) (nb : Addr) (h0 : Heap) (n0 : Nat) (Z0 : n0 ≤ h0.size) (G : own_N Z h0 n0 r0 (0 : Int32) (0 : Int32) (0 : Int32) (0 : Int32) nb) (hc : p1 < (256 : Int32)) :
    MetFree l (⟨"com/example/xrefloom/xrefloom/tree/CompactText", "append", "(C)V"⟩ : MethodName) (head1 (Jvm.Cond.code (⟨"com/example/xrefloom/xrefloom/tree/CompactText", "append", "(C)V"⟩ : MethodName) prog_30_method_5_code 5 none :: ws) ({ frames := 1, cells := 0, slots := 0, locals := 14 } : Room)) (fun a U => a = #[(.ref r0), (.int p1)] ∧ Z.Warmed39 U.vm ∧ U.heap = h0) (fun _ _ _ _ _ => True) (fun _ U o U' => ∃ v L, o = .returned v ∧ (own_QE (fun h a => own_N Z h n0 r0 (1 : Int32) (nar .byte (p1.toInt8.toInt32)) (0 : Int32) (0 : Int32) a) none n0) v U'.heap L ∧ FrameEnd U o U' L 0 0) := by
  refine MetFree.of_bodySF (plainFor_of_name pn4) hisR ?_
  intro p e s m args below meth c s₁ Bd hml0 hP hK
  obtain ⟨rfl, hZ, hh⟩ := hP
  have hx := Bd.exec
  have hby := Bd.bytes
  have hml : c.maxLocals = 5 := hml0
  have hown : s.vm.findClass "com/example/xrefloom/xrefloom/tree/CompactText" = some m.cls := findClass_of_methodNamed Bd.named
  have hnm := (name_of_methodNamed Bd.named Bd.method).1
  have X0 : Stand p l e ({ frames := 1, cells := 0, slots := 0, locals := 14 } : Room) s m #[(.ref r0), (.int p1)] below meth c s₁ [] 0 0 := Stand.of_body Bd
  have e0 : s₁.heap = h0 := by rw [← hh, Bd.state]; rfl
  have N0 := Fr.nil n0
  obtain ⟨gn_r0, E_r0, F_length, na, wa, kn, kw, kb, gn_na, gn_wa, gn_nb, ne_r0_na, ne_r0_wa, ne_r0_nb, ne_na_wa, ne_na_nb, ne_wa_nb, F_narrow, F_wide, Ov, V_na, V_wa, V_nb⟩ := id G
  show own_Goes p e below (own_End s (own_QE (fun h a => own_N Z h n0 r0 (1 : Int32) (nar .byte (p1.toInt8.toInt32)) (0 : Int32) (0 : Int32) a) none n0) 0 0) _
  refine own_go (G := s₁.setTop (mkF m 0 #[.val (.ref r0), .val (.int p1), .unset, .unset, .unset] [])) (fun t k => castTop (ef_apN0 m r0 p1) k) ?_
  refine own_go (G := s₁.setTop (mkF m 1 #[.val (.ref r0), .val (.int p1), .unset, .unset, .unset] [(.ref r0)])) (fun _ k => XS.aloadN X0.here hx rfl (hb hby d4_0) rfl rfl k) ?_
  obtain ⟨T1, X1, e1, st1⟩ := getF X0 hx hZ hown (host := "") (Or.inl (hw _ (List.mem_of_getElem? (i := 29) rfl))) Via.refl e0 F_length (g := (mkF m 1 #[.val (.ref r0), .val (.int p1), .unset, .unset, .unset] [(.ref r0)])) rfl rfl (hb hby d4_1)
  refine own_go (G := T1.setTop (mkF m 4 #[.val (.ref r0), .val (.int p1), .unset, .unset, .unset] [(.int (0 : Int32))])) (st1) ?_
  refine own_go (G := T1.setTop (mkF m 6 #[.val (.ref r0), .val (.int p1), .unset, .unset, .unset] [(.int (16 : Int32)), (.int (0 : Int32))])) (fun _ k => XS.bipush X1.here hx rfl (hb hby d4_4) k) ?_
  refine own_go (G := T1.setTop (mkF m 7 #[.val (.ref r0), .val (.int p1), .unset, .unset, .unset] [(.int (((0 : Int32).toUInt32 >>> ((16 : Int32) &&& 31).toUInt32).toInt32))])) (fun _ k => XS.iushr X1.here hx rfl (hb hby d4_6) rfl k) ?_
  rw [show (((0 : Int32).toUInt32 >>> ((16 : Int32) &&& 31).toUInt32).toInt32) = (0 : Int32) from by decide]
  refine own_go (G := T1.setTop (mkF m 8 #[.val (.ref r0), .val (.int p1), .val (.int (0 : Int32)), .unset, .unset] [])) (fun _ k => XS.istoreN X1.here hx rfl (hb hby d4_7) rfl (l' := #[.val (.ref r0), .val (.int p1), .val (.int (0 : Int32)), .unset, .unset]) rfl k) ?_
  refine own_go (G := T1.setTop (mkF m 9 #[.val (.ref r0), .val (.int p1), .val (.int (0 : Int32)), .unset, .unset] [(.ref r0)])) (fun _ k => XS.aloadN X1.here hx rfl (hb hby d4_8) rfl rfl k) ?_
  obtain ⟨T2, X2, e2, st2⟩ := getF X1 hx hZ hown (host := "") (Or.inl (hw _ (List.mem_of_getElem? (i := 29) rfl))) Via.refl e1 F_length (g := (mkF m 9 #[.val (.ref r0), .val (.int p1), .val (.int (0 : Int32)), .unset, .unset] [(.ref r0)])) rfl rfl (hb hby d4_9)
  refine own_go (G := T2.setTop (mkF m 12 #[.val (.ref r0), .val (.int p1), .val (.int (0 : Int32)), .unset, .unset] [(.int (0 : Int32))])) (st2) ?_
  refine own_go (G := T2.setTop (mkF m 14 #[.val (.ref r0), .val (.int p1), .val (.int (0 : Int32)), .unset, .unset] [(.int (65535 : Int32)), (.int (0 : Int32))])) (X2.ldcInt hx hown (mvT hZ (hw _ (List.mem_of_getElem? (i := 31) rfl))) (g := (mkF m 12 #[.val (.ref r0), .val (.int p1), .val (.int (0 : Int32)), .unset, .unset] [(.int (0 : Int32))])) rfl (hb hby d4_12)) ?_
  refine own_go (G := T2.setTop (mkF m 15 #[.val (.ref r0), .val (.int p1), .val (.int (0 : Int32)), .unset, .unset] [(.int ((0 : Int32) &&& (65535 : Int32)))])) (fun _ k => XS.iand X2.here hx rfl (hb hby d4_14) rfl k) ?_
  rw [show ((0 : Int32) &&& (65535 : Int32)) = (0 : Int32) from by decide]
  refine own_go (G := T2.setTop (mkF m 16 #[.val (.ref r0), .val (.int p1), .val (.int (0 : Int32)), .val (.int (0 : Int32)), .unset] [])) (fun _ k => XS.istoreN X2.here hx rfl (hb hby d4_15) rfl (l' := #[.val (.ref r0), .val (.int p1), .val (.int (0 : Int32)), .val (.int (0 : Int32)), .unset]) rfl k) ?_
  refine own_go (G := T2.setTop (mkF m 17 #[.val (.ref r0), .val (.int p1), .val (.int (0 : Int32)), .val (.int (0 : Int32)), .unset] [(.ref r0)])) (fun _ k => XS.aloadN X2.here hx rfl (hb hby d4_16) rfl rfl k) ?_
  refine own_go (G := T2.setTop (mkF m 18 #[.val (.ref r0), .val (.int p1), .val (.int (0 : Int32)), .val (.int (0 : Int32)), .unset] [(.int (0 : Int32)), (.ref r0)])) (fun _ k => XS.iloadN X2.here hx rfl (hb hby d4_17) rfl k) ?_
  refine own_go (G := T2.setTop (mkF m 19 #[.val (.ref r0), .val (.int p1), .val (.int (0 : Int32)), .val (.int (0 : Int32)), .unset] [(.int (0 : Int32)), (.int (0 : Int32)), (.ref r0)])) (fun _ k => XS.iloadN X2.here hx rfl (hb hby d4_18) rfl k) ?_
  obtain ⟨cq3, qk3, qk3'⟩ := E_r0.cell
  obtain ⟨_, _, ⟨T3, L3, k3, n3⟩, -, X3, ⟨Lc3, hQ3, l3, y3, z3⟩, st3⟩ := X2.privateBack hx (y := (⟨"com/example/xrefloom/xrefloom/tree/CompactText", "makeRoom", "(II)V"⟩ : MethodName)) hown (mvT hZ (hw _ (List.mem_of_getElem? (i := 32) rfl))) (mvT hZ (hw _ (List.mem_of_getElem? (i := 33) rfl))) (mvT hZ (own_selPriv (hw _ (List.mem_of_getElem? (i := 33) rfl)) (hw _ (List.mem_of_getElem? (i := 34) rfl)) (hw _ (List.mem_of_getElem? (i := 27) rfl)) rfl (by decide))) (Cond.privateMethod_at (mvP hZ (hw _ (List.mem_of_getElem? (i := 34) rfl)) (args := #[]))) (mvT hZ (hw _ (List.mem_of_getElem? (i := 35) rfl))) (by decide) (backOf (W := 0) (mrN0 l Z a0 hw [] r0 (0 : Int32) (0 : Int32) (0 : Int32) nb h0 n0 Z0 G) hZ (hw _ (List.mem_of_getElem? (i := 35) rfl)) (hw _ (List.mem_of_getElem? (i := 7) rfl)) (by decide) (by decide)) (g := (mkF m 19 #[.val (.ref r0), .val (.int p1), .val (.int (0 : Int32)), .val (.int (0 : Int32)), .unset] [(.int (0 : Int32)), (.int (0 : Int32)), (.ref r0)])) rfl (by rw [hml]; rfl) (Steps.refl _) (a := r0) (by rw [e2]; exact qk3) qk3' (argsL := [(.int (0 : Int32)), (.int (0 : Int32))]) (rest := []) (lenOf pd0 rfl) rfl (by show 2 * 0 + _ ≤ _; exact Nat.le_of_eq rfl) (hb hby d4_19) (fun _ _ => ⟨rfl, e2, (by decide : 0 + 0 ≤ _), (by decide : 0 + 0 ≤ _)⟩)
  dsimp only [Pt.U, Pt.locs, Pt.cells, Pt.slots] at X3 l3 y3 z3 st3 hQ3
  subst l3 y3 z3
  obtain ⟨rfl, Nq3, e3⟩ := hQ3
  have N3 := Fr.app N0 Nq3
  refine own_go (G := T3.setTop (mkF m 22 #[.val (.ref r0), .val (.int p1), .val (.int (0 : Int32)), .val (.int (0 : Int32)), .unset] [])) (fun _ k => st3.trans k) ?_
  refine own_go (G := T3.setTop (mkF m 23 #[.val (.ref r0), .val (.int p1), .val (.int (0 : Int32)), .val (.int (0 : Int32)), .unset] [(.ref r0)])) (fun _ k => XS.aloadN X3.here hx rfl (hb hby d4_22) rfl rfl k) ?_
  obtain ⟨T4, X4, e4, st4⟩ := getF X3 hx hZ hown (host := "") (Or.inl (hw _ (List.mem_of_getElem? (i := 18) rfl))) Via.refl e3 F_narrow (g := (mkF m 23 #[.val (.ref r0), .val (.int p1), .val (.int (0 : Int32)), .val (.int (0 : Int32)), .unset] [(.ref r0)])) rfl rfl (hb hby d4_23)
  refine own_go (G := T4.setTop (mkF m 26 #[.val (.ref r0), .val (.int p1), .val (.int (0 : Int32)), .val (.int (0 : Int32)), .unset] [(.ref na)])) (st4) ?_
  refine own_go (G := T4.setTop (mkF m 27 #[.val (.ref r0), .val (.int p1), .val (.int (0 : Int32)), .val (.int (0 : Int32)), .unset] [(.int (0 : Int32)), (.ref na)])) (fun _ k => XS.iloadN X4.here hx rfl (hb hby d4_26) rfl k) ?_
  obtain ⟨cl5, Ar5, qk5, S5, N5_, Ha5, G5⟩ := id V_na
  have hin5 : ¬ ((0 : Int32) < 0 ∨ cl5.slots.size ≤ ((0 : Int32)).toNatClampNeg) := inb_of S5 ⟨by decide, by decide⟩
  have hat5 : cl5.slots[((0 : Int32)).toNatClampNeg]? = some (.ref nb) := Ha5.at hin5 rfl
  refine own_go (G := T4.setTop (mkF m 28 #[.val (.ref r0), .val (.int p1), .val (.int (0 : Int32)), .val (.int (0 : Int32)), .unset] [(.ref nb)])) (X4.aaload hx (j := (0 : Int32)) (v := (.ref nb)) (by rw [e4]; exact Ar5.1) (State.isArrayOf_alike hZ.alike Ar5.2.1) rfl Ar5.2.2 hin5 hat5 (g := (mkF m 27 #[.val (.ref r0), .val (.int p1), .val (.int (0 : Int32)), .val (.int (0 : Int32)), .unset] [(.int (0 : Int32)), (.ref na)])) rfl rfl (hb hby d4_27)) ?_
  refine own_go (G := T4.setTop (mkF m 30 #[.val (.ref r0), .val (.int p1), .val (.int (0 : Int32)), .val (.int (0 : Int32)), .val (.ref nb)] [])) (fun _ k => XS.astore X4.here hx rfl (hb hby d4_28) rfl rfl (l' := #[.val (.ref r0), .val (.int p1), .val (.int (0 : Int32)), .val (.int (0 : Int32)), .val (.ref nb)]) rfl k) ?_
  refine own_go (G := T4.setTop (mkF m 32 #[.val (.ref r0), .val (.int p1), .val (.int (0 : Int32)), .val (.int (0 : Int32)), .val (.ref nb)] [(.ref nb)])) (fun _ k => XS.aload X4.here hx rfl (hb hby d4_30) rfl rfl k) ?_
  refine own_go (G := T4.setTop (mkF m 35 #[.val (.ref r0), .val (.int p1), .val (.int (0 : Int32)), .val (.int (0 : Int32)), .val (.ref nb)] [])) (fun _ k => XS.ifnullNo X4.here hx rfl (hb hby d4_32) rfl k) ?_
  refine own_go (G := T4.setTop (mkF m 36 #[.val (.ref r0), .val (.int p1), .val (.int (0 : Int32)), .val (.int (0 : Int32)), .val (.ref nb)] [(.int p1)])) (fun _ k => XS.iloadN X4.here hx rfl (hb hby d4_35) rfl k) ?_
  refine own_go (G := T4.setTop (mkF m 39 #[.val (.ref r0), .val (.int p1), .val (.int (0 : Int32)), .val (.int (0 : Int32)), .val (.ref nb)] [(.int (256 : Int32)), (.int p1)])) (fun _ k => XS.sipush X4.here hx rfl (hb hby d4_36) k) ?_
  refine own_go (G := T4.setTop (mkF m 42 #[.val (.ref r0), .val (.int p1), .val (.int (0 : Int32)), .val (.int (0 : Int32)), .val (.ref nb)] [])) (fun _ k => XS.icmpNo X4.here hx rfl (hb hby d4_39) rfl (tlt (hc : p1 < (256 : Int32))).2.1 k) ?_
  refine own_go (G := T4.setTop (mkF m 44 #[.val (.ref r0), .val (.int p1), .val (.int (0 : Int32)), .val (.int (0 : Int32)), .val (.ref nb)] [(.ref nb)])) (fun _ k => XS.aload X4.here hx rfl (hb hby d4_42) rfl rfl k) ?_
  refine own_go (G := T4.setTop (mkF m 45 #[.val (.ref r0), .val (.int p1), .val (.int (0 : Int32)), .val (.int (0 : Int32)), .val (.ref nb)] [(.int (0 : Int32)), (.ref nb)])) (fun _ k => XS.iloadN X4.here hx rfl (hb hby d4_44) rfl k) ?_
  refine own_go (G := T4.setTop (mkF m 46 #[.val (.ref r0), .val (.int p1), .val (.int (0 : Int32)), .val (.int (0 : Int32)), .val (.ref nb)] [(.int p1), (.int (0 : Int32)), (.ref nb)])) (fun _ k => XS.iloadN X4.here hx rfl (hb hby d4_45) rfl k) ?_
  refine own_go (G := T4.setTop (mkF m 47 #[.val (.ref r0), .val (.int p1), .val (.int (0 : Int32)), .val (.int (0 : Int32)), .val (.ref nb)] [(.int (p1.toInt8.toInt32)), (.int (0 : Int32)), (.ref nb)])) (fun _ k => XS.i2b X4.here hx rfl (hb hby d4_46) rfl k) ?_
  obtain ⟨cl6, Ar6, qk6, S6, N6_, Ha6, G6⟩ := id V_nb
  have hin6 : ¬ ((0 : Int32) < 0 ∨ cl6.slots.size ≤ ((0 : Int32)).toNatClampNeg) := inb_of S6 ⟨by decide, by decide⟩
  obtain ⟨T6, h6, X6, e6, W6, st6⟩ := stB X4 hx hZ e4 Ar6 (j := (0 : Int32)) hin6 (g := (mkF m 47 #[.val (.ref r0), .val (.int p1), .val (.int (0 : Int32)), .val (.int (0 : Int32)), .val (.ref nb)] [(.int (p1.toInt8.toInt32)), (.int (0 : Int32)), (.ref nb)])) rfl rfl (hb hby d4_47)
  have V6_nb : Arv Z h6 nb kb .byte (64 : Int32) (own_B (nar .byte (p1.toInt8.toInt32)) (0 : Int32) (0 : Int32)) (.int (0 : Int32)) := Arv.set Ar6 qk6 S6 N6_ Ha6 G6 (fits_nar_byte _) W6 0 rfl (Nat.le_of_ble_eq_true rfl)
  have E_r0_c6 : Exa Z h6 r0 "com/example/xrefloom/xrefloom/tree/CompactText" := E_r0.wr W6
  have F_length_c6 : Fld Z h6 r0 "com/example/xrefloom/xrefloom/tree/CompactText" "length" "I" (.int (0 : Int32)) := F_length.other W6 (Or.inl ne_r0_nb)
  have F_narrow_c6 : Fld Z h6 r0 "com/example/xrefloom/xrefloom/tree/CompactText" "narrow" "[[B" (.ref na) := F_narrow.other W6 (Or.inl ne_r0_nb)
  have F_wide_c6 : Fld Z h6 r0 "com/example/xrefloom/xrefloom/tree/CompactText" "wide" "[[C" (.ref wa) := F_wide.other W6 (Or.inl ne_r0_nb)
  have V_na_c6 : Arv Z h6 na kn (.array .byte) (1 : Int32) [(.ref nb)] .null := V_na.other W6 ne_na_nb
  have V_wa_c6 : Arv Z h6 wa kw (.array .char) (1 : Int32) [.null] .null := V_wa.other W6 ne_wa_nb
  have N6 := Fr.snoc X6 N3 gn_nb
  have Z6 : n0 ≤ h6.size := Nat.le_trans Z0 (Keep.of_wr W6).1
  refine own_go (G := T6.setTop (mkF m 48 #[.val (.ref r0), .val (.int p1), .val (.int (0 : Int32)), .val (.int (0 : Int32)), .val (.ref nb)] [])) (st6) ?_
  refine own_go (G := T6.setTop (mkF m 59 #[.val (.ref r0), .val (.int p1), .val (.int (0 : Int32)), .val (.int (0 : Int32)), .val (.ref nb)] [])) (fun _ k => XS.goto X6.here hx rfl (pc0 := 48) (pc' := 59) rfl (hb hby d4_48) (by decide) (by decide) k) ?_
  refine own_go (G := T6.setTop (mkF m 60 #[.val (.ref r0), .val (.int p1), .val (.int (0 : Int32)), .val (.int (0 : Int32)), .val (.ref nb)] [(.ref r0)])) (fun _ k => XS.aloadN X6.here hx rfl (hb hby d4_59) rfl rfl k) ?_
  refine own_go (G := T6.setTop (mkF m 61 #[.val (.ref r0), .val (.int p1), .val (.int (0 : Int32)), .val (.int (0 : Int32)), .val (.ref nb)] [(.ref r0), (.ref r0)])) (fun _ k => XS.dup X6.here hx rfl (hb hby d4_60) rfl rfl k) ?_
  obtain ⟨T7, X7, e7, st7⟩ := getF X6 hx hZ hown (host := "") (Or.inl (hw _ (List.mem_of_getElem? (i := 29) rfl))) Via.refl e6 F_length_c6 (g := (mkF m 61 #[.val (.ref r0), .val (.int p1), .val (.int (0 : Int32)), .val (.int (0 : Int32)), .val (.ref nb)] [(.ref r0), (.ref r0)])) rfl rfl (hb hby d4_61)
  refine own_go (G := T7.setTop (mkF m 64 #[.val (.ref r0), .val (.int p1), .val (.int (0 : Int32)), .val (.int (0 : Int32)), .val (.ref nb)] [(.int (0 : Int32)), (.ref r0)])) (st7) ?_
  refine own_go (G := T7.setTop (mkF m 65 #[.val (.ref r0), .val (.int p1), .val (.int (0 : Int32)), .val (.int (0 : Int32)), .val (.ref nb)] [(.int (1 : Int32)), (.int (0 : Int32)), (.ref r0)])) (fun _ k => XS.iconst X7.here hx rfl (hb hby d4_64) k) ?_
  refine own_go (G := T7.setTop (mkF m 66 #[.val (.ref r0), .val (.int p1), .val (.int (0 : Int32)), .val (.int (0 : Int32)), .val (.ref nb)] [(.int ((0 : Int32) + (1 : Int32))), (.ref r0)])) (fun _ k => XS.iadd X7.here hx rfl (hb hby d4_65) rfl k) ?_
  rw [show ((0 : Int32) + (1 : Int32)) = (1 : Int32) from by decide]
  obtain ⟨T8, h8, X8, e8, W8, st8⟩ := putF X7 hx hZ hown (host := "") (Or.inl (hw _ (List.mem_of_getElem? (i := 29) rfl))) Via.refl e7 F_length_c6 E_r0_c6 (Or.inl (hw _ (List.mem_of_getElem? (i := 30) rfl))) (hw _ (List.mem_of_getElem? (i := 6) rfl)) (ty := .int) (by decide) rfl rfl (g := (mkF m 66 #[.val (.ref r0), .val (.int p1), .val (.int (0 : Int32)), .val (.int (0 : Int32)), .val (.ref nb)] [(.int (1 : Int32)), (.ref r0)])) rfl rfl (hb hby d4_66)
  have E_r0_c8 : Exa Z h8 r0 "com/example/xrefloom/xrefloom/tree/CompactText" := E_r0_c6.wr W8
  have F_narrow_c8 : Fld Z h8 r0 "com/example/xrefloom/xrefloom/tree/CompactText" "narrow" "[[B" (.ref na) := F_narrow_c6.other W8 (Or.inr (slot_ne (Or.inl (hw _ (List.mem_of_getElem? (i := 19) rfl))) (Or.inl (hw _ (List.mem_of_getElem? (i := 30) rfl))) (by decide) (t := (.array (.array .byte))) (t' := .int) (by decide) (by decide)))
  have F_wide_c8 : Fld Z h8 r0 "com/example/xrefloom/xrefloom/tree/CompactText" "wide" "[[C" (.ref wa) := F_wide_c6.other W8 (Or.inr (slot_ne (Or.inl (hw _ (List.mem_of_getElem? (i := 23) rfl))) (Or.inl (hw _ (List.mem_of_getElem? (i := 30) rfl))) (by decide) (t := (.array (.array .char))) (t' := .int) (by decide) (by decide)))
  have V_na_c8 : Arv Z h8 na kn (.array .byte) (1 : Int32) [(.ref nb)] .null := V_na_c6.other W8 (Ne.symm ne_r0_na)
  have V_wa_c8 : Arv Z h8 wa kw (.array .char) (1 : Int32) [.null] .null := V_wa_c6.other W8 (Ne.symm ne_r0_wa)
  have V6_nb_c8 : Arv Z h8 nb kb .byte (64 : Int32) (own_B (nar .byte (p1.toInt8.toInt32)) (0 : Int32) (0 : Int32)) (.int (0 : Int32)) := V6_nb.other W8 (Ne.symm ne_r0_nb)
  have Fw8_length : Fld Z h8 r0 "com/example/xrefloom/xrefloom/tree/CompactText" "length" "I" (.int (1 : Int32)) := F_length_c6.same W8
  have N8 := Fr.snoc X8 N6 gn_r0
  have Z8 : n0 ≤ h8.size := Nat.le_trans Z6 (Keep.of_wr W8).1
  refine own_go (G := T8.setTop (mkF m 69 #[.val (.ref r0), .val (.int p1), .val (.int (0 : Int32)), .val (.int (0 : Int32)), .val (.ref nb)] [])) (st8) ?_
  exact own_retV X8 hx Bd.returns (hb hby d4_69) Bd.notSynchronized (by decide) (by decide) (by rw [e8]; exact ⟨rfl, N8, Z8, nb, ⟨gn_r0, E_r0_c8, Fw8_length, na, wa, kn, kw, kb, gn_na, gn_wa, gn_nb, ne_r0_na, ne_r0_wa, ne_r0_nb, ne_na_wa, ne_na_nb, ne_wa_nb, F_narrow_c8, F_wide_c8, Ov, V_na_c8, V_wa_c8, V6_nb_c8⟩⟩)
theorem ef_apN1 (m : MethodId) (r0 : Addr) (p1 : Int32) : entryFrame m #[(.ref r0), (.int p1)] 5 = mkF m 0 #[.val (.ref r0), .val (.int p1), .unset, .unset, .unset] [] := by first | (simp [entryFrame, mkF, argsToLocals, Value.category]; done) | rfl
set_option maxRecDepth 65536 in
set_option maxHeartbeats 40000000 in
theorem apN1 (l : Launch) (Z : State) (a0 : Array Value) (hw : ∀ d ∈ tables_1, d.before a0 Z = true) (ws : List Jvm.Cond) (r0 : Addr) (p1 : Int32) (x0 : Int32) (nb : Addr) (h0 : Heap) (n0 : Nat) (Z0 : n0 ≤ h0.size) (G : own_N Z h0 n0 r0 (1 : Int32) x0 (0 : Int32) (0 : Int32) nb) (hc : p1 < (256 : Int32)) :
    MetFree l (⟨"com/example/xrefloom/xrefloom/tree/CompactText", "append", "(C)V"⟩ : MethodName) (head1 (Jvm.Cond.code (⟨"com/example/xrefloom/xrefloom/tree/CompactText", "append", "(C)V"⟩ : MethodName) prog_30_method_5_code 5 none :: ws) ({ frames := 1, cells := 0, slots := 0, locals := 14 } : Room)) (fun a U => a = #[(.ref r0), (.int p1)] ∧ Z.Warmed39 U.vm ∧ U.heap = h0) (fun _ _ _ _ _ => True) (fun _ U o U' => ∃ v L, o = .returned v ∧ (own_QE (fun h a => own_N Z h n0 r0 (2 : Int32) x0 (nar .byte (p1.toInt8.toInt32)) (0 : Int32) a) none n0) v U'.heap L ∧ FrameEnd U o U' L 0 0) := by
  refine MetFree.of_bodySF (plainFor_of_name pn4) hisR ?_
  intro p e s m args below meth c s₁ Bd hml0 hP hK
  obtain ⟨rfl, hZ, hh⟩ := hP
  have hx := Bd.exec
  have hby := Bd.bytes
  have hml : c.maxLocals = 5 := hml0
  have hown : s.vm.findClass "com/example/xrefloom/xrefloom/tree/CompactText" = some m.cls := findClass_of_methodNamed Bd.named
  have hnm := (name_of_methodNamed Bd.named Bd.method).1
  have X0 : Stand p l e ({ frames := 1, cells := 0, slots := 0, locals := 14 } : Room) s m #[(.ref r0), (.int p1)] below meth c s₁ [] 0 0 := Stand.of_body Bd
  have e0 : s₁.heap = h0 := by rw [← hh, Bd.state]; rfl
  have N0 := Fr.nil n0
  obtain ⟨gn_r0, E_r0, F_length, na, wa, kn, kw, kb, gn_na, gn_wa, gn_nb, ne_r0_na, ne_r0_wa, ne_r0_nb, ne_na_wa, ne_na_nb, ne_wa_nb, F_narrow, F_wide, Ov, V_na, V_wa, V_nb⟩ := id G
  show own_Goes p e below (own_End s (own_QE (fun h a => own_N Z h n0 r0 (2 : Int32) x0 (nar .byte (p1.toInt8.toInt32)) (0 : Int32) a) none n0) 0 0) _
  refine own_go (G := s₁.setTop (mkF m 0 #[.val (.ref r0), .val (.int p1), .unset, .unset, .unset] [])) (fun t k => castTop (ef_apN1 m r0 p1) k) ?_
  refine own_go (G := s₁.setTop (mkF m 1 #[.val (.ref r0), .val (.int p1), .unset, .unset, .unset] [(.ref r0)])) (fun _ k => XS.aloadN X0.here hx rfl (hb hby d4_0) rfl rfl k) ?_
  obtain ⟨T1, X1, e1, st1⟩ := getF X0 hx hZ hown (host := "") (Or.inl (hw _ (List.mem_of_getElem? (i := 29) rfl))) Via.refl e0 F_length (g := (mkF m 1 #[.val (.ref r0), .val (.int p1), .unset, .unset, .unset] [(.ref r0)])) rfl rfl (hb hby d4_1)
  refine own_go (G := T1.setTop (mkF m 4 #[.val (.ref r0), .val (.int p1), .unset, .unset, .unset] [(.int (1 : Int32))])) (st1) ?_
  refine own_go (G := T1.setTop (mkF m 6 #[.val (.ref r0), .val (.int p1), .unset, .unset, .unset] [(.int (16 : Int32)), (.int (1 : Int32))])) (fun _ k => XS.bipush X1.here hx rfl (hb hby d4_4) k) ?_
  refine own_go (G := T1.setTop (mkF m 7 #[.val (.ref r0), .val (.int p1), .unset, .unset, .unset] [(.int (((1 : Int32).toUInt32 >>> ((16 : Int32) &&& 31).toUInt32).toInt32))])) (fun _ k => XS.iushr X1.here hx rfl (hb hby d4_6) rfl k) ?_
  rw [show (((1 : Int32).toUInt32 >>> ((16 : Int32) &&& 31).toUInt32).toInt32) = (0 : Int32) from by decide]
  refine own_go (G := T1.setTop (mkF m 8 #[.val (.ref r0), .val (.int p1), .val (.int (0 : Int32)), .unset, .unset] [])) (fun _ k => XS.istoreN X1.here hx rfl (hb hby d4_7) rfl (l' := #[.val (.ref r0), .val (.int p1), .val (.int (0 : Int32)), .unset, .unset]) rfl k) ?_
  refine own_go (G := T1.setTop (mkF m 9 #[.val (.ref r0), .val (.int p1), .val (.int (0 : Int32)), .unset, .unset] [(.ref r0)])) (fun _ k => XS.aloadN X1.here hx rfl (hb hby d4_8) rfl rfl k) ?_
  obtain ⟨T2, X2, e2, st2⟩ := getF X1 hx hZ hown (host := "") (Or.inl (hw _ (List.mem_of_getElem? (i := 29) rfl))) Via.refl e1 F_length (g := (mkF m 9 #[.val (.ref r0), .val (.int p1), .val (.int (0 : Int32)), .unset, .unset] [(.ref r0)])) rfl rfl (hb hby d4_9)
  refine own_go (G := T2.setTop (mkF m 12 #[.val (.ref r0), .val (.int p1), .val (.int (0 : Int32)), .unset, .unset] [(.int (1 : Int32))])) (st2) ?_
  refine own_go (G := T2.setTop (mkF m 14 #[.val (.ref r0), .val (.int p1), .val (.int (0 : Int32)), .unset, .unset] [(.int (65535 : Int32)), (.int (1 : Int32))])) (X2.ldcInt hx hown (mvT hZ (hw _ (List.mem_of_getElem? (i := 31) rfl))) (g := (mkF m 12 #[.val (.ref r0), .val (.int p1), .val (.int (0 : Int32)), .unset, .unset] [(.int (1 : Int32))])) rfl (hb hby d4_12)) ?_
  refine own_go (G := T2.setTop (mkF m 15 #[.val (.ref r0), .val (.int p1), .val (.int (0 : Int32)), .unset, .unset] [(.int ((1 : Int32) &&& (65535 : Int32)))])) (fun _ k => XS.iand X2.here hx rfl (hb hby d4_14) rfl k) ?_
  rw [show ((1 : Int32) &&& (65535 : Int32)) = (1 : Int32) from by decide]
  refine own_go (G := T2.setTop (mkF m 16 #[.val (.ref r0), .val (.int p1), .val (.int (0 : Int32)), .val (.int (1 : Int32)), .unset] [])) (fun _ k => XS.istoreN X2.here hx rfl (hb hby d4_15) rfl (l' := #[.val (.ref r0), .val (.int p1), .val (.int (0 : Int32)), .val (.int (1 : Int32)), .unset]) rfl k) ?_
  refine own_go (G := T2.setTop (mkF m 17 #[.val (.ref r0), .val (.int p1), .val (.int (0 : Int32)), .val (.int (1 : Int32)), .unset] [(.ref r0)])) (fun _ k => XS.aloadN X2.here hx rfl (hb hby d4_16) rfl rfl k) ?_
  refine own_go (G := T2.setTop (mkF m 18 #[.val (.ref r0), .val (.int p1), .val (.int (0 : Int32)), .val (.int (1 : Int32)), .unset] [(.int (0 : Int32)), (.ref r0)])) (fun _ k => XS.iloadN X2.here hx rfl (hb hby d4_17) rfl k) ?_
  refine own_go (G := T2.setTop (mkF m 19 #[.val (.ref r0), .val (.int p1), .val (.int (0 : Int32)), .val (.int (1 : Int32)), .unset] [(.int (1 : Int32)), (.int (0 : Int32)), (.ref r0)])) (fun _ k => XS.iloadN X2.here hx rfl (hb hby d4_18) rfl k) ?_
  obtain ⟨cq3, qk3, qk3'⟩ := E_r0.cell
  obtain ⟨_, _, ⟨T3, L3, k3, n3⟩, -, X3, ⟨Lc3, hQ3, l3, y3, z3⟩, st3⟩ := X2.privateBack hx (y := (⟨"com/example/xrefloom/xrefloom/tree/CompactText", "makeRoom", "(II)V"⟩ : MethodName)) hown (mvT hZ (hw _ (List.mem_of_getElem? (i := 32) rfl))) (mvT hZ (hw _ (List.mem_of_getElem? (i := 33) rfl))) (mvT hZ (own_selPriv (hw _ (List.mem_of_getElem? (i := 33) rfl)) (hw _ (List.mem_of_getElem? (i := 34) rfl)) (hw _ (List.mem_of_getElem? (i := 27) rfl)) rfl (by decide))) (Cond.privateMethod_at (mvP hZ (hw _ (List.mem_of_getElem? (i := 34) rfl)) (args := #[]))) (mvT hZ (hw _ (List.mem_of_getElem? (i := 35) rfl))) (by decide) (backOf (W := 0) (mrN1 l Z a0 hw [] r0 x0 (0 : Int32) (0 : Int32) nb h0 n0 Z0 G) hZ (hw _ (List.mem_of_getElem? (i := 35) rfl)) (hw _ (List.mem_of_getElem? (i := 7) rfl)) (by decide) (by decide)) (g := (mkF m 19 #[.val (.ref r0), .val (.int p1), .val (.int (0 : Int32)), .val (.int (1 : Int32)), .unset] [(.int (1 : Int32)), (.int (0 : Int32)), (.ref r0)])) rfl (by rw [hml]; rfl) (Steps.refl _) (a := r0) (by rw [e2]; exact qk3) qk3' (argsL := [(.int (0 : Int32)), (.int (1 : Int32))]) (rest := []) (lenOf pd0 rfl) rfl (by show 2 * 0 + _ ≤ _; exact Nat.le_of_eq rfl) (hb hby d4_19) (fun _ _ => ⟨rfl, e2, (by decide : 0 + 0 ≤ _), (by decide : 0 + 0 ≤ _)⟩)
  dsimp only [Pt.U, Pt.locs, Pt.cells, Pt.slots] at X3 l3 y3 z3 st3 hQ3
  subst l3 y3 z3
  obtain ⟨rfl, Nq3, e3⟩ := hQ3
  have N3 := Fr.app N0 Nq3
  refine own_go (G := T3.setTop (mkF m 22 #[.val (.ref r0), .val (.int p1), .val (.int (0 : Int32)), .val (.int (1 : Int32)), .unset] [])) (fun _ k => st3.trans k) ?_
  refine own_go (G := T3.setTop (mkF m 23 #[.val (.ref r0), .val (.int p1), .val (.int (0 : Int32)), .val (.int (1 : Int32)), .unset] [(.ref r0)])) (fun _ k => XS.aloadN X3.here hx rfl (hb hby d4_22) rfl rfl k) ?_
  obtain ⟨T4, X4, e4, st4⟩ := getF X3 hx hZ hown (host := "") (Or.inl (hw _ (List.mem_of_getElem? (i := 18) rfl))) Via.refl e3 F_narrow (g := (mkF m 23 #[.val (.ref r0), .val (.int p1), .val (.int (0 : Int32)), .val (.int (1 : Int32)), .unset] [(.ref r0)])) rfl rfl (hb hby d4_23)
  refine own_go (G := T4.setTop (mkF m 26 #[.val (.ref r0), .val (.int p1), .val (.int (0 : Int32)), .val (.int (1 : Int32)), .unset] [(.ref na)])) (st4) ?_
  refine own_go (G := T4.setTop (mkF m 27 #[.val (.ref r0), .val (.int p1), .val (.int (0 : Int32)), .val (.int (1 : Int32)), .unset] [(.int (0 : Int32)), (.ref na)])) (fun _ k => XS.iloadN X4.here hx rfl (hb hby d4_26) rfl k) ?_
  obtain ⟨cl5, Ar5, qk5, S5, N5_, Ha5, G5⟩ := id V_na
  have hin5 : ¬ ((0 : Int32) < 0 ∨ cl5.slots.size ≤ ((0 : Int32)).toNatClampNeg) := inb_of S5 ⟨by decide, by decide⟩
  have hat5 : cl5.slots[((0 : Int32)).toNatClampNeg]? = some (.ref nb) := Ha5.at hin5 rfl
  refine own_go (G := T4.setTop (mkF m 28 #[.val (.ref r0), .val (.int p1), .val (.int (0 : Int32)), .val (.int (1 : Int32)), .unset] [(.ref nb)])) (X4.aaload hx (j := (0 : Int32)) (v := (.ref nb)) (by rw [e4]; exact Ar5.1) (State.isArrayOf_alike hZ.alike Ar5.2.1) rfl Ar5.2.2 hin5 hat5 (g := (mkF m 27 #[.val (.ref r0), .val (.int p1), .val (.int (0 : Int32)), .val (.int (1 : Int32)), .unset] [(.int (0 : Int32)), (.ref na)])) rfl rfl (hb hby d4_27)) ?_
  refine own_go (G := T4.setTop (mkF m 30 #[.val (.ref r0), .val (.int p1), .val (.int (0 : Int32)), .val (.int (1 : Int32)), .val (.ref nb)] [])) (fun _ k => XS.astore X4.here hx rfl (hb hby d4_28) rfl rfl (l' := #[.val (.ref r0), .val (.int p1), .val (.int (0 : Int32)), .val (.int (1 : Int32)), .val (.ref nb)]) rfl k) ?_
  refine own_go (G := T4.setTop (mkF m 32 #[.val (.ref r0), .val (.int p1), .val (.int (0 : Int32)), .val (.int (1 : Int32)), .val (.ref nb)] [(.ref nb)])) (fun _ k => XS.aload X4.here hx rfl (hb hby d4_30) rfl rfl k) ?_
  refine own_go (G := T4.setTop (mkF m 35 #[.val (.ref r0), .val (.int p1), .val (.int (0 : Int32)), .val (.int (1 : Int32)), .val (.ref nb)] [])) (fun _ k => XS.ifnullNo X4.here hx rfl (hb hby d4_32) rfl k) ?_
  refine own_go (G := T4.setTop (mkF m 36 #[.val (.ref r0), .val (.int p1), .val (.int (0 : Int32)), .val (.int (1 : Int32)), .val (.ref nb)] [(.int p1)])) (fun _ k => XS.iloadN X4.here hx rfl (hb hby d4_35) rfl k) ?_
  refine own_go (G := T4.setTop (mkF m 39 #[.val (.ref r0), .val (.int p1), .val (.int (0 : Int32)), .val (.int (1 : Int32)), .val (.ref nb)] [(.int (256 : Int32)), (.int p1)])) (fun _ k => XS.sipush X4.here hx rfl (hb hby d4_36) k) ?_
  refine own_go (G := T4.setTop (mkF m 42 #[.val (.ref r0), .val (.int p1), .val (.int (0 : Int32)), .val (.int (1 : Int32)), .val (.ref nb)] [])) (fun _ k => XS.icmpNo X4.here hx rfl (hb hby d4_39) rfl (tlt (hc : p1 < (256 : Int32))).2.1 k) ?_
  refine own_go (G := T4.setTop (mkF m 44 #[.val (.ref r0), .val (.int p1), .val (.int (0 : Int32)), .val (.int (1 : Int32)), .val (.ref nb)] [(.ref nb)])) (fun _ k => XS.aload X4.here hx rfl (hb hby d4_42) rfl rfl k) ?_
  refine own_go (G := T4.setTop (mkF m 45 #[.val (.ref r0), .val (.int p1), .val (.int (0 : Int32)), .val (.int (1 : Int32)), .val (.ref nb)] [(.int (1 : Int32)), (.ref nb)])) (fun _ k => XS.iloadN X4.here hx rfl (hb hby d4_44) rfl k) ?_
  refine own_go (G := T4.setTop (mkF m 46 #[.val (.ref r0), .val (.int p1), .val (.int (0 : Int32)), .val (.int (1 : Int32)), .val (.ref nb)] [(.int p1), (.int (1 : Int32)), (.ref nb)])) (fun _ k => XS.iloadN X4.here hx rfl (hb hby d4_45) rfl k) ?_
  refine own_go (G := T4.setTop (mkF m 47 #[.val (.ref r0), .val (.int p1), .val (.int (0 : Int32)), .val (.int (1 : Int32)), .val (.ref nb)] [(.int (p1.toInt8.toInt32)), (.int (1 : Int32)), (.ref nb)])) (fun _ k => XS.i2b X4.here hx rfl (hb hby d4_46) rfl k) ?_
  obtain ⟨cl6, Ar6, qk6, S6, N6_, Ha6, G6⟩ := id V_nb
  have hin6 : ¬ ((1 : Int32) < 0 ∨ cl6.slots.size ≤ ((1 : Int32)).toNatClampNeg) := inb_of S6 ⟨by decide, by decide⟩
  obtain ⟨T6, h6, X6, e6, W6, st6⟩ := stB X4 hx hZ e4 Ar6 (j := (1 : Int32)) hin6 (g := (mkF m 47 #[.val (.ref r0), .val (.int p1), .val (.int (0 : Int32)), .val (.int (1 : Int32)), .val (.ref nb)] [(.int (p1.toInt8.toInt32)), (.int (1 : Int32)), (.ref nb)])) rfl rfl (hb hby d4_47)
  have V6_nb : Arv Z h6 nb kb .byte (64 : Int32) (own_B x0 (nar .byte (p1.toInt8.toInt32)) (0 : Int32)) (.int (0 : Int32)) := Arv.set Ar6 qk6 S6 N6_ Ha6 G6 (fits_nar_byte _) W6 1 rfl (Nat.le_of_ble_eq_true rfl)
  have E_r0_c6 : Exa Z h6 r0 "com/example/xrefloom/xrefloom/tree/CompactText" := E_r0.wr W6
  have F_length_c6 : Fld Z h6 r0 "com/example/xrefloom/xrefloom/tree/CompactText" "length" "I" (.int (1 : Int32)) := F_length.other W6 (Or.inl ne_r0_nb)
  have F_narrow_c6 : Fld Z h6 r0 "com/example/xrefloom/xrefloom/tree/CompactText" "narrow" "[[B" (.ref na) := F_narrow.other W6 (Or.inl ne_r0_nb)
  have F_wide_c6 : Fld Z h6 r0 "com/example/xrefloom/xrefloom/tree/CompactText" "wide" "[[C" (.ref wa) := F_wide.other W6 (Or.inl ne_r0_nb)
  have V_na_c6 : Arv Z h6 na kn (.array .byte) (1 : Int32) [(.ref nb)] .null := V_na.other W6 ne_na_nb
  have V_wa_c6 : Arv Z h6 wa kw (.array .char) (1 : Int32) [.null] .null := V_wa.other W6 ne_wa_nb
  have N6 := Fr.snoc X6 N3 gn_nb
  have Z6 : n0 ≤ h6.size := Nat.le_trans Z0 (Keep.of_wr W6).1
  refine own_go (G := T6.setTop (mkF m 48 #[.val (.ref r0), .val (.int p1), .val (.int (0 : Int32)), .val (.int (1 : Int32)), .val (.ref nb)] [])) (st6) ?_
  refine own_go (G := T6.setTop (mkF m 59 #[.val (.ref r0), .val (.int p1), .val (.int (0 : Int32)), .val (.int (1 : Int32)), .val (.ref nb)] [])) (fun _ k => XS.goto X6.here hx rfl (pc0 := 48) (pc' := 59) rfl (hb hby d4_48) (by decide) (by decide) k) ?_
  refine own_go (G := T6.setTop (mkF m 60 #[.val (.ref r0), .val (.int p1), .val (.int (0 : Int32)), .val (.int (1 : Int32)), .val (.ref nb)] [(.ref r0)])) (fun _ k => XS.aloadN X6.here hx rfl (hb hby d4_59) rfl rfl k) ?_
  refine own_go (G := T6.setTop (mkF m 61 #[.val (.ref r0), .val (.int p1), .val (.int (0 : Int32)), .val (.int (1 : Int32)), .val (.ref nb)] [(.ref r0), (.ref r0)])) (fun _ k => XS.dup X6.here hx rfl (hb hby d4_60) rfl rfl k) ?_
  obtain ⟨T7, X7, e7, st7⟩ := getF X6 hx hZ hown (host := "") (Or.inl (hw _ (List.mem_of_getElem? (i := 29) rfl))) Via.refl e6 F_length_c6 (g := (mkF m 61 #[.val (.ref r0), .val (.int p1), .val (.int (0 : Int32)), .val (.int (1 : Int32)), .val (.ref nb)] [(.ref r0), (.ref r0)])) rfl rfl (hb hby d4_61)
  refine own_go (G := T7.setTop (mkF m 64 #[.val (.ref r0), .val (.int p1), .val (.int (0 : Int32)), .val (.int (1 : Int32)), .val (.ref nb)] [(.int (1 : Int32)), (.ref r0)])) (st7) ?_
  refine own_go (G := T7.setTop (mkF m 65 #[.val (.ref r0), .val (.int p1), .val (.int (0 : Int32)), .val (.int (1 : Int32)), .val (.ref nb)] [(.int (1 : Int32)), (.int (1 : Int32)), (.ref r0)])) (fun _ k => XS.iconst X7.here hx rfl (hb hby d4_64) k) ?_
  refine own_go (G := T7.setTop (mkF m 66 #[.val (.ref r0), .val (.int p1), .val (.int (0 : Int32)), .val (.int (1 : Int32)), .val (.ref nb)] [(.int ((1 : Int32) + (1 : Int32))), (.ref r0)])) (fun _ k => XS.iadd X7.here hx rfl (hb hby d4_65) rfl k) ?_
  rw [show ((1 : Int32) + (1 : Int32)) = (2 : Int32) from by decide]
  obtain ⟨T8, h8, X8, e8, W8, st8⟩ := putF X7 hx hZ hown (host := "") (Or.inl (hw _ (List.mem_of_getElem? (i := 29) rfl))) Via.refl e7 F_length_c6 E_r0_c6 (Or.inl (hw _ (List.mem_of_getElem? (i := 30) rfl))) (hw _ (List.mem_of_getElem? (i := 6) rfl)) (ty := .int) (by decide) rfl rfl (g := (mkF m 66 #[.val (.ref r0), .val (.int p1), .val (.int (0 : Int32)), .val (.int (1 : Int32)), .val (.ref nb)] [(.int (2 : Int32)), (.ref r0)])) rfl rfl (hb hby d4_66)
  have E_r0_c8 : Exa Z h8 r0 "com/example/xrefloom/xrefloom/tree/CompactText" := E_r0_c6.wr W8
  have F_narrow_c8 : Fld Z h8 r0 "com/example/xrefloom/xrefloom/tree/CompactText" "narrow" "[[B" (.ref na) := F_narrow_c6.other W8 (Or.inr (slot_ne (Or.inl (hw _ (List.mem_of_getElem? (i := 19) rfl))) (Or.inl (hw _ (List.mem_of_getElem? (i := 30) rfl))) (by decide) (t := (.array (.array .byte))) (t' := .int) (by decide) (by decide)))
  have F_wide_c8 : Fld Z h8 r0 "com/example/xrefloom/xrefloom/tree/CompactText" "wide" "[[C" (.ref wa) := F_wide_c6.other W8 (Or.inr (slot_ne (Or.inl (hw _ (List.mem_of_getElem? (i := 23) rfl))) (Or.inl (hw _ (List.mem_of_getElem? (i := 30) rfl))) (by decide) (t := (.array (.array .char))) (t' := .int) (by decide) (by decide)))
  have V_na_c8 : Arv Z h8 na kn (.array .byte) (1 : Int32) [(.ref nb)] .null := V_na_c6.other W8 (Ne.symm ne_r0_na)
  have V_wa_c8 : Arv Z h8 wa kw (.array .char) (1 : Int32) [.null] .null := V_wa_c6.other W8 (Ne.symm ne_r0_wa)
  have V6_nb_c8 : Arv Z h8 nb kb .byte (64 : Int32) (own_B x0 (nar .byte (p1.toInt8.toInt32)) (0 : Int32)) (.int (0 : Int32)) := V6_nb.other W8 (Ne.symm ne_r0_nb)
  have Fw8_length : Fld Z h8 r0 "com/example/xrefloom/xrefloom/tree/CompactText" "length" "I" (.int (2 : Int32)) := F_length_c6.same W8
  have N8 := Fr.snoc X8 N6 gn_r0
  have Z8 : n0 ≤ h8.size := Nat.le_trans Z6 (Keep.of_wr W8).1
  refine own_go (G := T8.setTop (mkF m 69 #[.val (.ref r0), .val (.int p1), .val (.int (0 : Int32)), .val (.int (1 : Int32)), .val (.ref nb)] [])) (st8) ?_
  exact own_retV X8 hx Bd.returns (hb hby d4_69) Bd.notSynchronized (by decide) (by decide) (by rw [e8]; exact ⟨rfl, N8, Z8, nb, ⟨gn_r0, E_r0_c8, Fw8_length, na, wa, kn, kw, kb, gn_na, gn_wa, gn_nb, ne_r0_na, ne_r0_wa, ne_r0_nb, ne_na_wa, ne_na_nb, ne_wa_nb, F_narrow_c8, F_wide_c8, Ov, V_na_c8, V_wa_c8, V6_nb_c8⟩⟩)
theorem ef_apN2 (m : MethodId) (r0 : Addr) (p1 : Int32) : entryFrame m #[(.ref r0), (.int p1)] 5 = mkF m 0 #[.val (.ref r0), .val (.int p1), .unset, .unset, .unset] [] := by first | (simp [entryFrame, mkF, argsToLocals, Value.category]; done) | rfl
set_option maxRecDepth 65536 in
set_option maxHeartbeats 40000000 in
theorem apN2 (l : Launch) (Z : State) (a0 : Array Value) (hw : ∀ d ∈ tables_1, d.before a0 Z = true) (ws : List Jvm.Cond) (r0 : Addr) (p1 : Int32) (x0 : Int32) (x1 : Int32) (nb : Addr) (h0 : Heap) (n0 : Nat) (Z0 : n0 ≤ h0.size) (G : own_N Z h0 n0 r0 (2 : Int32) x0 x1 (0 : Int32) nb) (hc : p1 < (256 : Int32)) :
    MetFree l (⟨"com/example/xrefloom/xrefloom/tree/CompactText", "append", "(C)V"⟩ : MethodName) (head1 (Jvm.Cond.code (⟨"com/example/xrefloom/xrefloom/tree/CompactText", "append", "(C)V"⟩ : MethodName) prog_30_method_5_code 5 none :: ws) ({ frames := 1, cells := 0, slots := 0, locals := 14 } : Room)) (fun a U => a = #[(.ref r0), (.int p1)] ∧ Z.Warmed39 U.vm ∧ U.heap = h0) (fun _ _ _ _ _ => True) (fun _ U o U' => ∃ v L, o = .returned v ∧ (own_QE (fun h a => own_N Z h n0 r0 (3 : Int32) x0 x1 (nar .byte (p1.toInt8.toInt32)) a) none n0) v U'.heap L ∧ FrameEnd U o U' L 0 0) := by
  refine MetFree.of_bodySF (plainFor_of_name pn4) hisR ?_
  intro p e s m args below meth c s₁ Bd hml0 hP hK
  obtain ⟨rfl, hZ, hh⟩ := hP
  have hx := Bd.exec
  have hby := Bd.bytes
  have hml : c.maxLocals = 5 := hml0
  have hown : s.vm.findClass "com/example/xrefloom/xrefloom/tree/CompactText" = some m.cls := findClass_of_methodNamed Bd.named
  have hnm := (name_of_methodNamed Bd.named Bd.method).1
  have X0 : Stand p l e ({ frames := 1, cells := 0, slots := 0, locals := 14 } : Room) s m #[(.ref r0), (.int p1)] below meth c s₁ [] 0 0 := Stand.of_body Bd
  have e0 : s₁.heap = h0 := by rw [← hh, Bd.state]; rfl
  have N0 := Fr.nil n0
  obtain ⟨gn_r0, E_r0, F_length, na, wa, kn, kw, kb, gn_na, gn_wa, gn_nb, ne_r0_na, ne_r0_wa, ne_r0_nb, ne_na_wa, ne_na_nb, ne_wa_nb, F_narrow, F_wide, Ov, V_na, V_wa, V_nb⟩ := id G
  show own_Goes p e below (own_End s (own_QE (fun h a => own_N Z h n0 r0 (3 : Int32) x0 x1 (nar .byte (p1.toInt8.toInt32)) a) none n0) 0 0) _
  refine own_go (G := s₁.setTop (mkF m 0 #[.val (.ref r0), .val (.int p1), .unset, .unset, .unset] [])) (fun t k => castTop (ef_apN2 m r0 p1) k) ?_
  refine own_go (G := s₁.setTop (mkF m 1 #[.val (.ref r0), .val (.int p1), .unset, .unset, .unset] [(.ref r0)])) (fun _ k => XS.aloadN X0.here hx rfl (hb hby d4_0) rfl rfl k) ?_
  obtain ⟨T1, X1, e1, st1⟩ := getF X0 hx hZ hown (host := "") (Or.inl (hw _ (List.mem_of_getElem? (i := 29) rfl))) Via.refl e0 F_length (g := (mkF m 1 #[.val (.ref r0), .val (.int p1), .unset, .unset, .unset] [(.ref r0)])) rfl rfl (hb hby d4_1)
  refine own_go (G := T1.setTop (mkF m 4 #[.val (.ref r0), .val (.int p1), .unset, .unset, .unset] [(.int (2 : Int32))])) (st1) ?_
  refine own_go (G := T1.setTop (mkF m 6 #[.val (.ref r0), .val (.int p1), .unset, .unset, .unset] [(.int (16 : Int32)), (.int (2 : Int32))])) (fun _ k => XS.bipush X1.here hx rfl (hb hby d4_4) k) ?_
  refine own_go (G := T1.setTop (mkF m 7 #[.val (.ref r0), .val (.int p1), .unset, .unset, .unset] [(.int (((2 : Int32).toUInt32 >>> ((16 : Int32) &&& 31).toUInt32).toInt32))])) (fun _ k => XS.iushr X1.here hx rfl (hb hby d4_6) rfl k) ?_
  rw [show (((2 : Int32).toUInt32 >>> ((16 : Int32) &&& 31).toUInt32).toInt32) = (0 : Int32) from by decide]
  refine own_go (G := T1.setTop (mkF m 8 #[.val (.ref r0), .val (.int p1), .val (.int (0 : Int32)), .unset, .unset] [])) (fun _ k => XS.istoreN X1.here hx rfl (hb hby d4_7) rfl (l' := #[.val (.ref r0), .val (.int p1), .val (.int (0 : Int32)), .unset, .unset]) rfl k) ?_
  refine own_go (G := T1.setTop (mkF m 9 #[.val (.ref r0), .val (.int p1), .val (.int (0 : Int32)), .unset, .unset] [(.ref r0)])) (fun _ k => XS.aloadN X1.here hx rfl (hb hby d4_8) rfl rfl k) ?_
  obtain ⟨T2, X2, e2, st2⟩ := getF X1 hx hZ hown (host := "") (Or.inl (hw _ (List.mem_of_getElem? (i := 29) rfl))) Via.refl e1 F_length (g := (mkF m 9 #[.val (.ref r0), .val (.int p1), .val (.int (0 : Int32)), .unset, .unset] [(.ref r0)])) rfl rfl (hb hby d4_9)
  refine own_go (G := T2.setTop (mkF m 12 #[.val (.ref r0), .val (.int p1), .val (.int (0 : Int32)), .unset, .unset] [(.int (2 : Int32))])) (st2) ?_
  refine own_go (G := T2.setTop (mkF m 14 #[.val (.ref r0), .val (.int p1), .val (.int (0 : Int32)), .unset, .unset] [(.int (65535 : Int32)), (.int (2 : Int32))])) (X2.ldcInt hx hown (mvT hZ (hw _ (List.mem_of_getElem? (i := 31) rfl))) (g := (mkF m 12 #[.val (.ref r0), .val (.int p1), .val (.int (0 : Int32)), .unset, .unset] [(.int (2 : Int32))])) rfl (hb hby d4_12)) ?_
  refine own_go (G := T2.setTop (mkF m 15 #[.val (.ref r0), .val (.int p1), .val (.int (0 : Int32)), .unset, .unset] [(.int ((2 : Int32) &&& (65535 : Int32)))])) (fun _ k => XS.iand X2.here hx rfl (hb hby d4_14) rfl k) ?_
  rw [show ((2 : Int32) &&& (65535 : Int32)) = (2 : Int32) from by decide]
  refine own_go (G := T2.setTop (mkF m 16 #[.val (.ref r0), .val (.int p1), .val (.int (0 : Int32)), .val (.int (2 : Int32)), .unset] [])) (fun _ k => XS.istoreN X2.here hx rfl (hb hby d4_15) rfl (l' := #[.val (.ref r0), .val (.int p1), .val (.int (0 : Int32)), .val (.int (2 : Int32)), .unset]) rfl k) ?_
  refine own_go (G := T2.setTop (mkF m 17 #[.val (.ref r0), .val (.int p1), .val (.int (0 : Int32)), .val (.int (2 : Int32)), .unset] [(.ref r0)])) (fun _ k => XS.aloadN X2.here hx rfl (hb hby d4_16) rfl rfl k) ?_
  refine own_go (G := T2.setTop (mkF m 18 #[.val (.ref r0), .val (.int p1), .val (.int (0 : Int32)), .val (.int (2 : Int32)), .unset] [(.int (0 : Int32)), (.ref r0)])) (fun _ k => XS.iloadN X2.here hx rfl (hb hby d4_17) rfl k) ?_
  refine own_go (G := T2.setTop (mkF m 19 #[.val (.ref r0), .val (.int p1), .val (.int (0 : Int32)), .val (.int (2 : Int32)), .unset] [(.int (2 : Int32)), (.int (0 : Int32)), (.ref r0)])) (fun _ k => XS.iloadN X2.here hx rfl (hb hby d4_18) rfl k) ?_
  obtain ⟨cq3, qk3, qk3'⟩ := E_r0.cell
  obtain ⟨_, _, ⟨T3, L3, k3, n3⟩, -, X3, ⟨Lc3, hQ3, l3, y3, z3⟩, st3⟩ := X2.privateBack hx (y := (⟨"com/example/xrefloom/xrefloom/tree/CompactText", "makeRoom", "(II)V"⟩ : MethodName)) hown (mvT hZ (hw _ (List.mem_of_getElem? (i := 32) rfl))) (mvT hZ (hw _ (List.mem_of_getElem? (i := 33) rfl))) (mvT hZ (own_selPriv (hw _ (List.mem_of_getElem? (i := 33) rfl)) (hw _ (List.mem_of_getElem? (i := 34) rfl)) (hw _ (List.mem_of_getElem? (i := 27) rfl)) rfl (by decide))) (Cond.privateMethod_at (mvP hZ (hw _ (List.mem_of_getElem? (i := 34) rfl)) (args := #[]))) (mvT hZ (hw _ (List.mem_of_getElem? (i := 35) rfl))) (by decide) (backOf (W := 0) (mrN2 l Z a0 hw [] r0 x0 x1 (0 : Int32) nb h0 n0 Z0 G) hZ (hw _ (List.mem_of_getElem? (i := 35) rfl)) (hw _ (List.mem_of_getElem? (i := 7) rfl)) (by decide) (by decide)) (g := (mkF m 19 #[.val (.ref r0), .val (.int p1), .val (.int (0 : Int32)), .val (.int (2 : Int32)), .unset] [(.int (2 : Int32)), (.int (0 : Int32)), (.ref r0)])) rfl (by rw [hml]; rfl) (Steps.refl _) (a := r0) (by rw [e2]; exact qk3) qk3' (argsL := [(.int (0 : Int32)), (.int (2 : Int32))]) (rest := []) (lenOf pd0 rfl) rfl (by show 2 * 0 + _ ≤ _; exact Nat.le_of_eq rfl) (hb hby d4_19) (fun _ _ => ⟨rfl, e2, (by decide : 0 + 0 ≤ _), (by decide : 0 + 0 ≤ _)⟩)
  dsimp only [Pt.U, Pt.locs, Pt.cells, Pt.slots] at X3 l3 y3 z3 st3 hQ3
  subst l3 y3 z3
  obtain ⟨rfl, Nq3, e3⟩ := hQ3
  have N3 := Fr.app N0 Nq3
  refine own_go (G := T3.setTop (mkF m 22 #[.val (.ref r0), .val (.int p1), .val (.int (0 : Int32)), .val (.int (2 : Int32)), .unset] [])) (fun _ k => st3.trans k) ?_
  refine own_go (G := T3.setTop (mkF m 23 #[.val (.ref r0), .val (.int p1), .val (.int (0 : Int32)), .val (.int (2 : Int32)), .unset] [(.ref r0)])) (fun _ k => XS.aloadN X3.here hx rfl (hb hby d4_22) rfl rfl k) ?_
  obtain ⟨T4, X4, e4, st4⟩ := getF X3 hx hZ hown (host := "") (Or.inl (hw _ (List.mem_of_getElem? (i := 18) rfl))) Via.refl e3 F_narrow (g := (mkF m 23 #[.val (.ref r0), .val (.int p1), .val (.int (0 : Int32)), .val (.int (2 : Int32)), .unset] [(.ref r0)])) rfl rfl (hb hby d4_23)
  refine own_go (G := T4.setTop (mkF m 26 #[.val (.ref r0), .val (.int p1), .val (.int (0 : Int32)), .val (.int (2 : Int32)), .unset] [(.ref na)])) (st4) ?_
  refine own_go (G := T4.setTop (mkF m 27 #[.val (.ref r0), .val (.int p1), .val (.int (0 : Int32)), .val (.int (2 : Int32)), .unset] [(.int (0 : Int32)), (.ref na)])) (fun _ k => XS.iloadN X4.here hx rfl (hb hby d4_26) rfl k) ?_
  obtain ⟨cl5, Ar5, qk5, S5, N5_, Ha5, G5⟩ := id V_na
  have hin5 : ¬ ((0 : Int32) < 0 ∨ cl5.slots.size ≤ ((0 : Int32)).toNatClampNeg) := inb_of S5 ⟨by decide, by decide⟩
  have hat5 : cl5.slots[((0 : Int32)).toNatClampNeg]? = some (.ref nb) := Ha5.at hin5 rfl
  refine own_go (G := T4.setTop (mkF m 28 #[.val (.ref r0), .val (.int p1), .val (.int (0 : Int32)), .val (.int (2 : Int32)), .unset] [(.ref nb)])) (X4.aaload hx (j := (0 : Int32)) (v := (.ref nb)) (by rw [e4]; exact Ar5.1) (State.isArrayOf_alike hZ.alike Ar5.2.1) rfl Ar5.2.2 hin5 hat5 (g := (mkF m 27 #[.val (.ref r0), .val (.int p1), .val (.int (0 : Int32)), .val (.int (2 : Int32)), .unset] [(.int (0 : Int32)), (.ref na)])) rfl rfl (hb hby d4_27)) ?_
  refine own_go (G := T4.setTop (mkF m 30 #[.val (.ref r0), .val (.int p1), .val (.int (0 : Int32)), .val (.int (2 : Int32)), .val (.ref nb)] [])) (fun _ k => XS.astore X4.here hx rfl (hb hby d4_28) rfl rfl (l' := #[.val (.ref r0), .val (.int p1), .val (.int (0 : Int32)), .val (.int (2 : Int32)), .val (.ref nb)]) rfl k) ?_
  refine own_go (G := T4.setTop (mkF m 32 #[.val (.ref r0), .val (.int p1), .val (.int (0 : Int32)), .val (.int (2 : Int32)), .val (.ref nb)] [(.ref nb)])) (fun _ k => XS.aload X4.here hx rfl (hb hby d4_30) rfl rfl k) ?_
  refine own_go (G := T4.setTop (mkF m 35 #[.val (.ref r0), .val (.int p1), .val (.int (0 : Int32)), .val (.int (2 : Int32)), .val (.ref nb)] [])) (fun _ k => XS.ifnullNo X4.here hx rfl (hb hby d4_32) rfl k) ?_
  refine own_go (G := T4.setTop (mkF m 36 #[.val (.ref r0), .val (.int p1), .val (.int (0 : Int32)), .val (.int (2 : Int32)), .val (.ref nb)] [(.int p1)])) (fun _ k => XS.iloadN X4.here hx rfl (hb hby d4_35) rfl k) ?_
  refine own_go (G := T4.setTop (mkF m 39 #[.val (.ref r0), .val (.int p1), .val (.int (0 : Int32)), .val (.int (2 : Int32)), .val (.ref nb)] [(.int (256 : Int32)), (.int p1)])) (fun _ k => XS.sipush X4.here hx rfl (hb hby d4_36) k) ?_
  refine own_go (G := T4.setTop (mkF m 42 #[.val (.ref r0), .val (.int p1), .val (.int (0 : Int32)), .val (.int (2 : Int32)), .val (.ref nb)] [])) (fun _ k => XS.icmpNo X4.here hx rfl (hb hby d4_39) rfl (tlt (hc : p1 < (256 : Int32))).2.1 k) ?_
  refine own_go (G := T4.setTop (mkF m 44 #[.val (.ref r0), .val (.int p1), .val (.int (0 : Int32)), .val (.int (2 : Int32)), .val (.ref nb)] [(.ref nb)])) (fun _ k => XS.aload X4.here hx rfl (hb hby d4_42) rfl rfl k) ?_
  refine own_go (G := T4.setTop (mkF m 45 #[.val (.ref r0), .val (.int p1), .val (.int (0 : Int32)), .val (.int (2 : Int32)), .val (.ref nb)] [(.int (2 : Int32)), (.ref nb)])) (fun _ k => XS.iloadN X4.here hx rfl (hb hby d4_44) rfl k) ?_
  refine own_go (G := T4.setTop (mkF m 46 #[.val (.ref r0), .val (.int p1), .val (.int (0 : Int32)), .val (.int (2 : Int32)), .val (.ref nb)] [(.int p1), (.int (2 : Int32)), (.ref nb)])) (fun _ k => XS.iloadN X4.here hx rfl (hb hby d4_45) rfl k) ?_
  refine own_go (G := T4.setTop (mkF m 47 #[.val (.ref r0), .val (.int p1), .val (.int (0 : Int32)), .val (.int (2 : Int32)), .val (.ref nb)] [(.int (p1.toInt8.toInt32)), (.int (2 : Int32)), (.ref nb)])) (fun _ k => XS.i2b X4.here hx rfl (hb hby d4_46) rfl k) ?_
  obtain ⟨cl6, Ar6, qk6, S6, N6_, Ha6, G6⟩ := id V_nb
  have hin6 : ¬ ((2 : Int32) < 0 ∨ cl6.slots.size ≤ ((2 : Int32)).toNatClampNeg) := inb_of S6 ⟨by decide, by decide⟩
  obtain ⟨T6, h6, X6, e6, W6, st6⟩ := stB X4 hx hZ e4 Ar6 (j := (2 : Int32)) hin6 (g := (mkF m 47 #[.val (.ref r0), .val (.int p1), .val (.int (0 : Int32)), .val (.int (2 : Int32)), .val (.ref nb)] [(.int (p1.toInt8.toInt32)), (.int (2 : Int32)), (.ref nb)])) rfl rfl (hb hby d4_47)
  have V6_nb : Arv Z h6 nb kb .byte (64 : Int32) (own_B x0 x1 (nar .byte (p1.toInt8.toInt32))) (.int (0 : Int32)) := Arv.set Ar6 qk6 S6 N6_ Ha6 G6 (fits_nar_byte _) W6 2 rfl (Nat.le_of_ble_eq_true rfl)
  have E_r0_c6 : Exa Z h6 r0 "com/example/xrefloom/xrefloom/tree/CompactText" := E_r0.wr W6
  have F_length_c6 : Fld Z h6 r0 "com/example/xrefloom/xrefloom/tree/CompactText" "length" "I" (.int (2 : Int32)) := F_length.other W6 (Or.inl ne_r0_nb)
  have F_narrow_c6 : Fld Z h6 r0 "com/example/xrefloom/xrefloom/tree/CompactText" "narrow" "[[B" (.ref na) := F_narrow.other W6 (Or.inl ne_r0_nb)
  have F_wide_c6 : Fld Z h6 r0 "com/example/xrefloom/xrefloom/tree/CompactText" "wide" "[[C" (.ref wa) := F_wide.other W6 (Or.inl ne_r0_nb)
  have V_na_c6 : Arv Z h6 na kn (.array .byte) (1 : Int32) [(.ref nb)] .null := V_na.other W6 ne_na_nb
  have V_wa_c6 : Arv Z h6 wa kw (.array .char) (1 : Int32) [.null] .null := V_wa.other W6 ne_wa_nb
  have N6 := Fr.snoc X6 N3 gn_nb
  have Z6 : n0 ≤ h6.size := Nat.le_trans Z0 (Keep.of_wr W6).1
  refine own_go (G := T6.setTop (mkF m 48 #[.val (.ref r0), .val (.int p1), .val (.int (0 : Int32)), .val (.int (2 : Int32)), .val (.ref nb)] [])) (st6) ?_
  refine own_go (G := T6.setTop (mkF m 59 #[.val (.ref r0), .val (.int p1), .val (.int (0 : Int32)), .val (.int (2 : Int32)), .val (.ref nb)] [])) (fun _ k => XS.goto X6.here hx rfl (pc0 := 48) (pc' := 59) rfl (hb hby d4_48) (by decide) (by decide) k) ?_
  refine own_go (G := T6.setTop (mkF m 60 #[.val (.ref r0), .val (.int p1), .val (.int (0 : Int32)), .val (.int (2 : Int32)), .val (.ref nb)] [(.ref r0)])) (fun _ k => XS.aloadN X6.here hx rfl (hb hby d4_59) rfl rfl k) ?_
  refine own_go (G := T6.setTop (mkF m 61 #[.val (.ref r0), .val (.int p1), .val (.int (0 : Int32)), .val (.int (2 : Int32)), .val (.ref nb)] [(.ref r0), (.ref r0)])) (fun _ k => XS.dup X6.here hx rfl (hb hby d4_60) rfl rfl k) ?_
  obtain ⟨T7, X7, e7, st7⟩ := getF X6 hx hZ hown (host := "") (Or.inl (hw _ (List.mem_of_getElem? (i := 29) rfl))) Via.refl e6 F_length_c6 (g := (mkF m 61 #[.val (.ref r0), .val (.int p1), .val (.int (0 : Int32)), .val (.int (2 : Int32)), .val (.ref nb)] [(.ref r0), (.ref r0)])) rfl rfl (hb hby d4_61)
  refine own_go (G := T7.setTop (mkF m 64 #[.val (.ref r0), .val (.int p1), .val (.int (0 : Int32)), .val (.int (2 : Int32)), .val (.ref nb)] [(.int (2 : Int32)), (.ref r0)])) (st7) ?_
  refine own_go (G := T7.setTop (mkF m 65 #[.val (.ref r0), .val (.int p1), .val (.int (0 : Int32)), .val (.int (2 : Int32)), .val (.ref nb)] [(.int (1 : Int32)), (.int (2 : Int32)), (.ref r0)])) (fun _ k => XS.iconst X7.here hx rfl (hb hby d4_64) k) ?_
  refine own_go (G := T7.setTop (mkF m 66 #[.val (.ref r0), .val (.int p1), .val (.int (0 : Int32)), .val (.int (2 : Int32)), .val (.ref nb)] [(.int ((2 : Int32) + (1 : Int32))), (.ref r0)])) (fun _ k => XS.iadd X7.here hx rfl (hb hby d4_65) rfl k) ?_
  rw [show ((2 : Int32) + (1 : Int32)) = (3 : Int32) from by decide]
  obtain ⟨T8, h8, X8, e8, W8, st8⟩ := putF X7 hx hZ hown (host := "") (Or.inl (hw _ (List.mem_of_getElem? (i := 29) rfl))) Via.refl e7 F_length_c6 E_r0_c6 (Or.inl (hw _ (List.mem_of_getElem? (i := 30) rfl))) (hw _ (List.mem_of_getElem? (i := 6) rfl)) (ty := .int) (by decide) rfl rfl (g := (mkF m 66 #[.val (.ref r0), .val (.int p1), .val (.int (0 : Int32)), .val (.int (2 : Int32)), .val (.ref nb)] [(.int (3 : Int32)), (.ref r0)])) rfl rfl (hb hby d4_66)
  have E_r0_c8 : Exa Z h8 r0 "com/example/xrefloom/xrefloom/tree/CompactText" := E_r0_c6.wr W8
  have F_narrow_c8 : Fld Z h8 r0 "com/example/xrefloom/xrefloom/tree/CompactText" "narrow" "[[B" (.ref na) := F_narrow_c6.other W8 (Or.inr (slot_ne (Or.inl (hw _ (List.mem_of_getElem? (i := 19) rfl))) (Or.inl (hw _ (List.mem_of_getElem? (i := 30) rfl))) (by decide) (t := (.array (.array .byte))) (t' := .int) (by decide) (by decide)))
  have F_wide_c8 : Fld Z h8 r0 "com/example/xrefloom/xrefloom/tree/CompactText" "wide" "[[C" (.ref wa) := F_wide_c6.other W8 (Or.inr (slot_ne (Or.inl (hw _ (List.mem_of_getElem? (i := 23) rfl))) (Or.inl (hw _ (List.mem_of_getElem? (i := 30) rfl))) (by decide) (t := (.array (.array .char))) (t' := .int) (by decide) (by decide)))
  have V_na_c8 : Arv Z h8 na kn (.array .byte) (1 : Int32) [(.ref nb)] .null := V_na_c6.other W8 (Ne.symm ne_r0_na)
  have V_wa_c8 : Arv Z h8 wa kw (.array .char) (1 : Int32) [.null] .null := V_wa_c6.other W8 (Ne.symm ne_r0_wa)
  have V6_nb_c8 : Arv Z h8 nb kb .byte (64 : Int32) (own_B x0 x1 (nar .byte (p1.toInt8.toInt32))) (.int (0 : Int32)) := V6_nb.other W8 (Ne.symm ne_r0_nb)
  have Fw8_length : Fld Z h8 r0 "com/example/xrefloom/xrefloom/tree/CompactText" "length" "I" (.int (3 : Int32)) := F_length_c6.same W8
  have N8 := Fr.snoc X8 N6 gn_r0
  have Z8 : n0 ≤ h8.size := Nat.le_trans Z6 (Keep.of_wr W8).1
  refine own_go (G := T8.setTop (mkF m 69 #[.val (.ref r0), .val (.int p1), .val (.int (0 : Int32)), .val (.int (2 : Int32)), .val (.ref nb)] [])) (st8) ?_
  exact own_retV X8 hx Bd.returns (hb hby d4_69) Bd.notSynchronized (by decide) (by decide) (by rw [e8]; exact ⟨rfl, N8, Z8, nb, ⟨gn_r0, E_r0_c8, Fw8_length, na, wa, kn, kw, kb, gn_na, gn_wa, gn_nb, ne_r0_na, ne_r0_wa, ne_r0_nb, ne_na_wa, ne_na_nb, ne_wa_nb, F_narrow_c8, F_wide_c8, Ov, V_na_c8, V_wa_c8, V6_nb_c8⟩⟩)
theorem d4_51 : decode prog_30_method_5_code 51 = .ok (.aload_n 0, 1) := by decide +kernel
theorem d4_52 : decode prog_30_method_5_code 52 = .ok (.iload_n 2, 1) := by decide +kernel
theorem d4_53 : decode prog_30_method_5_code 53 = .ok (.invokevirtual 63, 3) := by decide +kernel
theorem d4_56 : decode prog_30_method_5_code 56 = .ok (.iload_n 3, 1) := by decide +kernel
theorem d4_57 : decode prog_30_method_5_code 57 = .ok (.iload_n 1, 1) := by decide +kernel
theorem d4_58 : decode prog_30_method_5_code 58 = .ok (.castore, 1) := by decide +kernel
theorem pd1 : parseMethodDescriptor "(I)[C" = some ⟨[.int], some (.array .char)⟩ := by decide +kernel
theorem ef_apW1 (m : MethodId) (r0 : Addr) (p1 : Int32) : entryFrame m #[(.ref r0), (.int p1)] 5 = mkF m 0 #[.val (.ref r0), .val (.int p1), .unset, .unset, .unset] [] := by first | (simp [entryFrame, mkF, argsToLocals, Value.category]; done) | rfl
set_option maxRecDepth 65536 in
set_option maxHeartbeats 40000000 in
theorem apW1 (l : Launch) (Z : State) (a0 : Array Value) (hw : ∀ d ∈ tables_1, d.before a0 Z = true) (ws : List Jvm.Cond) (r0 : Addr) (p1 : Int32) (x0 : Int32) (wc : Addr) (h0 : Heap) (n0 : Nat) (Z0 : n0 ≤ h0.size) (G : own_W Z h0 n0 r0 (1 : Int32) x0 (0 : Int32) (0 : Int32) wc) :
    MetFree l (⟨"com/example/xrefloom/xrefloom/tree/CompactText", "append", "(C)V"⟩ : MethodName) (head1 (Jvm.Cond.code (⟨"com/example/xrefloom/xrefloom/tree/CompactText", "append", "(C)V"⟩ : MethodName) prog_30_method_5_code 5 none :: ws) ({ frames := 1, cells := 0, slots := 0, locals := 16 } : Room)) (fun a U => a = #[(.ref r0), (.int p1)] ∧ Z.Warmed39 U.vm ∧ U.heap = h0) (fun _ _ _ _ _ => True) (fun _ U o U' => ∃ v L, o = .returned v ∧ (own_QE (fun h a => own_W Z h n0 r0 (2 : Int32) x0 (nar .char p1) (0 : Int32) a) none n0) v U'.heap L ∧ FrameEnd U o U' L 0 0) := by
  refine MetFree.of_bodySF (plainFor_of_name pn4) hisR ?_
  intro p e s m args below meth c s₁ Bd hml0 hP hK
  obtain ⟨rfl, hZ, hh⟩ := hP
  have hx := Bd.exec
  have hby := Bd.bytes
  have hml : c.maxLocals = 5 := hml0
  have hown : s.vm.findClass "com/example/xrefloom/xrefloom/tree/CompactText" = some m.cls := findClass_of_methodNamed Bd.named
  have hnm := (name_of_methodNamed Bd.named Bd.method).1
  have X0 : Stand p l e ({ frames := 1, cells := 0, slots := 0, locals := 16 } : Room) s m #[(.ref r0), (.int p1)] below meth c s₁ [] 0 0 := Stand.of_body Bd
  have e0 : s₁.heap = h0 := by rw [← hh, Bd.state]; rfl
  have N0 := Fr.nil n0
  obtain ⟨gn_r0, E_r0, F_length, na, wa, kn, kw, kb, gn_na, gn_wa, gn_wc, ne_r0_na, ne_r0_wa, ne_r0_wc, ne_na_wa, ne_na_wc, ne_wa_wc, F_narrow, F_wide, Ov, V_na, V_wa, V_wc⟩ := id G
  show own_Goes p e below (own_End s (own_QE (fun h a => own_W Z h n0 r0 (2 : Int32) x0 (nar .char p1) (0 : Int32) a) none n0) 0 0) _
  refine own_go (G := s₁.setTop (mkF m 0 #[.val (.ref r0), .val (.int p1), .unset, .unset, .unset] [])) (fun t k => castTop (ef_apW1 m r0 p1) k) ?_
  refine own_go (G := s₁.setTop (mkF m 1 #[.val (.ref r0), .val (.int p1), .unset, .unset, .unset] [(.ref r0)])) (fun _ k => XS.aloadN X0.here hx rfl (hb hby d4_0) rfl rfl k) ?_
  obtain ⟨T1, X1, e1, st1⟩ := getF X0 hx hZ hown (host := "") (Or.inl (hw _ (List.mem_of_getElem? (i := 29) rfl))) Via.refl e0 F_length (g := (mkF m 1 #[.val (.ref r0), .val (.int p1), .unset, .unset, .unset] [(.ref r0)])) rfl rfl (hb hby d4_1)
  refine own_go (G := T1.setTop (mkF m 4 #[.val (.ref r0), .val (.int p1), .unset, .unset, .unset] [(.int (1 : Int32))])) (st1) ?_
  refine own_go (G := T1.setTop (mkF m 6 #[.val (.ref r0), .val (.int p1), .unset, .unset, .unset] [(.int (16 : Int32)), (.int (1 : Int32))])) (fun _ k => XS.bipush X1.here hx rfl (hb hby d4_4) k) ?_
  refine own_go (G := T1.setTop (mkF m 7 #[.val (.ref r0), .val (.int p1), .unset, .unset, .unset] [(.int (((1 : Int32).toUInt32 >>> ((16 : Int32) &&& 31).toUInt32).toInt32))])) (fun _ k => XS.iushr X1.here hx rfl (hb hby d4_6) rfl k) ?_
  rw [show (((1 : Int32).toUInt32 >>> ((16 : Int32) &&& 31).toUInt32).toInt32) = (0 : Int32) from by decide]
  refine own_go (G := T1.setTop (mkF m 8 #[.val (.ref r0), .val (.int p1), .val (.int (0 : Int32)), .unset, .unset] [])) (fun _ k => XS.istoreN X1.here hx rfl (hb hby d4_7) rfl (l' := #[.val (.ref r0), .val (.int p1), .val (.int (0 : Int32)), .unset, .unset]) rfl k) ?_
  refine own_go (G := T1.setTop (mkF m 9 #[.val (.ref r0), .val (.int p1), .val (.int (0 : Int32)), .unset, .unset] [(.ref r0)])) (fun _ k => XS.aloadN X1.here hx rfl (hb hby d4_8) rfl rfl k) ?_
  obtain ⟨T2, X2, e2, st2⟩ := getF X1 hx hZ hown (host := "") (Or.inl (hw _ (List.mem_of_getElem? (i := 29) rfl))) Via.refl e1 F_length (g := (mkF m 9 #[.val (.ref r0), .val (.int p1), .val (.int (0 : Int32)), .unset, .unset] [(.ref r0)])) rfl rfl (hb hby d4_9)
  refine own_go (G := T2.setTop (mkF m 12 #[.val (.ref r0), .val (.int p1), .val (.int (0 : Int32)), .unset, .unset] [(.int (1 : Int32))])) (st2) ?_
  refine own_go (G := T2.setTop (mkF m 14 #[.val (.ref r0), .val (.int p1), .val (.int (0 : Int32)), .unset, .unset] [(.int (65535 : Int32)), (.int (1 : Int32))])) (X2.ldcInt hx hown (mvT hZ (hw _ (List.mem_of_getElem? (i := 31) rfl))) (g := (mkF m 12 #[.val (.ref r0), .val (.int p1), .val (.int (0 : Int32)), .unset, .unset] [(.int (1 : Int32))])) rfl (hb hby d4_12)) ?_
  refine own_go (G := T2.setTop (mkF m 15 #[.val (.ref r0), .val (.int p1), .val (.int (0 : Int32)), .unset, .unset] [(.int ((1 : Int32) &&& (65535 : Int32)))])) (fun _ k => XS.iand X2.here hx rfl (hb hby d4_14) rfl k) ?_
  rw [show ((1 : Int32) &&& (65535 : Int32)) = (1 : Int32) from by decide]
  refine own_go (G := T2.setTop (mkF m 16 #[.val (.ref r0), .val (.int p1), .val (.int (0 : Int32)), .val (.int (1 : Int32)), .unset] [])) (fun _ k => XS.istoreN X2.here hx rfl (hb hby d4_15) rfl (l' := #[.val (.ref r0), .val (.int p1), .val (.int (0 : Int32)), .val (.int (1 : Int32)), .unset]) rfl k) ?_
  refine own_go (G := T2.setTop (mkF m 17 #[.val (.ref r0), .val (.int p1), .val (.int (0 : Int32)), .val (.int (1 : Int32)), .unset] [(.ref r0)])) (fun _ k => XS.aloadN X2.here hx rfl (hb hby d4_16) rfl rfl k) ?_
  refine own_go (G := T2.setTop (mkF m 18 #[.val (.ref r0), .val (.int p1), .val (.int (0 : Int32)), .val (.int (1 : Int32)), .unset] [(.int (0 : Int32)), (.ref r0)])) (fun _ k => XS.iloadN X2.here hx rfl (hb hby d4_17) rfl k) ?_
  refine own_go (G := T2.setTop (mkF m 19 #[.val (.ref r0), .val (.int p1), .val (.int (0 : Int32)), .val (.int (1 : Int32)), .unset] [(.int (1 : Int32)), (.int (0 : Int32)), (.ref r0)])) (fun _ k => XS.iloadN X2.here hx rfl (hb hby d4_18) rfl k) ?_
  obtain ⟨cq3, qk3, qk3'⟩ := E_r0.cell
  obtain ⟨_, _, ⟨T3, L3, k3, n3⟩, -, X3, ⟨Lc3, hQ3, l3, y3, z3⟩, st3⟩ := X2.privateBack hx (y := (⟨"com/example/xrefloom/xrefloom/tree/CompactText", "makeRoom", "(II)V"⟩ : MethodName)) hown (mvT hZ (hw _ (List.mem_of_getElem? (i := 32) rfl))) (mvT hZ (hw _ (List.mem_of_getElem? (i := 33) rfl))) (mvT hZ (own_selPriv (hw _ (List.mem_of_getElem? (i := 33) rfl)) (hw _ (List.mem_of_getElem? (i := 34) rfl)) (hw _ (List.mem_of_getElem? (i := 27) rfl)) rfl (by decide))) (Cond.privateMethod_at (mvP hZ (hw _ (List.mem_of_getElem? (i := 34) rfl)) (args := #[]))) (mvT hZ (hw _ (List.mem_of_getElem? (i := 35) rfl))) (by decide) (backOf (W := 0) (mrW1 l Z a0 hw [] r0 x0 (0 : Int32) (0 : Int32) wc h0 n0 Z0 G) hZ (hw _ (List.mem_of_getElem? (i := 35) rfl)) (hw _ (List.mem_of_getElem? (i := 7) rfl)) (by decide) (by decide)) (g := (mkF m 19 #[.val (.ref r0), .val (.int p1), .val (.int (0 : Int32)), .val (.int (1 : Int32)), .unset] [(.int (1 : Int32)), (.int (0 : Int32)), (.ref r0)])) rfl (by rw [hml]; rfl) (Steps.refl _) (a := r0) (by rw [e2]; exact qk3) qk3' (argsL := [(.int (0 : Int32)), (.int (1 : Int32))]) (rest := []) (lenOf pd0 rfl) rfl (by show 2 * 0 + _ ≤ _; exact Nat.le_of_eq rfl) (hb hby d4_19) (fun _ _ => ⟨rfl, e2, (by decide : 0 + 0 ≤ _), (by decide : 0 + 0 ≤ _)⟩)
  dsimp only [Pt.U, Pt.locs, Pt.cells, Pt.slots] at X3 l3 y3 z3 st3 hQ3
  subst l3 y3 z3
  obtain ⟨rfl, Nq3, e3⟩ := hQ3
  have N3 := Fr.app N0 Nq3
  refine own_go (G := T3.setTop (mkF m 22 #[.val (.ref r0), .val (.int p1), .val (.int (0 : Int32)), .val (.int (1 : Int32)), .unset] [])) (fun _ k => st3.trans k) ?_
  refine own_go (G := T3.setTop (mkF m 23 #[.val (.ref r0), .val (.int p1), .val (.int (0 : Int32)), .val (.int (1 : Int32)), .unset] [(.ref r0)])) (fun _ k => XS.aloadN X3.here hx rfl (hb hby d4_22) rfl rfl k) ?_
  obtain ⟨T4, X4, e4, st4⟩ := getF X3 hx hZ hown (host := "") (Or.inl (hw _ (List.mem_of_getElem? (i := 18) rfl))) Via.refl e3 F_narrow (g := (mkF m 23 #[.val (.ref r0), .val (.int p1), .val (.int (0 : Int32)), .val (.int (1 : Int32)), .unset] [(.ref r0)])) rfl rfl (hb hby d4_23)
  refine own_go (G := T4.setTop (mkF m 26 #[.val (.ref r0), .val (.int p1), .val (.int (0 : Int32)), .val (.int (1 : Int32)), .unset] [(.ref na)])) (st4) ?_
  refine own_go (G := T4.setTop (mkF m 27 #[.val (.ref r0), .val (.int p1), .val (.int (0 : Int32)), .val (.int (1 : Int32)), .unset] [(.int (0 : Int32)), (.ref na)])) (fun _ k => XS.iloadN X4.here hx rfl (hb hby d4_26) rfl k) ?_
  obtain ⟨cl5, Ar5, qk5, S5, N5_, Ha5, G5⟩ := id V_na
  have hin5 : ¬ ((0 : Int32) < 0 ∨ cl5.slots.size ≤ ((0 : Int32)).toNatClampNeg) := inb_of S5 ⟨by decide, by decide⟩
  have hat5 : cl5.slots[((0 : Int32)).toNatClampNeg]? = some .null := Ha5.at hin5 rfl
  refine own_go (G := T4.setTop (mkF m 28 #[.val (.ref r0), .val (.int p1), .val (.int (0 : Int32)), .val (.int (1 : Int32)), .unset] [.null])) (X4.aaload hx (j := (0 : Int32)) (v := .null) (by rw [e4]; exact Ar5.1) (State.isArrayOf_alike hZ.alike Ar5.2.1) rfl Ar5.2.2 hin5 hat5 (g := (mkF m 27 #[.val (.ref r0), .val (.int p1), .val (.int (0 : Int32)), .val (.int (1 : Int32)), .unset] [(.int (0 : Int32)), (.ref na)])) rfl rfl (hb hby d4_27)) ?_
  refine own_go (G := T4.setTop (mkF m 30 #[.val (.ref r0), .val (.int p1), .val (.int (0 : Int32)), .val (.int (1 : Int32)), .val .null] [])) (fun _ k => XS.astore X4.here hx rfl (hb hby d4_28) rfl rfl (l' := #[.val (.ref r0), .val (.int p1), .val (.int (0 : Int32)), .val (.int (1 : Int32)), .val .null]) rfl k) ?_
  refine own_go (G := T4.setTop (mkF m 32 #[.val (.ref r0), .val (.int p1), .val (.int (0 : Int32)), .val (.int (1 : Int32)), .val .null] [.null])) (fun _ k => XS.aload X4.here hx rfl (hb hby d4_30) rfl rfl k) ?_
  refine own_go (G := T4.setTop (mkF m 51 #[.val (.ref r0), .val (.int p1), .val (.int (0 : Int32)), .val (.int (1 : Int32)), .val .null] [])) (fun _ k => XS.ifnullYes X4.here hx rfl (pc0 := 32) (pc' := 51) rfl (hb hby d4_32) rfl (by decide) (by decide) k) ?_
  refine own_go (G := T4.setTop (mkF m 52 #[.val (.ref r0), .val (.int p1), .val (.int (0 : Int32)), .val (.int (1 : Int32)), .val .null] [(.ref r0)])) (fun _ k => XS.aloadN X4.here hx rfl (hb hby d4_51) rfl rfl k) ?_
  refine own_go (G := T4.setTop (mkF m 53 #[.val (.ref r0), .val (.int p1), .val (.int (0 : Int32)), .val (.int (1 : Int32)), .val .null] [(.int (0 : Int32)), (.ref r0)])) (fun _ k => XS.iloadN X4.here hx rfl (hb hby d4_52) rfl k) ?_
  obtain ⟨cq6, qk6, qk6'⟩ := E_r0.cell
  obtain ⟨_, _, ⟨T6, L6, k6, n6⟩, -, X6, ⟨Lc6, hQ6, l6, y6, z6⟩, st6⟩ := X4.privateBack hx (y := (⟨"com/example/xrefloom/xrefloom/tree/CompactText", "widen", "(I)[C"⟩ : MethodName)) hown (mvT hZ (hw _ (List.mem_of_getElem? (i := 41) rfl))) (mvT hZ (hw _ (List.mem_of_getElem? (i := 42) rfl))) (mvT hZ (own_selPriv (hw _ (List.mem_of_getElem? (i := 42) rfl)) (hw _ (List.mem_of_getElem? (i := 43) rfl)) (hw _ (List.mem_of_getElem? (i := 27) rfl)) rfl (by decide))) (Cond.privateMethod_at (mvP hZ (hw _ (List.mem_of_getElem? (i := 43) rfl)) (args := #[]))) (mvT hZ (hw _ (List.mem_of_getElem? (i := 44) rfl))) (by decide) (backOf (W := 0) (wdW l Z a0 hw [] r0 (1 : Int32) x0 (0 : Int32) (0 : Int32) wc h0 n0 Z0 G) hZ (hw _ (List.mem_of_getElem? (i := 44) rfl)) (hw _ (List.mem_of_getElem? (i := 7) rfl)) (by decide) (by decide)) (g := (mkF m 53 #[.val (.ref r0), .val (.int p1), .val (.int (0 : Int32)), .val (.int (1 : Int32)), .val .null] [(.int (0 : Int32)), (.ref r0)])) rfl (by rw [hml]; rfl) (Steps.refl _) (a := r0) (by rw [e4]; exact qk6) qk6' (argsL := [(.int (0 : Int32))]) (rest := []) (lenOf pd1 rfl) rfl (by show 2 * 0 + _ ≤ _; exact Nat.le_of_eq rfl) (hb hby d4_53) (fun _ _ => ⟨rfl, e4, (by decide : 0 + 0 ≤ _), (by decide : 0 + 0 ≤ _)⟩)
  dsimp only [Pt.U, Pt.locs, Pt.cells, Pt.slots] at X6 l6 y6 z6 st6 hQ6
  subst l6 y6 z6
  obtain ⟨rfl, Nq6, e6⟩ := hQ6
  have N6 := Fr.app N3 Nq6
  refine own_go (G := T6.setTop (mkF m 56 #[.val (.ref r0), .val (.int p1), .val (.int (0 : Int32)), .val (.int (1 : Int32)), .val .null] [(.ref wc)])) (fun _ k => st6.trans k) ?_
  refine own_go (G := T6.setTop (mkF m 57 #[.val (.ref r0), .val (.int p1), .val (.int (0 : Int32)), .val (.int (1 : Int32)), .val .null] [(.int (1 : Int32)), (.ref wc)])) (fun _ k => XS.iloadN X6.here hx rfl (hb hby d4_56) rfl k) ?_
  refine own_go (G := T6.setTop (mkF m 58 #[.val (.ref r0), .val (.int p1), .val (.int (0 : Int32)), .val (.int (1 : Int32)), .val .null] [(.int p1), (.int (1 : Int32)), (.ref wc)])) (fun _ k => XS.iloadN X6.here hx rfl (hb hby d4_57) rfl k) ?_
  obtain ⟨cl7, Ar7, qk7, S7, N7_, Ha7, G7⟩ := id V_wc
  have hin7 : ¬ ((1 : Int32) < 0 ∨ cl7.slots.size ≤ ((1 : Int32)).toNatClampNeg) := inb_of S7 ⟨by decide, by decide⟩
  obtain ⟨T7, h7, X7, e7, W7, st7⟩ := stC X6 hx hZ e6 Ar7 (j := (1 : Int32)) hin7 (g := (mkF m 58 #[.val (.ref r0), .val (.int p1), .val (.int (0 : Int32)), .val (.int (1 : Int32)), .val .null] [(.int p1), (.int (1 : Int32)), (.ref wc)])) rfl rfl (hb hby d4_58)
  have V7_wc : Arv Z h7 wc kb .char (64 : Int32) (own_B x0 (nar .char p1) (0 : Int32)) (.int (0 : Int32)) := Arv.set Ar7 qk7 S7 N7_ Ha7 G7 (fits_nar_char _) W7 1 rfl (Nat.le_of_ble_eq_true rfl)
  have E_r0_c7 : Exa Z h7 r0 "com/example/xrefloom/xrefloom/tree/CompactText" := E_r0.wr W7
  have F_length_c7 : Fld Z h7 r0 "com/example/xrefloom/xrefloom/tree/CompactText" "length" "I" (.int (1 : Int32)) := F_length.other W7 (Or.inl ne_r0_wc)
  have F_narrow_c7 : Fld Z h7 r0 "com/example/xrefloom/xrefloom/tree/CompactText" "narrow" "[[B" (.ref na) := F_narrow.other W7 (Or.inl ne_r0_wc)
  have F_wide_c7 : Fld Z h7 r0 "com/example/xrefloom/xrefloom/tree/CompactText" "wide" "[[C" (.ref wa) := F_wide.other W7 (Or.inl ne_r0_wc)
  have V_na_c7 : Arv Z h7 na kn (.array .byte) (1 : Int32) [.null] .null := V_na.other W7 ne_na_wc
  have V_wa_c7 : Arv Z h7 wa kw (.array .char) (1 : Int32) [(.ref wc)] .null := V_wa.other W7 ne_wa_wc
  have N7 := Fr.snoc X7 N6 gn_wc
  have Z7 : n0 ≤ h7.size := Nat.le_trans Z0 (Keep.of_wr W7).1
  refine own_go (G := T7.setTop (mkF m 59 #[.val (.ref r0), .val (.int p1), .val (.int (0 : Int32)), .val (.int (1 : Int32)), .val .null] [])) (st7) ?_
  refine own_go (G := T7.setTop (mkF m 60 #[.val (.ref r0), .val (.int p1), .val (.int (0 : Int32)), .val (.int (1 : Int32)), .val .null] [(.ref r0)])) (fun _ k => XS.aloadN X7.here hx rfl (hb hby d4_59) rfl rfl k) ?_
  refine own_go (G := T7.setTop (mkF m 61 #[.val (.ref r0), .val (.int p1), .val (.int (0 : Int32)), .val (.int (1 : Int32)), .val .null] [(.ref r0), (.ref r0)])) (fun _ k => XS.dup X7.here hx rfl (hb hby d4_60) rfl rfl k) ?_
  obtain ⟨T8, X8, e8, st8⟩ := getF X7 hx hZ hown (host := "") (Or.inl (hw _ (List.mem_of_getElem? (i := 29) rfl))) Via.refl e7 F_length_c7 (g := (mkF m 61 #[.val (.ref r0), .val (.int p1), .val (.int (0 : Int32)), .val (.int (1 : Int32)), .val .null] [(.ref r0), (.ref r0)])) rfl rfl (hb hby d4_61)
  refine own_go (G := T8.setTop (mkF m 64 #[.val (.ref r0), .val (.int p1), .val (.int (0 : Int32)), .val (.int (1 : Int32)), .val .null] [(.int (1 : Int32)), (.ref r0)])) (st8) ?_
  refine own_go (G := T8.setTop (mkF m 65 #[.val (.ref r0), .val (.int p1), .val (.int (0 : Int32)), .val (.int (1 : Int32)), .val .null] [(.int (1 : Int32)), (.int (1 : Int32)), (.ref r0)])) (fun _ k => XS.iconst X8.here hx rfl (hb hby d4_64) k) ?_
  refine own_go (G := T8.setTop (mkF m 66 #[.val (.ref r0), .val (.int p1), .val (.int (0 : Int32)), .val (.int (1 : Int32)), .val .null] [(.int ((1 : Int32) + (1 : Int32))), (.ref r0)])) (fun _ k => XS.iadd X8.here hx rfl (hb hby d4_65) rfl k) ?_
  rw [show ((1 : Int32) + (1 : Int32)) = (2 : Int32) from by decide]
  obtain ⟨T9, h9, X9, e9, W9, st9⟩ := putF X8 hx hZ hown (host := "") (Or.inl (hw _ (List.mem_of_getElem? (i := 29) rfl))) Via.refl e8 F_length_c7 E_r0_c7 (Or.inl (hw _ (List.mem_of_getElem? (i := 30) rfl))) (hw _ (List.mem_of_getElem? (i := 6) rfl)) (ty := .int) (by decide) rfl rfl (g := (mkF m 66 #[.val (.ref r0), .val (.int p1), .val (.int (0 : Int32)), .val (.int (1 : Int32)), .val .null] [(.int (2 : Int32)), (.ref r0)])) rfl rfl (hb hby d4_66)
  have E_r0_c9 : Exa Z h9 r0 "com/example/xrefloom/xrefloom/tree/CompactText" := E_r0_c7.wr W9
  have F_narrow_c9 : Fld Z h9 r0 "com/example/xrefloom/xrefloom/tree/CompactText" "narrow" "[[B" (.ref na) := F_narrow_c7.other W9 (Or.inr (slot_ne (Or.inl (hw _ (List.mem_of_getElem? (i := 19) rfl))) (Or.inl (hw _ (List.mem_of_getElem? (i := 30) rfl))) (by decide) (t := (.array (.array .byte))) (t' := .int) (by decide) (by decide)))
  have F_wide_c9 : Fld Z h9 r0 "com/example/xrefloom/xrefloom/tree/CompactText" "wide" "[[C" (.ref wa) := F_wide_c7.other W9 (Or.inr (slot_ne (Or.inl (hw _ (List.mem_of_getElem? (i := 23) rfl))) (Or.inl (hw _ (List.mem_of_getElem? (i := 30) rfl))) (by decide) (t := (.array (.array .char))) (t' := .int) (by decide) (by decide)))
  have V_na_c9 : Arv Z h9 na kn (.array .byte) (1 : Int32) [.null] .null := V_na_c7.other W9 (Ne.symm ne_r0_na)
  have V_wa_c9 : Arv Z h9 wa kw (.array .char) (1 : Int32) [(.ref wc)] .null := V_wa_c7.other W9 (Ne.symm ne_r0_wa)
  have V7_wc_c9 : Arv Z h9 wc kb .char (64 : Int32) (own_B x0 (nar .char p1) (0 : Int32)) (.int (0 : Int32)) := V7_wc.other W9 (Ne.symm ne_r0_wc)
  have Fw9_length : Fld Z h9 r0 "com/example/xrefloom/xrefloom/tree/CompactText" "length" "I" (.int (2 : Int32)) := F_length_c7.same W9
  have N9 := Fr.snoc X9 N7 gn_r0
  have Z9 : n0 ≤ h9.size := Nat.le_trans Z7 (Keep.of_wr W9).1
  refine own_go (G := T9.setTop (mkF m 69 #[.val (.ref r0), .val (.int p1), .val (.int (0 : Int32)), .val (.int (1 : Int32)), .val .null] [])) (st9) ?_
  exact own_retV X9 hx Bd.returns (hb hby d4_69) Bd.notSynchronized (by decide) (by decide) (by rw [e9]; exact ⟨rfl, N9, Z9, wc, ⟨gn_r0, E_r0_c9, Fw9_length, na, wa, kn, kw, kb, gn_na, gn_wa, gn_wc, ne_r0_na, ne_r0_wa, ne_r0_wc, ne_na_wa, ne_na_wc, ne_wa_wc, F_narrow_c9, F_wide_c9, Ov, V_na_c9, V_wa_c9, V7_wc_c9⟩⟩)
theorem ef_apW2 (m : MethodId) (r0 : Addr) (p1 : Int32) : entryFrame m #[(.ref r0), (.int p1)] 5 = mkF m 0 #[.val (.ref r0), .val (.int p1), .unset, .unset, .unset] [] := by first | (simp [entryFrame, mkF, argsToLocals, Value.category]; done) | rfl
set_option maxRecDepth 65536 in
set_option maxHeartbeats 40000000 in
theorem apW2 (l : Launch) (Z : State) (a0 : Array Value) (hw : ∀ d ∈ tables_1, d.before a0 Z = true) (ws : List Jvm.Cond) (r0 : Addr) (p1 : Int32) (x0 : Int32) (x1 : Int32) (wc : Addr) (h0 : Heap) (n0 : Nat) (Z0 : n0 ≤ h0.size) (G : own_W Z h0 n0 r0 (2 : Int32) x0 x1 (0 : Int32) wc) :
    MetFree l (⟨"com/example/xrefloom/xrefloom/tree/CompactText", "append", "(C)V"⟩ : MethodName) (head1 (Jvm.Cond.code (⟨"com/example/xrefloom/xrefloom/tree/CompactText", "append", "(C)V"⟩ : MethodName) prog_30_method_5_code 5 none :: ws) ({ frames := 1, cells := 0, slots := 0, locals := 16 } : Room)) (fun a U => a = #[(.ref r0), (.int p1)] ∧ Z.Warmed39 U.vm ∧ U.heap = h0) (fun _ _ _ _ _ => True) (fun _ U o U' => ∃ v L, o = .returned v ∧ (own_QE (fun h a => own_W Z h n0 r0 (3 : Int32) x0 x1 (nar .char p1) a) none n0) v U'.heap L ∧ FrameEnd U o U' L 0 0) := by
  refine MetFree.of_bodySF (plainFor_of_name pn4) hisR ?_
  intro p e s m args below meth c s₁ Bd hml0 hP hK
  obtain ⟨rfl, hZ, hh⟩ := hP
  have hx := Bd.exec
  have hby := Bd.bytes
  have hml : c.maxLocals = 5 := hml0
  have hown : s.vm.findClass "com/example/xrefloom/xrefloom/tree/CompactText" = some m.cls := findClass_of_methodNamed Bd.named
  have hnm := (name_of_methodNamed Bd.named Bd.method).1
  have X0 : Stand p l e ({ frames := 1, cells := 0, slots := 0, locals := 16 } : Room) s m #[(.ref r0), (.int p1)] below meth c s₁ [] 0 0 := Stand.of_body Bd
  have e0 : s₁.heap = h0 := by rw [← hh, Bd.state]; rfl
  have N0 := Fr.nil n0
  obtain ⟨gn_r0, E_r0, F_length, na, wa, kn, kw, kb, gn_na, gn_wa, gn_wc, ne_r0_na, ne_r0_wa, ne_r0_wc, ne_na_wa, ne_na_wc, ne_wa_wc, F_narrow, F_wide, Ov, V_na, V_wa, V_wc⟩ := id G
  show own_Goes p e below (own_End s (own_QE (fun h a => own_W Z h n0 r0 (3 : Int32) x0 x1 (nar .char p1) a) none n0) 0 0) _
  refine own_go (G := s₁.setTop (mkF m 0 #[.val (.ref r0), .val (.int p1), .unset, .unset, .unset] [])) (fun t k => castTop (ef_apW2 m r0 p1) k) ?_
  refine own_go (G := s₁.setTop (mkF m 1 #[.val (.ref r0), .val (.int p1), .unset, .unset, .unset] [(.ref r0)])) (fun _ k => XS.aloadN X0.here hx rfl (hb hby d4_0) rfl rfl k) ?_
  obtain ⟨T1, X1, e1, st1⟩ := getF X0 hx hZ hown (host := "") (Or.inl (hw _ (List.mem_of_getElem? (i := 29) rfl))) Via.refl e0 F_length (g := (mkF m 1 #[.val (.ref r0), .val (.int p1), .unset, .unset, .unset] [(.ref r0)])) rfl rfl (hb hby d4_1)
  refine own_go (G := T1.setTop (mkF m 4 #[.val (.ref r0), .val (.int p1), .unset, .unset, .unset] [(.int (2 : Int32))])) (st1) ?_
  refine own_go (G := T1.setTop (mkF m 6 #[.val (.ref r0), .val (.int p1), .unset, .unset, .unset] [(.int (16 : Int32)), (.int (2 : Int32))])) (fun _ k => XS.bipush X1.here hx rfl (hb hby d4_4) k) ?_
  refine own_go (G := T1.setTop (mkF m 7 #[.val (.ref r0), .val (.int p1), .unset, .unset, .unset] [(.int (((2 : Int32).toUInt32 >>> ((16 : Int32) &&& 31).toUInt32).toInt32))])) (fun _ k => XS.iushr X1.here hx rfl (hb hby d4_6) rfl k) ?_
  rw [show (((2 : Int32).toUInt32 >>> ((16 : Int32) &&& 31).toUInt32).toInt32) = (0 : Int32) from by decide]
  refine own_go (G := T1.setTop (mkF m 8 #[.val (.ref r0), .val (.int p1), .val (.int (0 : Int32)), .unset, .unset] [])) (fun _ k => XS.istoreN X1.here hx rfl (hb hby d4_7) rfl (l' := #[.val (.ref r0), .val (.int p1), .val (.int (0 : Int32)), .unset, .unset]) rfl k) ?_
  refine own_go (G := T1.setTop (mkF m 9 #[.val (.ref r0), .val (.int p1), .val (.int (0 : Int32)), .unset, .unset] [(.ref r0)])) (fun _ k => XS.aloadN X1.here hx rfl (hb hby d4_8) rfl rfl k) ?_
  obtain ⟨T2, X2, e2, st2⟩ := getF X1 hx hZ hown (host := "") (Or.inl (hw _ (List.mem_of_getElem? (i := 29) rfl))) Via.refl e1 F_length (g := (mkF m 9 #[.val (.ref r0), .val (.int p1), .val (.int (0 : Int32)), .unset, .unset] [(.ref r0)])) rfl rfl (hb hby d4_9)
  refine own_go (G := T2.setTop (mkF m 12 #[.val (.ref r0), .val (.int p1), .val (.int (0 : Int32)), .unset, .unset] [(.int (2 : Int32))])) (st2) ?_
  refine own_go (G := T2.setTop (mkF m 14 #[.val (.ref r0), .val (.int p1), .val (.int (0 : Int32)), .unset, .unset] [(.int (65535 : Int32)), (.int (2 : Int32))])) (X2.ldcInt hx hown (mvT hZ (hw _ (List.mem_of_getElem? (i := 31) rfl))) (g := (mkF m 12 #[.val (.ref r0), .val (.int p1), .val (.int (0 : Int32)), .unset, .unset] [(.int (2 : Int32))])) rfl (hb hby d4_12)) ?_
  refine own_go (G := T2.setTop (mkF m 15 #[.val (.ref r0), .val (.int p1), .val (.int (0 : Int32)), .unset, .unset] [(.int ((2 : Int32) &&& (65535 : Int32)))])) (fun _ k => XS.iand X2.here hx rfl (hb hby d4_14) rfl k) ?_
  rw [show ((2 : Int32) &&& (65535 : Int32)) = (2 : Int32) from by decide]
  refine own_go (G := T2.setTop (mkF m 16 #[.val (.ref r0), .val (.int p1), .val (.int (0 : Int32)), .val (.int (2 : Int32)), .unset] [])) (fun _ k => XS.istoreN X2.here hx rfl (hb hby d4_15) rfl (l' := #[.val (.ref r0), .val (.int p1), .val (.int (0 : Int32)), .val (.int (2 : Int32)), .unset]) rfl k) ?_
  refine own_go (G := T2.setTop (mkF m 17 #[.val (.ref r0), .val (.int p1), .val (.int (0 : Int32)), .val (.int (2 : Int32)), .unset] [(.ref r0)])) (fun _ k => XS.aloadN X2.here hx rfl (hb hby d4_16) rfl rfl k) ?_
  refine own_go (G := T2.setTop (mkF m 18 #[.val (.ref r0), .val (.int p1), .val (.int (0 : Int32)), .val (.int (2 : Int32)), .unset] [(.int (0 : Int32)), (.ref r0)])) (fun _ k => XS.iloadN X2.here hx rfl (hb hby d4_17) rfl k) ?_
  refine own_go (G := T2.setTop (mkF m 19 #[.val (.ref r0), .val (.int p1), .val (.int (0 : Int32)), .val (.int (2 : Int32)), .unset] [(.int (2 : Int32)), (.int (0 : Int32)), (.ref r0)])) (fun _ k => XS.iloadN X2.here hx rfl (hb hby d4_18) rfl k) ?_
  obtain ⟨cq3, qk3, qk3'⟩ := E_r0.cell
  obtain ⟨_, _, ⟨T3, L3, k3, n3⟩, -, X3, ⟨Lc3, hQ3, l3, y3, z3⟩, st3⟩ := X2.privateBack hx (y := (⟨"com/example/xrefloom/xrefloom/tree/CompactText", "makeRoom", "(II)V"⟩ : MethodName)) hown (mvT hZ (hw _ (List.mem_of_getElem? (i := 32) rfl))) (mvT hZ (hw _ (List.mem_of_getElem? (i := 33) rfl))) (mvT hZ (own_selPriv (hw _ (List.mem_of_getElem? (i := 33) rfl)) (hw _ (List.mem_of_getElem? (i := 34) rfl)) (hw _ (List.mem_of_getElem? (i := 27) rfl)) rfl (by decide))) (Cond.privateMethod_at (mvP hZ (hw _ (List.mem_of_getElem? (i := 34) rfl)) (args := #[]))) (mvT hZ (hw _ (List.mem_of_getElem? (i := 35) rfl))) (by decide) (backOf (W := 0) (mrW2 l Z a0 hw [] r0 x0 x1 (0 : Int32) wc h0 n0 Z0 G) hZ (hw _ (List.mem_of_getElem? (i := 35) rfl)) (hw _ (List.mem_of_getElem? (i := 7) rfl)) (by decide) (by decide)) (g := (mkF m 19 #[.val (.ref r0), .val (.int p1), .val (.int (0 : Int32)), .val (.int (2 : Int32)), .unset] [(.int (2 : Int32)), (.int (0 : Int32)), (.ref r0)])) rfl (by rw [hml]; rfl) (Steps.refl _) (a := r0) (by rw [e2]; exact qk3) qk3' (argsL := [(.int (0 : Int32)), (.int (2 : Int32))]) (rest := []) (lenOf pd0 rfl) rfl (by show 2 * 0 + _ ≤ _; exact Nat.le_of_eq rfl) (hb hby d4_19) (fun _ _ => ⟨rfl, e2, (by decide : 0 + 0 ≤ _), (by decide : 0 + 0 ≤ _)⟩)
  dsimp only [Pt.U, Pt.locs, Pt.cells, Pt.slots] at X3 l3 y3 z3 st3 hQ3
  subst l3 y3 z3
  obtain ⟨rfl, Nq3, e3⟩ := hQ3
  have N3 := Fr.app N0 Nq3
  refine own_go (G := T3.setTop (mkF m 22 #[.val (.ref r0), .val (.int p1), .val (.int (0 : Int32)), .val (.int (2 : Int32)), .unset] [])) (fun _ k => st3.trans k) ?_
  refine own_go (G := T3.setTop (mkF m 23 #[.val (.ref r0), .val (.int p1), .val (.int (0 : Int32)), .val (.int (2 : Int32)), .unset] [(.ref r0)])) (fun _ k => XS.aloadN X3.here hx rfl (hb hby d4_22) rfl rfl k) ?_
  obtain ⟨T4, X4, e4, st4⟩ := getF X3 hx hZ hown (host := "") (Or.inl (hw _ (List.mem_of_getElem? (i := 18) rfl))) Via.refl e3 F_narrow (g := (mkF m 23 #[.val (.ref r0), .val (.int p1), .val (.int (0 : Int32)), .val (.int (2 : Int32)), .unset] [(.ref r0)])) rfl rfl (hb hby d4_23)
  refine own_go (G := T4.setTop (mkF m 26 #[.val (.ref r0), .val (.int p1), .val (.int (0 : Int32)), .val (.int (2 : Int32)), .unset] [(.ref na)])) (st4) ?_
  refine own_go (G := T4.setTop (mkF m 27 #[.val (.ref r0), .val (.int p1), .val (.int (0 : Int32)), .val (.int (2 : Int32)), .unset] [(.int (0 : Int32)), (.ref na)])) (fun _ k => XS.iloadN X4.here hx rfl (hb hby d4_26) rfl k) ?_
  obtain ⟨cl5, Ar5, qk5, S5, N5_, Ha5, G5⟩ := id V_na
  have hin5 : ¬ ((0 : Int32) < 0 ∨ cl5.slots.size ≤ ((0 : Int32)).toNatClampNeg) := inb_of S5 ⟨by decide, by decide⟩
  have hat5 : cl5.slots[((0 : Int32)).toNatClampNeg]? = some .null := Ha5.at hin5 rfl
  refine own_go (G := T4.setTop (mkF m 28 #[.val (.ref r0), .val (.int p1), .val (.int (0 : Int32)), .val (.int (2 : Int32)), .unset] [.null])) (X4.aaload hx (j := (0 : Int32)) (v := .null) (by rw [e4]; exact Ar5.1) (State.isArrayOf_alike hZ.alike Ar5.2.1) rfl Ar5.2.2 hin5 hat5 (g := (mkF m 27 #[.val (.ref r0), .val (.int p1), .val (.int (0 : Int32)), .val (.int (2 : Int32)), .unset] [(.int (0 : Int32)), (.ref na)])) rfl rfl (hb hby d4_27)) ?_
  refine own_go (G := T4.setTop (mkF m 30 #[.val (.ref r0), .val (.int p1), .val (.int (0 : Int32)), .val (.int (2 : Int32)), .val .null] [])) (fun _ k => XS.astore X4.here hx rfl (hb hby d4_28) rfl rfl (l' := #[.val (.ref r0), .val (.int p1), .val (.int (0 : Int32)), .val (.int (2 : Int32)), .val .null]) rfl k) ?_
  refine own_go (G := T4.setTop (mkF m 32 #[.val (.ref r0), .val (.int p1), .val (.int (0 : Int32)), .val (.int (2 : Int32)), .val .null] [.null])) (fun _ k => XS.aload X4.here hx rfl (hb hby d4_30) rfl rfl k) ?_
  refine own_go (G := T4.setTop (mkF m 51 #[.val (.ref r0), .val (.int p1), .val (.int (0 : Int32)), .val (.int (2 : Int32)), .val .null] [])) (fun _ k => XS.ifnullYes X4.here hx rfl (pc0 := 32) (pc' := 51) rfl (hb hby d4_32) rfl (by decide) (by decide) k) ?_
  refine own_go (G := T4.setTop (mkF m 52 #[.val (.ref r0), .val (.int p1), .val (.int (0 : Int32)), .val (.int (2 : Int32)), .val .null] [(.ref r0)])) (fun _ k => XS.aloadN X4.here hx rfl (hb hby d4_51) rfl rfl k) ?_
  refine own_go (G := T4.setTop (mkF m 53 #[.val (.ref r0), .val (.int p1), .val (.int (0 : Int32)), .val (.int (2 : Int32)), .val .null] [(.int (0 : Int32)), (.ref r0)])) (fun _ k => XS.iloadN X4.here hx rfl (hb hby d4_52) rfl k) ?_
  obtain ⟨cq6, qk6, qk6'⟩ := E_r0.cell
  obtain ⟨_, _, ⟨T6, L6, k6, n6⟩, -, X6, ⟨Lc6, hQ6, l6, y6, z6⟩, st6⟩ := X4.privateBack hx (y := (⟨"com/example/xrefloom/xrefloom/tree/CompactText", "widen", "(I)[C"⟩ : MethodName)) hown (mvT hZ (hw _ (List.mem_of_getElem? (i := 41) rfl))) (mvT hZ (hw _ (List.mem_of_getElem? (i := 42) rfl))) (mvT hZ (own_selPriv (hw _ (List.mem_of_getElem? (i := 42) rfl)) (hw _ (List.mem_of_getElem? (i := 43) rfl)) (hw _ (List.mem_of_getElem? (i := 27) rfl)) rfl (by decide))) (Cond.privateMethod_at (mvP hZ (hw _ (List.mem_of_getElem? (i := 43) rfl)) (args := #[]))) (mvT hZ (hw _ (List.mem_of_getElem? (i := 44) rfl))) (by decide) (backOf (W := 0) (wdW l Z a0 hw [] r0 (2 : Int32) x0 x1 (0 : Int32) wc h0 n0 Z0 G) hZ (hw _ (List.mem_of_getElem? (i := 44) rfl)) (hw _ (List.mem_of_getElem? (i := 7) rfl)) (by decide) (by decide)) (g := (mkF m 53 #[.val (.ref r0), .val (.int p1), .val (.int (0 : Int32)), .val (.int (2 : Int32)), .val .null] [(.int (0 : Int32)), (.ref r0)])) rfl (by rw [hml]; rfl) (Steps.refl _) (a := r0) (by rw [e4]; exact qk6) qk6' (argsL := [(.int (0 : Int32))]) (rest := []) (lenOf pd1 rfl) rfl (by show 2 * 0 + _ ≤ _; exact Nat.le_of_eq rfl) (hb hby d4_53) (fun _ _ => ⟨rfl, e4, (by decide : 0 + 0 ≤ _), (by decide : 0 + 0 ≤ _)⟩)
  dsimp only [Pt.U, Pt.locs, Pt.cells, Pt.slots] at X6 l6 y6 z6 st6 hQ6
  subst l6 y6 z6
  obtain ⟨rfl, Nq6, e6⟩ := hQ6
  have N6 := Fr.app N3 Nq6
  refine own_go (G := T6.setTop (mkF m 56 #[.val (.ref r0), .val (.int p1), .val (.int (0 : Int32)), .val (.int (2 : Int32)), .val .null] [(.ref wc)])) (fun _ k => st6.trans k) ?_
  refine own_go (G := T6.setTop (mkF m 57 #[.val (.ref r0), .val (.int p1), .val (.int (0 : Int32)), .val (.int (2 : Int32)), .val .null] [(.int (2 : Int32)), (.ref wc)])) (fun _ k => XS.iloadN X6.here hx rfl (hb hby d4_56) rfl k) ?_
  refine own_go (G := T6.setTop (mkF m 58 #[.val (.ref r0), .val (.int p1), .val (.int (0 : Int32)), .val (.int (2 : Int32)), .val .null] [(.int p1), (.int (2 : Int32)), (.ref wc)])) (fun _ k => XS.iloadN X6.here hx rfl (hb hby d4_57) rfl k) ?_
  obtain ⟨cl7, Ar7, qk7, S7, N7_, Ha7, G7⟩ := id V_wc
  have hin7 : ¬ ((2 : Int32) < 0 ∨ cl7.slots.size ≤ ((2 : Int32)).toNatClampNeg) := inb_of S7 ⟨by decide, by decide⟩
  obtain ⟨T7, h7, X7, e7, W7, st7⟩ := stC X6 hx hZ e6 Ar7 (j := (2 : Int32)) hin7 (g := (mkF m 58 #[.val (.ref r0), .val (.int p1), .val (.int (0 : Int32)), .val (.int (2 : Int32)), .val .null] [(.int p1), (.int (2 : Int32)), (.ref wc)])) rfl rfl (hb hby d4_58)
  have V7_wc : Arv Z h7 wc kb .char (64 : Int32) (own_B x0 x1 (nar .char p1)) (.int (0 : Int32)) := Arv.set Ar7 qk7 S7 N7_ Ha7 G7 (fits_nar_char _) W7 2 rfl (Nat.le_of_ble_eq_true rfl)
  have E_r0_c7 : Exa Z h7 r0 "com/example/xrefloom/xrefloom/tree/CompactText" := E_r0.wr W7
  have F_length_c7 : Fld Z h7 r0 "com/example/xrefloom/xrefloom/tree/CompactText" "length" "I" (.int (2 : Int32)) := F_length.other W7 (Or.inl ne_r0_wc)
  have F_narrow_c7 : Fld Z h7 r0 "com/example/xrefloom/xrefloom/tree/CompactText" "narrow" "[[B" (.ref na) := F_narrow.other W7 (Or.inl ne_r0_wc)
  have F_wide_c7 : Fld Z h7 r0 "com/example/xrefloom/xrefloom/tree/CompactText" "wide" "[[C" (.ref wa) := F_wide.other W7 (Or.inl ne_r0_wc)
  have V_na_c7 : Arv Z h7 na kn (.array .byte) (1 : Int32) [.null] .null := V_na.other W7 ne_na_wc
  have V_wa_c7 : Arv Z h7 wa kw (.array .char) (1 : Int32) [(.ref wc)] .null := V_wa.other W7 ne_wa_wc
  have N7 := Fr.snoc X7 N6 gn_wc
  have Z7 : n0 ≤ h7.size := Nat.le_trans Z0 (Keep.of_wr W7).1
  refine own_go (G := T7.setTop (mkF m 59 #[.val (.ref r0), .val (.int p1), .val (.int (0 : Int32)), .val (.int (2 : Int32)), .val .null] [])) (st7) ?_
  refine own_go (G := T7.setTop (mkF m 60 #[.val (.ref r0), .val (.int p1), .val (.int (0 : Int32)), .val (.int (2 : Int32)), .val .null] [(.ref r0)])) (fun _ k => XS.aloadN X7.here hx rfl (hb hby d4_59) rfl rfl k) ?_
  refine own_go (G := T7.setTop (mkF m 61 #[.val (.ref r0), .val (.int p1), .val (.int (0 : Int32)), .val (.int (2 : Int32)), .val .null] [(.ref r0), (.ref r0)])) (fun _ k => XS.dup X7.here hx rfl (hb hby d4_60) rfl rfl k) ?_
  obtain ⟨T8, X8, e8, st8⟩ := getF X7 hx hZ hown (host := "") (Or.inl (hw _ (List.mem_of_getElem? (i := 29) rfl))) Via.refl e7 F_length_c7 (g := (mkF m 61 #[.val (.ref r0), .val (.int p1), .val (.int (0 : Int32)), .val (.int (2 : Int32)), .val .null] [(.ref r0), (.ref r0)])) rfl rfl (hb hby d4_61)
  refine own_go (G := T8.setTop (mkF m 64 #[.val (.ref r0), .val (.int p1), .val (.int (0 : Int32)), .val (.int (2 : Int32)), .val .null] [(.int (2 : Int32)), (.ref r0)])) (st8) ?_
  refine own_go (G := T8.setTop (mkF m 65 #[.val (.ref r0), .val (.int p1), .val (.int (0 : Int32)), .val (.int (2 : Int32)), .val .null] [(.int (1 : Int32)), (.int (2 : Int32)), (.ref r0)])) (fun _ k => XS.iconst X8.here hx rfl (hb hby d4_64) k) ?_
  refine own_go (G := T8.setTop (mkF m 66 #[.val (.ref r0), .val (.int p1), .val (.int (0 : Int32)), .val (.int (2 : Int32)), .val .null] [(.int ((2 : Int32) + (1 : Int32))), (.ref r0)])) (fun _ k => XS.iadd X8.here hx rfl (hb hby d4_65) rfl k) ?_
  rw [show ((2 : Int32) + (1 : Int32)) = (3 : Int32) from by decide]
  obtain ⟨T9, h9, X9, e9, W9, st9⟩ := putF X8 hx hZ hown (host := "") (Or.inl (hw _ (List.mem_of_getElem? (i := 29) rfl))) Via.refl e8 F_length_c7 E_r0_c7 (Or.inl (hw _ (List.mem_of_getElem? (i := 30) rfl))) (hw _ (List.mem_of_getElem? (i := 6) rfl)) (ty := .int) (by decide) rfl rfl (g := (mkF m 66 #[.val (.ref r0), .val (.int p1), .val (.int (0 : Int32)), .val (.int (2 : Int32)), .val .null] [(.int (3 : Int32)), (.ref r0)])) rfl rfl (hb hby d4_66)
  have E_r0_c9 : Exa Z h9 r0 "com/example/xrefloom/xrefloom/tree/CompactText" := E_r0_c7.wr W9
  have F_narrow_c9 : Fld Z h9 r0 "com/example/xrefloom/xrefloom/tree/CompactText" "narrow" "[[B" (.ref na) := F_narrow_c7.other W9 (Or.inr (slot_ne (Or.inl (hw _ (List.mem_of_getElem? (i := 19) rfl))) (Or.inl (hw _ (List.mem_of_getElem? (i := 30) rfl))) (by decide) (t := (.array (.array .byte))) (t' := .int) (by decide) (by decide)))
  have F_wide_c9 : Fld Z h9 r0 "com/example/xrefloom/xrefloom/tree/CompactText" "wide" "[[C" (.ref wa) := F_wide_c7.other W9 (Or.inr (slot_ne (Or.inl (hw _ (List.mem_of_getElem? (i := 23) rfl))) (Or.inl (hw _ (List.mem_of_getElem? (i := 30) rfl))) (by decide) (t := (.array (.array .char))) (t' := .int) (by decide) (by decide)))
  have V_na_c9 : Arv Z h9 na kn (.array .byte) (1 : Int32) [.null] .null := V_na_c7.other W9 (Ne.symm ne_r0_na)
  have V_wa_c9 : Arv Z h9 wa kw (.array .char) (1 : Int32) [(.ref wc)] .null := V_wa_c7.other W9 (Ne.symm ne_r0_wa)
  have V7_wc_c9 : Arv Z h9 wc kb .char (64 : Int32) (own_B x0 x1 (nar .char p1)) (.int (0 : Int32)) := V7_wc.other W9 (Ne.symm ne_r0_wc)
  have Fw9_length : Fld Z h9 r0 "com/example/xrefloom/xrefloom/tree/CompactText" "length" "I" (.int (3 : Int32)) := F_length_c7.same W9
  have N9 := Fr.snoc X9 N7 gn_r0
  have Z9 : n0 ≤ h9.size := Nat.le_trans Z7 (Keep.of_wr W9).1
  refine own_go (G := T9.setTop (mkF m 69 #[.val (.ref r0), .val (.int p1), .val (.int (0 : Int32)), .val (.int (2 : Int32)), .val .null] [])) (st9) ?_
  exact own_retV X9 hx Bd.returns (hb hby d4_69) Bd.notSynchronized (by decide) (by decide) (by rw [e9]; exact ⟨rfl, N9, Z9, wc, ⟨gn_r0, E_r0_c9, Fw9_length, na, wa, kn, kw, kb, gn_na, gn_wa, gn_wc, ne_r0_na, ne_r0_wa, ne_r0_wc, ne_na_wa, ne_na_wc, ne_wa_wc, F_narrow_c9, F_wide_c9, Ov, V_na_c9, V_wa_c9, V7_wc_c9⟩⟩)
theorem ef_apX0 (m : MethodId) (r0 : Addr) (p1 : Int32) : entryFrame m #[(.ref r0), (.int p1)] 5 = mkF m 0 #[.val (.ref r0), .val (.int p1), .unset, .unset, .unset] [] := by first | (simp [entryFrame, mkF, argsToLocals, Value.category]; done) | rfl
set_option maxRecDepth 65536 in
set_option maxHeartbeats 40000000 in
theorem apX0 (l : Launch) (Z : State) (a0 : Array Value) (hw : ∀ d ∈ tables_1, d.before a0 Z = true) (ws : List Jvm.Cond) (r0 : Addr) (p1 : Int32) (nb : Addr) (h0 : Heap) (n0 : Nat) (Z0 : n0 ≤ h0.size) (G : own_N Z h0 n0 r0 (0 : Int32) (0 : Int32) (0 : Int32) (0 : Int32) nb) (hc : ¬ (p1 < (256 : Int32))) :
    MetFree l (⟨"com/example/xrefloom/xrefloom/tree/CompactText", "append", "(C)V"⟩ : MethodName) (head1 (Jvm.Cond.code (⟨"com/example/xrefloom/xrefloom/tree/CompactText", "append", "(C)V"⟩ : MethodName) prog_30_method_5_code 5 none :: ws) ({ frames := 1, cells := 1, slots := 64, locals := 16 } : Room)) (fun a U => a = #[(.ref r0), (.int p1)] ∧ Z.Warmed39 U.vm ∧ U.heap = h0) (fun _ _ _ _ _ => True) (fun _ U o U' => ∃ v L, o = .returned v ∧ (own_QE (fun h a => own_W Z h n0 r0 (1 : Int32) (nar .char p1) (nar .char (((0 : Int32) &&& (255 : Int32)).toUInt32.toUInt16.toUInt32.toInt32)) (nar .char (((0 : Int32) &&& (255 : Int32)).toUInt32.toUInt16.toUInt32.toInt32)) a) none n0) v U'.heap L ∧ FrameEnd U o U' L 1 64) := by
  refine MetFree.of_bodySF (plainFor_of_name pn4) hisR ?_
  intro p e s m args below meth c s₁ Bd hml0 hP hK
  obtain ⟨rfl, hZ, hh⟩ := hP
  have hx := Bd.exec
  have hby := Bd.bytes
  have hml : c.maxLocals = 5 := hml0
  have hown : s.vm.findClass "com/example/xrefloom/xrefloom/tree/CompactText" = some m.cls := findClass_of_methodNamed Bd.named
  have hnm := (name_of_methodNamed Bd.named Bd.method).1
  have X0 : Stand p l e ({ frames := 1, cells := 1, slots := 64, locals := 16 } : Room) s m #[(.ref r0), (.int p1)] below meth c s₁ [] 0 0 := Stand.of_body Bd
  have e0 : s₁.heap = h0 := by rw [← hh, Bd.state]; rfl
  have N0 := Fr.nil n0
  obtain ⟨gn_r0, E_r0, F_length, na, wa, kn, kw, kb, gn_na, gn_wa, gn_nb, ne_r0_na, ne_r0_wa, ne_r0_nb, ne_na_wa, ne_na_nb, ne_wa_nb, F_narrow, F_wide, Ov, V_na, V_wa, V_nb⟩ := id G
  show own_Goes p e below (own_End s (own_QE (fun h a => own_W Z h n0 r0 (1 : Int32) (nar .char p1) (nar .char (((0 : Int32) &&& (255 : Int32)).toUInt32.toUInt16.toUInt32.toInt32)) (nar .char (((0 : Int32) &&& (255 : Int32)).toUInt32.toUInt16.toUInt32.toInt32)) a) none n0) 1 64) _
  refine own_go (G := s₁.setTop (mkF m 0 #[.val (.ref r0), .val (.int p1), .unset, .unset, .unset] [])) (fun t k => castTop (ef_apX0 m r0 p1) k) ?_
  refine own_go (G := s₁.setTop (mkF m 1 #[.val (.ref r0), .val (.int p1), .unset, .unset, .unset] [(.ref r0)])) (fun _ k => XS.aloadN X0.here hx rfl (hb hby d4_0) rfl rfl k) ?_
  obtain ⟨T1, X1, e1, st1⟩ := getF X0 hx hZ hown (host := "") (Or.inl (hw _ (List.mem_of_getElem? (i := 29) rfl))) Via.refl e0 F_length (g := (mkF m 1 #[.val (.ref r0), .val (.int p1), .unset, .unset, .unset] [(.ref r0)])) rfl rfl (hb hby d4_1)
  refine own_go (G := T1.setTop (mkF m 4 #[.val (.ref r0), .val (.int p1), .unset, .unset, .unset] [(.int (0 : Int32))])) (st1) ?_
  refine own_go (G := T1.setTop (mkF m 6 #[.val (.ref r0), .val (.int p1), .unset, .unset, .unset] [(.int (16 : Int32)), (.int (0 : Int32))])) (fun _ k => XS.bipush X1.here hx rfl (hb hby d4_4) k) ?_
  refine own_go (G := T1.setTop (mkF m 7 #[.val (.ref r0), .val (.int p1), .unset, .unset, .unset] [(.int (((0 : Int32).toUInt32 >>> ((16 : Int32) &&& 31).toUInt32).toInt32))])) (fun _ k => XS.iushr X1.here hx rfl (hb hby d4_6) rfl k) ?_
  rw [show (((0 : Int32).toUInt32 >>> ((16 : Int32) &&& 31).toUInt32).toInt32) = (0 : Int32) from by decide]
  refine own_go (G := T1.setTop (mkF m 8 #[.val (.ref r0), .val (.int p1), .val (.int (0 : Int32)), .unset, .unset] [])) (fun _ k => XS.istoreN X1.here hx rfl (hb hby d4_7) rfl (l' := #[.val (.ref r0), .val (.int p1), .val (.int (0 : Int32)), .unset, .unset]) rfl k) ?_
  refine own_go (G := T1.setTop (mkF m 9 #[.val (.ref r0), .val (.int p1), .val (.int (0 : Int32)), .unset, .unset] [(.ref r0)])) (fun _ k => XS.aloadN X1.here hx rfl (hb hby d4_8) rfl rfl k) ?_
  obtain ⟨T2, X2, e2, st2⟩ := getF X1 hx hZ hown (host := "") (Or.inl (hw _ (List.mem_of_getElem? (i := 29) rfl))) Via.refl e1 F_length (g := (mkF m 9 #[.val (.ref r0), .val (.int p1), .val (.int (0 : Int32)), .unset, .unset] [(.ref r0)])) rfl rfl (hb hby d4_9)
  refine own_go (G := T2.setTop (mkF m 12 #[.val (.ref r0), .val (.int p1), .val (.int (0 : Int32)), .unset, .unset] [(.int (0 : Int32))])) (st2) ?_
  refine own_go (G := T2.setTop (mkF m 14 #[.val (.ref r0), .val (.int p1), .val (.int (0 : Int32)), .unset, .unset] [(.int (65535 : Int32)), (.int (0 : Int32))])) (X2.ldcInt hx hown (mvT hZ (hw _ (List.mem_of_getElem? (i := 31) rfl))) (g := (mkF m 12 #[.val (.ref r0), .val (.int p1), .val (.int (0 : Int32)), .unset, .unset] [(.int (0 : Int32))])) rfl (hb hby d4_12)) ?_
  refine own_go (G := T2.setTop (mkF m 15 #[.val (.ref r0), .val (.int p1), .val (.int (0 : Int32)), .unset, .unset] [(.int ((0 : Int32) &&& (65535 : Int32)))])) (fun _ k => XS.iand X2.here hx rfl (hb hby d4_14) rfl k) ?_
  rw [show ((0 : Int32) &&& (65535 : Int32)) = (0 : Int32) from by decide]
  refine own_go (G := T2.setTop (mkF m 16 #[.val (.ref r0), .val (.int p1), .val (.int (0 : Int32)), .val (.int (0 : Int32)), .unset] [])) (fun _ k => XS.istoreN X2.here hx rfl (hb hby d4_15) rfl (l' := #[.val (.ref r0), .val (.int p1), .val (.int (0 : Int32)), .val (.int (0 : Int32)), .unset]) rfl k) ?_
  refine own_go (G := T2.setTop (mkF m 17 #[.val (.ref r0), .val (.int p1), .val (.int (0 : Int32)), .val (.int (0 : Int32)), .unset] [(.ref r0)])) (fun _ k => XS.aloadN X2.here hx rfl (hb hby d4_16) rfl rfl k) ?_
  refine own_go (G := T2.setTop (mkF m 18 #[.val (.ref r0), .val (.int p1), .val (.int (0 : Int32)), .val (.int (0 : Int32)), .unset] [(.int (0 : Int32)), (.ref r0)])) (fun _ k => XS.iloadN X2.here hx rfl (hb hby d4_17) rfl k) ?_
  refine own_go (G := T2.setTop (mkF m 19 #[.val (.ref r0), .val (.int p1), .val (.int (0 : Int32)), .val (.int (0 : Int32)), .unset] [(.int (0 : Int32)), (.int (0 : Int32)), (.ref r0)])) (fun _ k => XS.iloadN X2.here hx rfl (hb hby d4_18) rfl k) ?_
  obtain ⟨cq3, qk3, qk3'⟩ := E_r0.cell
  obtain ⟨_, _, ⟨T3, L3, k3, n3⟩, -, X3, ⟨Lc3, hQ3, l3, y3, z3⟩, st3⟩ := X2.privateBack hx (y := (⟨"com/example/xrefloom/xrefloom/tree/CompactText", "makeRoom", "(II)V"⟩ : MethodName)) hown (mvT hZ (hw _ (List.mem_of_getElem? (i := 32) rfl))) (mvT hZ (hw _ (List.mem_of_getElem? (i := 33) rfl))) (mvT hZ (own_selPriv (hw _ (List.mem_of_getElem? (i := 33) rfl)) (hw _ (List.mem_of_getElem? (i := 34) rfl)) (hw _ (List.mem_of_getElem? (i := 27) rfl)) rfl (by decide))) (Cond.privateMethod_at (mvP hZ (hw _ (List.mem_of_getElem? (i := 34) rfl)) (args := #[]))) (mvT hZ (hw _ (List.mem_of_getElem? (i := 35) rfl))) (by decide) (backOf (W := 0) (mrN0 l Z a0 hw [] r0 (0 : Int32) (0 : Int32) (0 : Int32) nb h0 n0 Z0 G) hZ (hw _ (List.mem_of_getElem? (i := 35) rfl)) (hw _ (List.mem_of_getElem? (i := 7) rfl)) (by decide) (by decide)) (g := (mkF m 19 #[.val (.ref r0), .val (.int p1), .val (.int (0 : Int32)), .val (.int (0 : Int32)), .unset] [(.int (0 : Int32)), (.int (0 : Int32)), (.ref r0)])) rfl (by rw [hml]; rfl) (Steps.refl _) (a := r0) (by rw [e2]; exact qk3) qk3' (argsL := [(.int (0 : Int32)), (.int (0 : Int32))]) (rest := []) (lenOf pd0 rfl) rfl (by show 2 * 0 + _ ≤ _; exact Nat.le_of_eq rfl) (hb hby d4_19) (fun _ _ => ⟨rfl, e2, (by decide : 0 + 0 ≤ _), (by decide : 0 + 0 ≤ _)⟩)
  dsimp only [Pt.U, Pt.locs, Pt.cells, Pt.slots] at X3 l3 y3 z3 st3 hQ3
  subst l3 y3 z3
  obtain ⟨rfl, Nq3, e3⟩ := hQ3
  have N3 := Fr.app N0 Nq3
  refine own_go (G := T3.setTop (mkF m 22 #[.val (.ref r0), .val (.int p1), .val (.int (0 : Int32)), .val (.int (0 : Int32)), .unset] [])) (fun _ k => st3.trans k) ?_
  refine own_go (G := T3.setTop (mkF m 23 #[.val (.ref r0), .val (.int p1), .val (.int (0 : Int32)), .val (.int (0 : Int32)), .unset] [(.ref r0)])) (fun _ k => XS.aloadN X3.here hx rfl (hb hby d4_22) rfl rfl k) ?_
  obtain ⟨T4, X4, e4, st4⟩ := getF X3 hx hZ hown (host := "") (Or.inl (hw _ (List.mem_of_getElem? (i := 18) rfl))) Via.refl e3 F_narrow (g := (mkF m 23 #[.val (.ref r0), .val (.int p1), .val (.int (0 : Int32)), .val (.int (0 : Int32)), .unset] [(.ref r0)])) rfl rfl (hb hby d4_23)
  refine own_go (G := T4.setTop (mkF m 26 #[.val (.ref r0), .val (.int p1), .val (.int (0 : Int32)), .val (.int (0 : Int32)), .unset] [(.ref na)])) (st4) ?_
  refine own_go (G := T4.setTop (mkF m 27 #[.val (.ref r0), .val (.int p1), .val (.int (0 : Int32)), .val (.int (0 : Int32)), .unset] [(.int (0 : Int32)), (.ref na)])) (fun _ k => XS.iloadN X4.here hx rfl (hb hby d4_26) rfl k) ?_
  obtain ⟨cl5, Ar5, qk5, S5, N5_, Ha5, G5⟩ := id V_na
  have hin5 : ¬ ((0 : Int32) < 0 ∨ cl5.slots.size ≤ ((0 : Int32)).toNatClampNeg) := inb_of S5 ⟨by decide, by decide⟩
  have hat5 : cl5.slots[((0 : Int32)).toNatClampNeg]? = some (.ref nb) := Ha5.at hin5 rfl
  refine own_go (G := T4.setTop (mkF m 28 #[.val (.ref r0), .val (.int p1), .val (.int (0 : Int32)), .val (.int (0 : Int32)), .unset] [(.ref nb)])) (X4.aaload hx (j := (0 : Int32)) (v := (.ref nb)) (by rw [e4]; exact Ar5.1) (State.isArrayOf_alike hZ.alike Ar5.2.1) rfl Ar5.2.2 hin5 hat5 (g := (mkF m 27 #[.val (.ref r0), .val (.int p1), .val (.int (0 : Int32)), .val (.int (0 : Int32)), .unset] [(.int (0 : Int32)), (.ref na)])) rfl rfl (hb hby d4_27)) ?_
  refine own_go (G := T4.setTop (mkF m 30 #[.val (.ref r0), .val (.int p1), .val (.int (0 : Int32)), .val (.int (0 : Int32)), .val (.ref nb)] [])) (fun _ k => XS.astore X4.here hx rfl (hb hby d4_28) rfl rfl (l' := #[.val (.ref r0), .val (.int p1), .val (.int (0 : Int32)), .val (.int (0 : Int32)), .val (.ref nb)]) rfl k) ?_
  refine own_go (G := T4.setTop (mkF m 32 #[.val (.ref r0), .val (.int p1), .val (.int (0 : Int32)), .val (.int (0 : Int32)), .val (.ref nb)] [(.ref nb)])) (fun _ k => XS.aload X4.here hx rfl (hb hby d4_30) rfl rfl k) ?_
  refine own_go (G := T4.setTop (mkF m 35 #[.val (.ref r0), .val (.int p1), .val (.int (0 : Int32)), .val (.int (0 : Int32)), .val (.ref nb)] [])) (fun _ k => XS.ifnullNo X4.here hx rfl (hb hby d4_32) rfl k) ?_
  refine own_go (G := T4.setTop (mkF m 36 #[.val (.ref r0), .val (.int p1), .val (.int (0 : Int32)), .val (.int (0 : Int32)), .val (.ref nb)] [(.int p1)])) (fun _ k => XS.iloadN X4.here hx rfl (hb hby d4_35) rfl k) ?_
  refine own_go (G := T4.setTop (mkF m 39 #[.val (.ref r0), .val (.int p1), .val (.int (0 : Int32)), .val (.int (0 : Int32)), .val (.ref nb)] [(.int (256 : Int32)), (.int p1)])) (fun _ k => XS.sipush X4.here hx rfl (hb hby d4_36) k) ?_
  refine own_go (G := T4.setTop (mkF m 51 #[.val (.ref r0), .val (.int p1), .val (.int (0 : Int32)), .val (.int (0 : Int32)), .val (.ref nb)] [])) (fun _ k => XS.icmpYes X4.here hx rfl (pc0 := 39) (pc' := 51) rfl (hb hby d4_39) rfl (flt (hc : ¬ (p1 < (256 : Int32)))).2.1 (by decide) (by decide) k) ?_
  refine own_go (G := T4.setTop (mkF m 52 #[.val (.ref r0), .val (.int p1), .val (.int (0 : Int32)), .val (.int (0 : Int32)), .val (.ref nb)] [(.ref r0)])) (fun _ k => XS.aloadN X4.here hx rfl (hb hby d4_51) rfl rfl k) ?_
  refine own_go (G := T4.setTop (mkF m 53 #[.val (.ref r0), .val (.int p1), .val (.int (0 : Int32)), .val (.int (0 : Int32)), .val (.ref nb)] [(.int (0 : Int32)), (.ref r0)])) (fun _ k => XS.iloadN X4.here hx rfl (hb hby d4_52) rfl k) ?_
  obtain ⟨cq6, qk6, qk6'⟩ := E_r0.cell
  obtain ⟨_, _, ⟨T6, L6, k6, n6⟩, -, X6, ⟨Lc6, hQ6, l6, y6, z6⟩, st6⟩ := X4.privateBack hx (y := (⟨"com/example/xrefloom/xrefloom/tree/CompactText", "widen", "(I)[C"⟩ : MethodName)) hown (mvT hZ (hw _ (List.mem_of_getElem? (i := 41) rfl))) (mvT hZ (hw _ (List.mem_of_getElem? (i := 42) rfl))) (mvT hZ (own_selPriv (hw _ (List.mem_of_getElem? (i := 42) rfl)) (hw _ (List.mem_of_getElem? (i := 43) rfl)) (hw _ (List.mem_of_getElem? (i := 27) rfl)) rfl (by decide))) (Cond.privateMethod_at (mvP hZ (hw _ (List.mem_of_getElem? (i := 43) rfl)) (args := #[]))) (mvT hZ (hw _ (List.mem_of_getElem? (i := 44) rfl))) (by decide) (backOf (W := 0) (wdN l Z a0 hw [] r0 (0 : Int32) (0 : Int32) (0 : Int32) (0 : Int32) nb h0 n0 Z0 G) hZ (hw _ (List.mem_of_getElem? (i := 44) rfl)) (hw _ (List.mem_of_getElem? (i := 7) rfl)) (by decide) (by decide)) (g := (mkF m 53 #[.val (.ref r0), .val (.int p1), .val (.int (0 : Int32)), .val (.int (0 : Int32)), .val (.ref nb)] [(.int (0 : Int32)), (.ref r0)])) rfl (by rw [hml]; rfl) (Steps.refl _) (a := r0) (by rw [e4]; exact qk6) qk6' (argsL := [(.int (0 : Int32))]) (rest := []) (lenOf pd1 rfl) rfl (by show 2 * 0 + _ ≤ _; exact Nat.le_of_eq rfl) (hb hby d4_53) (fun _ _ => ⟨rfl, e4, (by decide : 0 + 1 ≤ _), (by decide : 0 + 64 ≤ _)⟩)
  dsimp only [Pt.U, Pt.locs, Pt.cells, Pt.slots] at X6 l6 y6 z6 st6 hQ6
  subst l6 y6 z6
  obtain ⟨wc6, rfl, Nq6, Z6, Gq6⟩ := hQ6
  have N6 := Fr.app N3 Nq6
  have Gn6 : own_W Z T6.heap n0 r0 (0 : Int32) (nar .char (((0 : Int32) &&& (255 : Int32)).toUInt32.toUInt16.toUInt32.toInt32)) (nar .char (((0 : Int32) &&& (255 : Int32)).toUInt32.toUInt16.toUInt32.toInt32)) (nar .char (((0 : Int32) &&& (255 : Int32)).toUInt32.toUInt16.toUInt32.toInt32)) wc6 := Gq6
  obtain ⟨-, E_r0, F_length, na, wa, kn, kw, kb, gn_na, gn_wa, gn_wc6, ne_r0_na, ne_r0_wa, ne_r0_wc, ne_na_wa, ne_na_wc, ne_wa_wc, F_narrow, F_wide, Ov, V_na, V_wa, V_wc⟩ := Gn6
  refine own_go (G := T6.setTop (mkF m 56 #[.val (.ref r0), .val (.int p1), .val (.int (0 : Int32)), .val (.int (0 : Int32)), .val (.ref nb)] [(.ref wc6)])) (fun _ k => st6.trans k) ?_
  refine own_go (G := T6.setTop (mkF m 57 #[.val (.ref r0), .val (.int p1), .val (.int (0 : Int32)), .val (.int (0 : Int32)), .val (.ref nb)] [(.int (0 : Int32)), (.ref wc6)])) (fun _ k => XS.iloadN X6.here hx rfl (hb hby d4_56) rfl k) ?_
  refine own_go (G := T6.setTop (mkF m 58 #[.val (.ref r0), .val (.int p1), .val (.int (0 : Int32)), .val (.int (0 : Int32)), .val (.ref nb)] [(.int p1), (.int (0 : Int32)), (.ref wc6)])) (fun _ k => XS.iloadN X6.here hx rfl (hb hby d4_57) rfl k) ?_
  obtain ⟨cl7, Ar7, qk7, S7, N7_, Ha7, G7⟩ := id V_wc
  have hin7 : ¬ ((0 : Int32) < 0 ∨ cl7.slots.size ≤ ((0 : Int32)).toNatClampNeg) := inb_of S7 ⟨by decide, by decide⟩
  obtain ⟨T7, h7, X7, e7, W7, st7⟩ := stC X6 hx hZ rfl Ar7 (j := (0 : Int32)) hin7 (g := (mkF m 58 #[.val (.ref r0), .val (.int p1), .val (.int (0 : Int32)), .val (.int (0 : Int32)), .val (.ref nb)] [(.int p1), (.int (0 : Int32)), (.ref wc6)])) rfl rfl (hb hby d4_58)
  have V7_wc6 : Arv Z h7 wc6 kb .char (64 : Int32) (own_B (nar .char p1) (nar .char (((0 : Int32) &&& (255 : Int32)).toUInt32.toUInt16.toUInt32.toInt32)) (nar .char (((0 : Int32) &&& (255 : Int32)).toUInt32.toUInt16.toUInt32.toInt32))) (.int (0 : Int32)) := Arv.set Ar7 qk7 S7 N7_ Ha7 G7 (fits_nar_char _) W7 0 rfl (Nat.le_of_ble_eq_true rfl)
  have E_r0_c7 : Exa Z h7 r0 "com/example/xrefloom/xrefloom/tree/CompactText" := E_r0.wr W7
  have F_length_c7 : Fld Z h7 r0 "com/example/xrefloom/xrefloom/tree/CompactText" "length" "I" (.int (0 : Int32)) := F_length.other W7 (Or.inl ne_r0_wc)
  have F_narrow_c7 : Fld Z h7 r0 "com/example/xrefloom/xrefloom/tree/CompactText" "narrow" "[[B" (.ref na) := F_narrow.other W7 (Or.inl ne_r0_wc)
  have F_wide_c7 : Fld Z h7 r0 "com/example/xrefloom/xrefloom/tree/CompactText" "wide" "[[C" (.ref wa) := F_wide.other W7 (Or.inl ne_r0_wc)
  have V_na_c7 : Arv Z h7 na kn (.array .byte) (1 : Int32) [.null] .null := V_na.other W7 ne_na_wc
  have V_wa_c7 : Arv Z h7 wa kw (.array .char) (1 : Int32) [(.ref wc6)] .null := V_wa.other W7 ne_wa_wc
  have N7 := Fr.snoc X7 N6 gn_wc6
  have Z7 : n0 ≤ h7.size := Nat.le_trans Z6 (Keep.of_wr W7).1
  refine own_go (G := T7.setTop (mkF m 59 #[.val (.ref r0), .val (.int p1), .val (.int (0 : Int32)), .val (.int (0 : Int32)), .val (.ref nb)] [])) (st7) ?_
  refine own_go (G := T7.setTop (mkF m 60 #[.val (.ref r0), .val (.int p1), .val (.int (0 : Int32)), .val (.int (0 : Int32)), .val (.ref nb)] [(.ref r0)])) (fun _ k => XS.aloadN X7.here hx rfl (hb hby d4_59) rfl rfl k) ?_
  refine own_go (G := T7.setTop (mkF m 61 #[.val (.ref r0), .val (.int p1), .val (.int (0 : Int32)), .val (.int (0 : Int32)), .val (.ref nb)] [(.ref r0), (.ref r0)])) (fun _ k => XS.dup X7.here hx rfl (hb hby d4_60) rfl rfl k) ?_
  obtain ⟨T8, X8, e8, st8⟩ := getF X7 hx hZ hown (host := "") (Or.inl (hw _ (List.mem_of_getElem? (i := 29) rfl))) Via.refl e7 F_length_c7 (g := (mkF m 61 #[.val (.ref r0), .val (.int p1), .val (.int (0 : Int32)), .val (.int (0 : Int32)), .val (.ref nb)] [(.ref r0), (.ref r0)])) rfl rfl (hb hby d4_61)
  refine own_go (G := T8.setTop (mkF m 64 #[.val (.ref r0), .val (.int p1), .val (.int (0 : Int32)), .val (.int (0 : Int32)), .val (.ref nb)] [(.int (0 : Int32)), (.ref r0)])) (st8) ?_
  refine own_go (G := T8.setTop (mkF m 65 #[.val (.ref r0), .val (.int p1), .val (.int (0 : Int32)), .val (.int (0 : Int32)), .val (.ref nb)] [(.int (1 : Int32)), (.int (0 : Int32)), (.ref r0)])) (fun _ k => XS.iconst X8.here hx rfl (hb hby d4_64) k) ?_
  refine own_go (G := T8.setTop (mkF m 66 #[.val (.ref r0), .val (.int p1), .val (.int (0 : Int32)), .val (.int (0 : Int32)), .val (.ref nb)] [(.int ((0 : Int32) + (1 : Int32))), (.ref r0)])) (fun _ k => XS.iadd X8.here hx rfl (hb hby d4_65) rfl k) ?_
  rw [show ((0 : Int32) + (1 : Int32)) = (1 : Int32) from by decide]
  obtain ⟨T9, h9, X9, e9, W9, st9⟩ := putF X8 hx hZ hown (host := "") (Or.inl (hw _ (List.mem_of_getElem? (i := 29) rfl))) Via.refl e8 F_length_c7 E_r0_c7 (Or.inl (hw _ (List.mem_of_getElem? (i := 30) rfl))) (hw _ (List.mem_of_getElem? (i := 6) rfl)) (ty := .int) (by decide) rfl rfl (g := (mkF m 66 #[.val (.ref r0), .val (.int p1), .val (.int (0 : Int32)), .val (.int (0 : Int32)), .val (.ref nb)] [(.int (1 : Int32)), (.ref r0)])) rfl rfl (hb hby d4_66)
  have E_r0_c9 : Exa Z h9 r0 "com/example/xrefloom/xrefloom/tree/CompactText" := E_r0_c7.wr W9
  have F_narrow_c9 : Fld Z h9 r0 "com/example/xrefloom/xrefloom/tree/CompactText" "narrow" "[[B" (.ref na) := F_narrow_c7.other W9 (Or.inr (slot_ne (Or.inl (hw _ (List.mem_of_getElem? (i := 19) rfl))) (Or.inl (hw _ (List.mem_of_getElem? (i := 30) rfl))) (by decide) (t := (.array (.array .byte))) (t' := .int) (by decide) (by decide)))
  have F_wide_c9 : Fld Z h9 r0 "com/example/xrefloom/xrefloom/tree/CompactText" "wide" "[[C" (.ref wa) := F_wide_c7.other W9 (Or.inr (slot_ne (Or.inl (hw _ (List.mem_of_getElem? (i := 23) rfl))) (Or.inl (hw _ (List.mem_of_getElem? (i := 30) rfl))) (by decide) (t := (.array (.array .char))) (t' := .int) (by decide) (by decide)))
  have V_na_c9 : Arv Z h9 na kn (.array .byte) (1 : Int32) [.null] .null := V_na_c7.other W9 (Ne.symm ne_r0_na)
  have V_wa_c9 : Arv Z h9 wa kw (.array .char) (1 : Int32) [(.ref wc6)] .null := V_wa_c7.other W9 (Ne.symm ne_r0_wa)
  have V7_wc6_c9 : Arv Z h9 wc6 kb .char (64 : Int32) (own_B (nar .char p1) (nar .char (((0 : Int32) &&& (255 : Int32)).toUInt32.toUInt16.toUInt32.toInt32)) (nar .char (((0 : Int32) &&& (255 : Int32)).toUInt32.toUInt16.toUInt32.toInt32))) (.int (0 : Int32)) := V7_wc6.other W9 (Ne.symm ne_r0_wc)
  have Fw9_length : Fld Z h9 r0 "com/example/xrefloom/xrefloom/tree/CompactText" "length" "I" (.int (1 : Int32)) := F_length_c7.same W9
  have N9 := Fr.snoc X9 N7 gn_r0
  have Z9 : n0 ≤ h9.size := Nat.le_trans Z7 (Keep.of_wr W9).1
  refine own_go (G := T9.setTop (mkF m 69 #[.val (.ref r0), .val (.int p1), .val (.int (0 : Int32)), .val (.int (0 : Int32)), .val (.ref nb)] [])) (st9) ?_
  exact own_retV X9 hx Bd.returns (hb hby d4_69) Bd.notSynchronized (by decide) (by decide) (by rw [e9]; exact ⟨rfl, N9, Z9, wc6, ⟨gn_r0, E_r0_c9, Fw9_length, na, wa, kn, kw, kb, gn_na, gn_wa, gn_wc6, ne_r0_na, ne_r0_wa, ne_r0_wc, ne_na_wa, ne_na_wc, ne_wa_wc, F_narrow_c9, F_wide_c9, Ov, V_na_c9, V_wa_c9, V7_wc6_c9⟩⟩)
theorem ef_apX1 (m : MethodId) (r0 : Addr) (p1 : Int32) : entryFrame m #[(.ref r0), (.int p1)] 5 = mkF m 0 #[.val (.ref r0), .val (.int p1), .unset, .unset, .unset] [] := by first | (simp [entryFrame, mkF, argsToLocals, Value.category]; done) | rfl
set_option maxRecDepth 65536 in
set_option maxHeartbeats 40000000 in
theorem apX1 (l : Launch) (Z : State) (a0 : Array Value) (hw : ∀ d ∈ tables_1, d.before a0 Z = true) (ws : List Jvm.Cond) (r0 : Addr) (p1 : Int32) (x0 : Int32) (nb : Addr) (h0 : Heap) (n0 : Nat) (Z0 : n0 ≤ h0.size) (G : own_N Z h0 n0 r0 (1 : Int32) x0 (0 : Int32) (0 : Int32) nb) (hc : ¬ (p1 < (256 : Int32))) :
    MetFree l (⟨"com/example/xrefloom/xrefloom/tree/CompactText", "append", "(C)V"⟩ : MethodName) (head1 (Jvm.Cond.code (⟨"com/example/xrefloom/xrefloom/tree/CompactText", "append", "(C)V"⟩ : MethodName) prog_30_method_5_code 5 none :: ws) ({ frames := 1, cells := 1, slots := 64, locals := 16 } : Room)) (fun a U => a = #[(.ref r0), (.int p1)] ∧ Z.Warmed39 U.vm ∧ U.heap = h0) (fun _ _ _ _ _ => True) (fun _ U o U' => ∃ v L, o = .returned v ∧ (own_QE (fun h a => own_W Z h n0 r0 (2 : Int32) (nar .char ((x0 &&& (255 : Int32)).toUInt32.toUInt16.toUInt32.toInt32)) (nar .char p1) (nar .char (((0 : Int32) &&& (255 : Int32)).toUInt32.toUInt16.toUInt32.toInt32)) a) none n0) v U'.heap L ∧ FrameEnd U o U' L 1 64) := by
  refine MetFree.of_bodySF (plainFor_of_name pn4) hisR ?_
  intro p e s m args below meth c s₁ Bd hml0 hP hK
  obtain ⟨rfl, hZ, hh⟩ := hP
  have hx := Bd.exec
  have hby := Bd.bytes
  have hml : c.maxLocals = 5 := hml0
  have hown : s.vm.findClass "com/example/xrefloom/xrefloom/tree/CompactText" = some m.cls := findClass_of_methodNamed Bd.named
  have hnm := (name_of_methodNamed Bd.named Bd.method).1
  have X0 : Stand p l e ({ frames := 1, cells := 1, slots := 64, locals := 16 } : Room) s m #[(.ref r0), (.int p1)] below meth c s₁ [] 0 0 := Stand.of_body Bd
  have e0 : s₁.heap = h0 := by rw [← hh, Bd.state]; rfl
  have N0 := Fr.nil n0
  obtain ⟨gn_r0, E_r0, F_length, na, wa, kn, kw, kb, gn_na, gn_wa, gn_nb, ne_r0_na, ne_r0_wa, ne_r0_nb, ne_na_wa, ne_na_nb, ne_wa_nb, F_narrow, F_wide, Ov, V_na, V_wa, V_nb⟩ := id G
  show own_Goes p e below (own_End s (own_QE (fun h a => own_W Z h n0 r0 (2 : Int32) (nar .char ((x0 &&& (255 : Int32)).toUInt32.toUInt16.toUInt32.toInt32)) (nar .char p1) (nar .char (((0 : Int32) &&& (255 : Int32)).toUInt32.toUInt16.toUInt32.toInt32)) a) none n0) 1 64) _
  refine own_go (G := s₁.setTop (mkF m 0 #[.val (.ref r0), .val (.int p1), .unset, .unset, .unset] [])) (fun t k => castTop (ef_apX1 m r0 p1) k) ?_
  refine own_go (G := s₁.setTop (mkF m 1 #[.val (.ref r0), .val (.int p1), .unset, .unset, .unset] [(.ref r0)])) (fun _ k => XS.aloadN X0.here hx rfl (hb hby d4_0) rfl rfl k) ?_
  obtain ⟨T1, X1, e1, st1⟩ := getF X0 hx hZ hown (host := "") (Or.inl (hw _ (List.mem_of_getElem? (i := 29) rfl))) Via.refl e0 F_length (g := (mkF m 1 #[.val (.ref r0), .val (.int p1), .unset, .unset, .unset] [(.ref r0)])) rfl rfl (hb hby d4_1)
  refine own_go (G := T1.setTop (mkF m 4 #[.val (.ref r0), .val (.int p1), .unset, .unset, .unset] [(.int (1 : Int32))])) (st1) ?_
  refine own_go (G := T1.setTop (mkF m 6 #[.val (.ref r0), .val (.int p1), .unset, .unset, .unset] [(.int (16 : Int32)), (.int (1 : Int32))])) (fun _ k => XS.bipush X1.here hx rfl (hb hby d4_4) k) ?_
  refine own_go (G := T1.setTop (mkF m 7 #[.val (.ref r0), .val (.int p1), .unset, .unset, .unset] [(.int (((1 : Int32).toUInt32 >>> ((16 : Int32) &&& 31).toUInt32).toInt32))])) (fun _ k => XS.iushr X1.here hx rfl (hb hby d4_6) rfl k) ?_
  rw [show (((1 : Int32).toUInt32 >>> ((16 : Int32) &&& 31).toUInt32).toInt32) = (0 : Int32) from by decide]
  refine own_go (G := T1.setTop (mkF m 8 #[.val (.ref r0), .val (.int p1), .val (.int (0 : Int32)), .unset, .unset] [])) (fun _ k => XS.istoreN X1.here hx rfl (hb hby d4_7) rfl (l' := #[.val (.ref r0), .val (.int p1), .val (.int (0 : Int32)), .unset, .unset]) rfl k) ?_
  refine own_go (G := T1.setTop (mkF m 9 #[.val (.ref r0), .val (.int p1), .val (.int (0 : Int32)), .unset, .unset] [(.ref r0)])) (fun _ k => XS.aloadN X1.here hx rfl (hb hby d4_8) rfl rfl k) ?_
  obtain ⟨T2, X2, e2, st2⟩ := getF X1 hx hZ hown (host := "") (Or.inl (hw _ (List.mem_of_getElem? (i := 29) rfl))) Via.refl e1 F_length (g := (mkF m 9 #[.val (.ref r0), .val (.int p1), .val (.int (0 : Int32)), .unset, .unset] [(.ref r0)])) rfl rfl (hb hby d4_9)
  refine own_go (G := T2.setTop (mkF m 12 #[.val (.ref r0), .val (.int p1), .val (.int (0 : Int32)), .unset, .unset] [(.int (1 : Int32))])) (st2) ?_
  refine own_go (G := T2.setTop (mkF m 14 #[.val (.ref r0), .val (.int p1), .val (.int (0 : Int32)), .unset, .unset] [(.int (65535 : Int32)), (.int (1 : Int32))])) (X2.ldcInt hx hown (mvT hZ (hw _ (List.mem_of_getElem? (i := 31) rfl))) (g := (mkF m 12 #[.val (.ref r0), .val (.int p1), .val (.int (0 : Int32)), .unset, .unset] [(.int (1 : Int32))])) rfl (hb hby d4_12)) ?_
  refine own_go (G := T2.setTop (mkF m 15 #[.val (.ref r0), .val (.int p1), .val (.int (0 : Int32)), .unset, .unset] [(.int ((1 : Int32) &&& (65535 : Int32)))])) (fun _ k => XS.iand X2.here hx rfl (hb hby d4_14) rfl k) ?_
  rw [show ((1 : Int32) &&& (65535 : Int32)) = (1 : Int32) from by decide]
  refine own_go (G := T2.setTop (mkF m 16 #[.val (.ref r0), .val (.int p1), .val (.int (0 : Int32)), .val (.int (1 : Int32)), .unset] [])) (fun _ k => XS.istoreN X2.here hx rfl (hb hby d4_15) rfl (l' := #[.val (.ref r0), .val (.int p1), .val (.int (0 : Int32)), .val (.int (1 : Int32)), .unset]) rfl k) ?_
  refine own_go (G := T2.setTop (mkF m 17 #[.val (.ref r0), .val (.int p1), .val (.int (0 : Int32)), .val (.int (1 : Int32)), .unset] [(.ref r0)])) (fun _ k => XS.aloadN X2.here hx rfl (hb hby d4_16) rfl rfl k) ?_
  refine own_go (G := T2.setTop (mkF m 18 #[.val (.ref r0), .val (.int p1), .val (.int (0 : Int32)), .val (.int (1 : Int32)), .unset] [(.int (0 : Int32)), (.ref r0)])) (fun _ k => XS.iloadN X2.here hx rfl (hb hby d4_17) rfl k) ?_
  refine own_go (G := T2.setTop (mkF m 19 #[.val (.ref r0), .val (.int p1), .val (.int (0 : Int32)), .val (.int (1 : Int32)), .unset] [(.int (1 : Int32)), (.int (0 : Int32)), (.ref r0)])) (fun _ k => XS.iloadN X2.here hx rfl (hb hby d4_18) rfl k) ?_
  obtain ⟨cq3, qk3, qk3'⟩ := E_r0.cell
  obtain ⟨_, _, ⟨T3, L3, k3, n3⟩, -, X3, ⟨Lc3, hQ3, l3, y3, z3⟩, st3⟩ := X2.privateBack hx (y := (⟨"com/example/xrefloom/xrefloom/tree/CompactText", "makeRoom", "(II)V"⟩ : MethodName)) hown (mvT hZ (hw _ (List.mem_of_getElem? (i := 32) rfl))) (mvT hZ (hw _ (List.mem_of_getElem? (i := 33) rfl))) (mvT hZ (own_selPriv (hw _ (List.mem_of_getElem? (i := 33) rfl)) (hw _ (List.mem_of_getElem? (i := 34) rfl)) (hw _ (List.mem_of_getElem? (i := 27) rfl)) rfl (by decide))) (Cond.privateMethod_at (mvP hZ (hw _ (List.mem_of_getElem? (i := 34) rfl)) (args := #[]))) (mvT hZ (hw _ (List.mem_of_getElem? (i := 35) rfl))) (by decide) (backOf (W := 0) (mrN1 l Z a0 hw [] r0 x0 (0 : Int32) (0 : Int32) nb h0 n0 Z0 G) hZ (hw _ (List.mem_of_getElem? (i := 35) rfl)) (hw _ (List.mem_of_getElem? (i := 7) rfl)) (by decide) (by decide)) (g := (mkF m 19 #[.val (.ref r0), .val (.int p1), .val (.int (0 : Int32)), .val (.int (1 : Int32)), .unset] [(.int (1 : Int32)), (.int (0 : Int32)), (.ref r0)])) rfl (by rw [hml]; rfl) (Steps.refl _) (a := r0) (by rw [e2]; exact qk3) qk3' (argsL := [(.int (0 : Int32)), (.int (1 : Int32))]) (rest := []) (lenOf pd0 rfl) rfl (by show 2 * 0 + _ ≤ _; exact Nat.le_of_eq rfl) (hb hby d4_19) (fun _ _ => ⟨rfl, e2, (by decide : 0 + 0 ≤ _), (by decide : 0 + 0 ≤ _)⟩)
  dsimp only [Pt.U, Pt.locs, Pt.cells, Pt.slots] at X3 l3 y3 z3 st3 hQ3
  subst l3 y3 z3
  obtain ⟨rfl, Nq3, e3⟩ := hQ3
  have N3 := Fr.app N0 Nq3
  refine own_go (G := T3.setTop (mkF m 22 #[.val (.ref r0), .val (.int p1), .val (.int (0 : Int32)), .val (.int (1 : Int32)), .unset] [])) (fun _ k => st3.trans k) ?_
  refine own_go (G := T3.setTop (mkF m 23 #[.val (.ref r0), .val (.int p1), .val (.int (0 : Int32)), .val (.int (1 : Int32)), .unset] [(.ref r0)])) (fun _ k => XS.aloadN X3.here hx rfl (hb hby d4_22) rfl rfl k) ?_
  obtain ⟨T4, X4, e4, st4⟩ := getF X3 hx hZ hown (host := "") (Or.inl (hw _ (List.mem_of_getElem? (i := 18) rfl))) Via.refl e3 F_narrow (g := (mkF m 23 #[.val (.ref r0), .val (.int p1), .val (.int (0 : Int32)), .val (.int (1 : Int32)), .unset] [(.ref r0)])) rfl rfl (hb hby d4_23)
  refine own_go (G := T4.setTop (mkF m 26 #[.val (.ref r0), .val (.int p1), .val (.int (0 : Int32)), .val (.int (1 : Int32)), .unset] [(.ref na)])) (st4) ?_
  refine own_go (G := T4.setTop (mkF m 27 #[.val (.ref r0), .val (.int p1), .val (.int (0 : Int32)), .val (.int (1 : Int32)), .unset] [(.int (0 : Int32)), (.ref na)])) (fun _ k => XS.iloadN X4.here hx rfl (hb hby d4_26) rfl k) ?_
  obtain ⟨cl5, Ar5, qk5, S5, N5_, Ha5, G5⟩ := id V_na
  have hin5 : ¬ ((0 : Int32) < 0 ∨ cl5.slots.size ≤ ((0 : Int32)).toNatClampNeg) := inb_of S5 ⟨by decide, by decide⟩
  have hat5 : cl5.slots[((0 : Int32)).toNatClampNeg]? = some (.ref nb) := Ha5.at hin5 rfl
  refine own_go (G := T4.setTop (mkF m 28 #[.val (.ref r0), .val (.int p1), .val (.int (0 : Int32)), .val (.int (1 : Int32)), .unset] [(.ref nb)])) (X4.aaload hx (j := (0 : Int32)) (v := (.ref nb)) (by rw [e4]; exact Ar5.1) (State.isArrayOf_alike hZ.alike Ar5.2.1) rfl Ar5.2.2 hin5 hat5 (g := (mkF m 27 #[.val (.ref r0), .val (.int p1), .val (.int (0 : Int32)), .val (.int (1 : Int32)), .unset] [(.int (0 : Int32)), (.ref na)])) rfl rfl (hb hby d4_27)) ?_
  refine own_go (G := T4.setTop (mkF m 30 #[.val (.ref r0), .val (.int p1), .val (.int (0 : Int32)), .val (.int (1 : Int32)), .val (.ref nb)] [])) (fun _ k => XS.astore X4.here hx rfl (hb hby d4_28) rfl rfl (l' := #[.val (.ref r0), .val (.int p1), .val (.int (0 : Int32)), .val (.int (1 : Int32)), .val (.ref nb)]) rfl k) ?_
  refine own_go (G := T4.setTop (mkF m 32 #[.val (.ref r0), .val (.int p1), .val (.int (0 : Int32)), .val (.int (1 : Int32)), .val (.ref nb)] [(.ref nb)])) (fun _ k => XS.aload X4.here hx rfl (hb hby d4_30) rfl rfl k) ?_
  refine own_go (G := T4.setTop (mkF m 35 #[.val (.ref r0), .val (.int p1), .val (.int (0 : Int32)), .val (.int (1 : Int32)), .val (.ref nb)] [])) (fun _ k => XS.ifnullNo X4.here hx rfl (hb hby d4_32) rfl k) ?_
  refine own_go (G := T4.setTop (mkF m 36 #[.val (.ref r0), .val (.int p1), .val (.int (0 : Int32)), .val (.int (1 : Int32)), .val (.ref nb)] [(.int p1)])) (fun _ k => XS.iloadN X4.here hx rfl (hb hby d4_35) rfl k) ?_
  refine own_go (G := T4.setTop (mkF m 39 #[.val (.ref r0), .val (.int p1), .val (.int (0 : Int32)), .val (.int (1 : Int32)), .val (.ref nb)] [(.int (256 : Int32)), (.int p1)])) (fun _ k => XS.sipush X4.here hx rfl (hb hby d4_36) k) ?_
  refine own_go (G := T4.setTop (mkF m 51 #[.val (.ref r0), .val (.int p1), .val (.int (0 : Int32)), .val (.int (1 : Int32)), .val (.ref nb)] [])) (fun _ k => XS.icmpYes X4.here hx rfl (pc0 := 39) (pc' := 51) rfl (hb hby d4_39) rfl (flt (hc : ¬ (p1 < (256 : Int32)))).2.1 (by decide) (by decide) k) ?_
  refine own_go (G := T4.setTop (mkF m 52 #[.val (.ref r0), .val (.int p1), .val (.int (0 : Int32)), .val (.int (1 : Int32)), .val (.ref nb)] [(.ref r0)])) (fun _ k => XS.aloadN X4.here hx rfl (hb hby d4_51) rfl rfl k) ?_
  refine own_go (G := T4.setTop (mkF m 53 #[.val (.ref r0), .val (.int p1), .val (.int (0 : Int32)), .val (.int (1 : Int32)), .val (.ref nb)] [(.int (0 : Int32)), (.ref r0)])) (fun _ k => XS.iloadN X4.here hx rfl (hb hby d4_52) rfl k) ?_
  obtain ⟨cq6, qk6, qk6'⟩ := E_r0.cell
  obtain ⟨_, _, ⟨T6, L6, k6, n6⟩, -, X6, ⟨Lc6, hQ6, l6, y6, z6⟩, st6⟩ := X4.privateBack hx (y := (⟨"com/example/xrefloom/xrefloom/tree/CompactText", "widen", "(I)[C"⟩ : MethodName)) hown (mvT hZ (hw _ (List.mem_of_getElem? (i := 41) rfl))) (mvT hZ (hw _ (List.mem_of_getElem? (i := 42) rfl))) (mvT hZ (own_selPriv (hw _ (List.mem_of_getElem? (i := 42) rfl)) (hw _ (List.mem_of_getElem? (i := 43) rfl)) (hw _ (List.mem_of_getElem? (i := 27) rfl)) rfl (by decide))) (Cond.privateMethod_at (mvP hZ (hw _ (List.mem_of_getElem? (i := 43) rfl)) (args := #[]))) (mvT hZ (hw _ (List.mem_of_getElem? (i := 44) rfl))) (by decide) (backOf (W := 0) (wdN l Z a0 hw [] r0 (1 : Int32) x0 (0 : Int32) (0 : Int32) nb h0 n0 Z0 G) hZ (hw _ (List.mem_of_getElem? (i := 44) rfl)) (hw _ (List.mem_of_getElem? (i := 7) rfl)) (by decide) (by decide)) (g := (mkF m 53 #[.val (.ref r0), .val (.int p1), .val (.int (0 : Int32)), .val (.int (1 : Int32)), .val (.ref nb)] [(.int (0 : Int32)), (.ref r0)])) rfl (by rw [hml]; rfl) (Steps.refl _) (a := r0) (by rw [e4]; exact qk6) qk6' (argsL := [(.int (0 : Int32))]) (rest := []) (lenOf pd1 rfl) rfl (by show 2 * 0 + _ ≤ _; exact Nat.le_of_eq rfl) (hb hby d4_53) (fun _ _ => ⟨rfl, e4, (by decide : 0 + 1 ≤ _), (by decide : 0 + 64 ≤ _)⟩)
  dsimp only [Pt.U, Pt.locs, Pt.cells, Pt.slots] at X6 l6 y6 z6 st6 hQ6
  subst l6 y6 z6
  obtain ⟨wc6, rfl, Nq6, Z6, Gq6⟩ := hQ6
  have N6 := Fr.app N3 Nq6
  have Gn6 : own_W Z T6.heap n0 r0 (1 : Int32) (nar .char ((x0 &&& (255 : Int32)).toUInt32.toUInt16.toUInt32.toInt32)) (nar .char (((0 : Int32) &&& (255 : Int32)).toUInt32.toUInt16.toUInt32.toInt32)) (nar .char (((0 : Int32) &&& (255 : Int32)).toUInt32.toUInt16.toUInt32.toInt32)) wc6 := Gq6
  obtain ⟨-, E_r0, F_length, na, wa, kn, kw, kb, gn_na, gn_wa, gn_wc6, ne_r0_na, ne_r0_wa, ne_r0_wc, ne_na_wa, ne_na_wc, ne_wa_wc, F_narrow, F_wide, Ov, V_na, V_wa, V_wc⟩ := Gn6
  refine own_go (G := T6.setTop (mkF m 56 #[.val (.ref r0), .val (.int p1), .val (.int (0 : Int32)), .val (.int (1 : Int32)), .val (.ref nb)] [(.ref wc6)])) (fun _ k => st6.trans k) ?_
  refine own_go (G := T6.setTop (mkF m 57 #[.val (.ref r0), .val (.int p1), .val (.int (0 : Int32)), .val (.int (1 : Int32)), .val (.ref nb)] [(.int (1 : Int32)), (.ref wc6)])) (fun _ k => XS.iloadN X6.here hx rfl (hb hby d4_56) rfl k) ?_
  refine own_go (G := T6.setTop (mkF m 58 #[.val (.ref r0), .val (.int p1), .val (.int (0 : Int32)), .val (.int (1 : Int32)), .val (.ref nb)] [(.int p1), (.int (1 : Int32)), (.ref wc6)])) (fun _ k => XS.iloadN X6.here hx rfl (hb hby d4_57) rfl k) ?_
  obtain ⟨cl7, Ar7, qk7, S7, N7_, Ha7, G7⟩ := id V_wc
  have hin7 : ¬ ((1 : Int32) < 0 ∨ cl7.slots.size ≤ ((1 : Int32)).toNatClampNeg) := inb_of S7 ⟨by decide, by decide⟩
  obtain ⟨T7, h7, X7, e7, W7, st7⟩ := stC X6 hx hZ rfl Ar7 (j := (1 : Int32)) hin7 (g := (mkF m 58 #[.val (.ref r0), .val (.int p1), .val (.int (0 : Int32)), .val (.int (1 : Int32)), .val (.ref nb)] [(.int p1), (.int (1 : Int32)), (.ref wc6)])) rfl rfl (hb hby d4_58)
  have V7_wc6 : Arv Z h7 wc6 kb .char (64 : Int32) (own_B (nar .char ((x0 &&& (255 : Int32)).toUInt32.toUInt16.toUInt32.toInt32)) (nar .char p1) (nar .char (((0 : Int32) &&& (255 : Int32)).toUInt32.toUInt16.toUInt32.toInt32))) (.int (0 : Int32)) := Arv.set Ar7 qk7 S7 N7_ Ha7 G7 (fits_nar_char _) W7 1 rfl (Nat.le_of_ble_eq_true rfl)
  have E_r0_c7 : Exa Z h7 r0 "com/example/xrefloom/xrefloom/tree/CompactText" := E_r0.wr W7
  have F_length_c7 : Fld Z h7 r0 "com/example/xrefloom/xrefloom/tree/CompactText" "length" "I" (.int (1 : Int32)) := F_length.other W7 (Or.inl ne_r0_wc)
  have F_narrow_c7 : Fld Z h7 r0 "com/example/xrefloom/xrefloom/tree/CompactText" "narrow" "[[B" (.ref na) := F_narrow.other W7 (Or.inl ne_r0_wc)
  have F_wide_c7 : Fld Z h7 r0 "com/example/xrefloom/xrefloom/tree/CompactText" "wide" "[[C" (.ref wa) := F_wide.other W7 (Or.inl ne_r0_wc)
  have V_na_c7 : Arv Z h7 na kn (.array .byte) (1 : Int32) [.null] .null := V_na.other W7 ne_na_wc
  have V_wa_c7 : Arv Z h7 wa kw (.array .char) (1 : Int32) [(.ref wc6)] .null := V_wa.other W7 ne_wa_wc
  have N7 := Fr.snoc X7 N6 gn_wc6
  have Z7 : n0 ≤ h7.size := Nat.le_trans Z6 (Keep.of_wr W7).1
  refine own_go (G := T7.setTop (mkF m 59 #[.val (.ref r0), .val (.int p1), .val (.int (0 : Int32)), .val (.int (1 : Int32)), .val (.ref nb)] [])) (st7) ?_
  refine own_go (G := T7.setTop (mkF m 60 #[.val (.ref r0), .val (.int p1), .val (.int (0 : Int32)), .val (.int (1 : Int32)), .val (.ref nb)] [(.ref r0)])) (fun _ k => XS.aloadN X7.here hx rfl (hb hby d4_59) rfl rfl k) ?_
  refine own_go (G := T7.setTop (mkF m 61 #[.val (.ref r0), .val (.int p1), .val (.int (0 : Int32)), .val (.int (1 : Int32)), .val (.ref nb)] [(.ref r0), (.ref r0)])) (fun _ k => XS.dup X7.here hx rfl (hb hby d4_60) rfl rfl k) ?_
  obtain ⟨T8, X8, e8, st8⟩ := getF X7 hx hZ hown (host := "") (Or.inl (hw _ (List.mem_of_getElem? (i := 29) rfl))) Via.refl e7 F_length_c7 (g := (mkF m 61 #[.val (.ref r0), .val (.int p1), .val (.int (0 : Int32)), .val (.int (1 : Int32)), .val (.ref nb)] [(.ref r0), (.ref r0)])) rfl rfl (hb hby d4_61)
  refine own_go (G := T8.setTop (mkF m 64 #[.val (.ref r0), .val (.int p1), .val (.int (0 : Int32)), .val (.int (1 : Int32)), .val (.ref nb)] [(.int (1 : Int32)), (.ref r0)])) (st8) ?_
  refine own_go (G := T8.setTop (mkF m 65 #[.val (.ref r0), .val (.int p1), .val (.int (0 : Int32)), .val (.int (1 : Int32)), .val (.ref nb)] [(.int (1 : Int32)), (.int (1 : Int32)), (.ref r0)])) (fun _ k => XS.iconst X8.here hx rfl (hb hby d4_64) k) ?_
  refine own_go (G := T8.setTop (mkF m 66 #[.val (.ref r0), .val (.int p1), .val (.int (0 : Int32)), .val (.int (1 : Int32)), .val (.ref nb)] [(.int ((1 : Int32) + (1 : Int32))), (.ref r0)])) (fun _ k => XS.iadd X8.here hx rfl (hb hby d4_65) rfl k) ?_
  rw [show ((1 : Int32) + (1 : Int32)) = (2 : Int32) from by decide]
  obtain ⟨T9, h9, X9, e9, W9, st9⟩ := putF X8 hx hZ hown (host := "") (Or.inl (hw _ (List.mem_of_getElem? (i := 29) rfl))) Via.refl e8 F_length_c7 E_r0_c7 (Or.inl (hw _ (List.mem_of_getElem? (i := 30) rfl))) (hw _ (List.mem_of_getElem? (i := 6) rfl)) (ty := .int) (by decide) rfl rfl (g := (mkF m 66 #[.val (.ref r0), .val (.int p1), .val (.int (0 : Int32)), .val (.int (1 : Int32)), .val (.ref nb)] [(.int (2 : Int32)), (.ref r0)])) rfl rfl (hb hby d4_66)
  have E_r0_c9 : Exa Z h9 r0 "com/example/xrefloom/xrefloom/tree/CompactText" := E_r0_c7.wr W9
  have F_narrow_c9 : Fld Z h9 r0 "com/example/xrefloom/xrefloom/tree/CompactText" "narrow" "[[B" (.ref na) := F_narrow_c7.other W9 (Or.inr (slot_ne (Or.inl (hw _ (List.mem_of_getElem? (i := 19) rfl))) (Or.inl (hw _ (List.mem_of_getElem? (i := 30) rfl))) (by decide) (t := (.array (.array .byte))) (t' := .int) (by decide) (by decide)))
  have F_wide_c9 : Fld Z h9 r0 "com/example/xrefloom/xrefloom/tree/CompactText" "wide" "[[C" (.ref wa) := F_wide_c7.other W9 (Or.inr (slot_ne (Or.inl (hw _ (List.mem_of_getElem? (i := 23) rfl))) (Or.inl (hw _ (List.mem_of_getElem? (i := 30) rfl))) (by decide) (t := (.array (.array .char))) (t' := .int) (by decide) (by decide)))
  have V_na_c9 : Arv Z h9 na kn (.array .byte) (1 : Int32) [.null] .null := V_na_c7.other W9 (Ne.symm ne_r0_na)
  have V_wa_c9 : Arv Z h9 wa kw (.array .char) (1 : Int32) [(.ref wc6)] .null := V_wa_c7.other W9 (Ne.symm ne_r0_wa)
  have V7_wc6_c9 : Arv Z h9 wc6 kb .char (64 : Int32) (own_B (nar .char ((x0 &&& (255 : Int32)).toUInt32.toUInt16.toUInt32.toInt32)) (nar .char p1) (nar .char (((0 : Int32) &&& (255 : Int32)).toUInt32.toUInt16.toUInt32.toInt32))) (.int (0 : Int32)) := V7_wc6.other W9 (Ne.symm ne_r0_wc)
  have Fw9_length : Fld Z h9 r0 "com/example/xrefloom/xrefloom/tree/CompactText" "length" "I" (.int (2 : Int32)) := F_length_c7.same W9
  have N9 := Fr.snoc X9 N7 gn_r0
  have Z9 : n0 ≤ h9.size := Nat.le_trans Z7 (Keep.of_wr W9).1
  refine own_go (G := T9.setTop (mkF m 69 #[.val (.ref r0), .val (.int p1), .val (.int (0 : Int32)), .val (.int (1 : Int32)), .val (.ref nb)] [])) (st9) ?_
  exact own_retV X9 hx Bd.returns (hb hby d4_69) Bd.notSynchronized (by decide) (by decide) (by rw [e9]; exact ⟨rfl, N9, Z9, wc6, ⟨gn_r0, E_r0_c9, Fw9_length, na, wa, kn, kw, kb, gn_na, gn_wa, gn_wc6, ne_r0_na, ne_r0_wa, ne_r0_wc, ne_na_wa, ne_na_wc, ne_wa_wc, F_narrow_c9, F_wide_c9, Ov, V_na_c9, V_wa_c9, V7_wc6_c9⟩⟩)
theorem ef_apX2 (m : MethodId) (r0 : Addr) (p1 : Int32) : entryFrame m #[(.ref r0), (.int p1)] 5 = mkF m 0 #[.val (.ref r0), .val (.int p1), .unset, .unset, .unset] [] := by first | (simp [entryFrame, mkF, argsToLocals, Value.category]; done) | rfl
set_option maxRecDepth 65536 in
set_option maxHeartbeats 40000000 in
theorem apX2 (l : Launch) (Z : State) (a0 : Array Value) (hw : ∀ d ∈ tables_1, d.before a0 Z = true) (ws : List Jvm.Cond) (r0 : Addr) (p1 : Int32) (x0 : Int32) (x1 : Int32) (nb : Addr) (h0 : Heap) (n0 : Nat) (Z0 : n0 ≤ h0.size) (G : own_N Z h0 n0 r0 (2 : Int32) x0 x1 (0 : Int32) nb) (hc : ¬ (p1 < (256 : Int32))) :
    MetFree l (⟨"com/example/xrefloom/xrefloom/tree/CompactText", "append", "(C)V"⟩ : MethodName) (head1 (Jvm.Cond.code (⟨"com/example/xrefloom/xrefloom/tree/CompactText", "append", "(C)V"⟩ : MethodName) prog_30_method_5_code 5 none :: ws) ({ frames := 1, cells := 1, slots := 64, locals := 16 } : Room)) (fun a U => a = #[(.ref r0), (.int p1)] ∧ Z.Warmed39 U.vm ∧ U.heap = h0) (fun _ _ _ _ _ => True) (fun _ U o U' => ∃ v L, o = .returned v ∧ (own_QE (fun h a => own_W Z h n0 r0 (3 : Int32) (nar .char ((x0 &&& (255 : Int32)).toUInt32.toUInt16.toUInt32.toInt32)) (nar .char ((x1 &&& (255 : Int32)).toUInt32.toUInt16.toUInt32.toInt32)) (nar .char p1) a) none n0) v U'.heap L ∧ FrameEnd U o U' L 1 64) := by
  refine MetFree.of_bodySF (plainFor_of_name pn4) hisR ?_
  intro p e s m args below meth c s₁ Bd hml0 hP hK
  obtain ⟨rfl, hZ, hh⟩ := hP
  have hx := Bd.exec
  have hby := Bd.bytes
  have hml : c.maxLocals = 5 := hml0
  have hown : s.vm.findClass "com/example/xrefloom/xrefloom/tree/CompactText" = some m.cls := findClass_of_methodNamed Bd.named
  have hnm := (name_of_methodNamed Bd.named Bd.method).1
  have X0 : Stand p l e ({ frames := 1, cells := 1, slots := 64, locals := 16 } : Room) s m #[(.ref r0), (.int p1)] below meth c s₁ [] 0 0 := Stand.of_body Bd
  have e0 : s₁.heap = h0 := by rw [← hh, Bd.state]; rfl
  have N0 := Fr.nil n0
  obtain ⟨gn_r0, E_r0, F_length, na, wa, kn, kw, kb, gn_na, gn_wa, gn_nb, ne_r0_na, ne_r0_wa, ne_r0_nb, ne_na_wa, ne_na_nb, ne_wa_nb, F_narrow, F_wide, Ov, V_na, V_wa, V_nb⟩ := id G
  show own_Goes p e below (own_End s (own_QE (fun h a => own_W Z h n0 r0 (3 : Int32) (nar .char ((x0 &&& (255 : Int32)).toUInt32.toUInt16.toUInt32.toInt32)) (nar .char ((x1 &&& (255 : Int32)).toUInt32.toUInt16.toUInt32.toInt32)) (nar .char p1) a) none n0) 1 64) _
  refine own_go (G := s₁.setTop (mkF m 0 #[.val (.ref r0), .val (.int p1), .unset, .unset, .unset] [])) (fun t k => castTop (ef_apX2 m r0 p1) k) ?_
  refine own_go (G := s₁.setTop (mkF m 1 #[.val (.ref r0), .val (.int p1), .unset, .unset, .unset] [(.ref r0)])) (fun _ k => XS.aloadN X0.here hx rfl (hb hby d4_0) rfl rfl k) ?_
  obtain ⟨T1, X1, e1, st1⟩ := getF X0 hx hZ hown (host := "") (Or.inl (hw _ (List.mem_of_getElem? (i := 29) rfl))) Via.refl e0 F_length (g := (mkF m 1 #[.val (.ref r0), .val (.int p1), .unset, .unset, .unset] [(.ref r0)])) rfl rfl (hb hby d4_1)
  refine own_go (G := T1.setTop (mkF m 4 #[.val (.ref r0), .val (.int p1), .unset, .unset, .unset] [(.int (2 : Int32))])) (st1) ?_
  refine own_go (G := T1.setTop (mkF m 6 #[.val (.ref r0), .val (.int p1), .unset, .unset, .unset] [(.int (16 : Int32)), (.int (2 : Int32))])) (fun _ k => XS.bipush X1.here hx rfl (hb hby d4_4) k) ?_
  refine own_go (G := T1.setTop (mkF m 7 #[.val (.ref r0), .val (.int p1), .unset, .unset, .unset] [(.int (((2 : Int32).toUInt32 >>> ((16 : Int32) &&& 31).toUInt32).toInt32))])) (fun _ k => XS.iushr X1.here hx rfl (hb hby d4_6) rfl k) ?_
  rw [show (((2 : Int32).toUInt32 >>> ((16 : Int32) &&& 31).toUInt32).toInt32) = (0 : Int32) from by decide]
  refine own_go (G := T1.setTop (mkF m 8 #[.val (.ref r0), .val (.int p1), .val (.int (0 : Int32)), .unset, .unset] [])) (fun _ k => XS.istoreN X1.here hx rfl (hb hby d4_7) rfl (l' := #[.val (.ref r0), .val (.int p1), .val (.int (0 : Int32)), .unset, .unset]) rfl k) ?_
  refine own_go (G := T1.setTop (mkF m 9 #[.val (.ref r0), .val (.int p1), .val (.int (0 : Int32)), .unset, .unset] [(.ref r0)])) (fun _ k => XS.aloadN X1.here hx rfl (hb hby d4_8) rfl rfl k) ?_
  obtain ⟨T2, X2, e2, st2⟩ := getF X1 hx hZ hown (host := "") (Or.inl (hw _ (List.mem_of_getElem? (i := 29) rfl))) Via.refl e1 F_length (g := (mkF m 9 #[.val (.ref r0), .val (.int p1), .val (.int (0 : Int32)), .unset, .unset] [(.ref r0)])) rfl rfl (hb hby d4_9)
  refine own_go (G := T2.setTop (mkF m 12 #[.val (.ref r0), .val (.int p1), .val (.int (0 : Int32)), .unset, .unset] [(.int (2 : Int32))])) (st2) ?_
  refine own_go (G := T2.setTop (mkF m 14 #[.val (.ref r0), .val (.int p1), .val (.int (0 : Int32)), .unset, .unset] [(.int (65535 : Int32)), (.int (2 : Int32))])) (X2.ldcInt hx hown (mvT hZ (hw _ (List.mem_of_getElem? (i := 31) rfl))) (g := (mkF m 12 #[.val (.ref r0), .val (.int p1), .val (.int (0 : Int32)), .unset, .unset] [(.int (2 : Int32))])) rfl (hb hby d4_12)) ?_
  refine own_go (G := T2.setTop (mkF m 15 #[.val (.ref r0), .val (.int p1), .val (.int (0 : Int32)), .unset, .unset] [(.int ((2 : Int32) &&& (65535 : Int32)))])) (fun _ k => XS.iand X2.here hx rfl (hb hby d4_14) rfl k) ?_
  rw [show ((2 : Int32) &&& (65535 : Int32)) = (2 : Int32) from by decide]
  refine own_go (G := T2.setTop (mkF m 16 #[.val (.ref r0), .val (.int p1), .val (.int (0 : Int32)), .val (.int (2 : Int32)), .unset] [])) (fun _ k => XS.istoreN X2.here hx rfl (hb hby d4_15) rfl (l' := #[.val (.ref r0), .val (.int p1), .val (.int (0 : Int32)), .val (.int (2 : Int32)), .unset]) rfl k) ?_
  refine own_go (G := T2.setTop (mkF m 17 #[.val (.ref r0), .val (.int p1), .val (.int (0 : Int32)), .val (.int (2 : Int32)), .unset] [(.ref r0)])) (fun _ k => XS.aloadN X2.here hx rfl (hb hby d4_16) rfl rfl k) ?_
  refine own_go (G := T2.setTop (mkF m 18 #[.val (.ref r0), .val (.int p1), .val (.int (0 : Int32)), .val (.int (2 : Int32)), .unset] [(.int (0 : Int32)), (.ref r0)])) (fun _ k => XS.iloadN X2.here hx rfl (hb hby d4_17) rfl k) ?_
  refine own_go (G := T2.setTop (mkF m 19 #[.val (.ref r0), .val (.int p1), .val (.int (0 : Int32)), .val (.int (2 : Int32)), .unset] [(.int (2 : Int32)), (.int (0 : Int32)), (.ref r0)])) (fun _ k => XS.iloadN X2.here hx rfl (hb hby d4_18) rfl k) ?_
  obtain ⟨cq3, qk3, qk3'⟩ := E_r0.cell
  obtain ⟨_, _, ⟨T3, L3, k3, n3⟩, -, X3, ⟨Lc3, hQ3, l3, y3, z3⟩, st3⟩ := X2.privateBack hx (y := (⟨"com/example/xrefloom/xrefloom/tree/CompactText", "makeRoom", "(II)V"⟩ : MethodName)) hown (mvT hZ (hw _ (List.mem_of_getElem? (i := 32) rfl))) (mvT hZ (hw _ (List.mem_of_getElem? (i := 33) rfl))) (mvT hZ (own_selPriv (hw _ (List.mem_of_getElem? (i := 33) rfl)) (hw _ (List.mem_of_getElem? (i := 34) rfl)) (hw _ (List.mem_of_getElem? (i := 27) rfl)) rfl (by decide))) (Cond.privateMethod_at (mvP hZ (hw _ (List.mem_of_getElem? (i := 34) rfl)) (args := #[]))) (mvT hZ (hw _ (List.mem_of_getElem? (i := 35) rfl))) (by decide) (backOf (W := 0) (mrN2 l Z a0 hw [] r0 x0 x1 (0 : Int32) nb h0 n0 Z0 G) hZ (hw _ (List.mem_of_getElem? (i := 35) rfl)) (hw _ (List.mem_of_getElem? (i := 7) rfl)) (by decide) (by decide)) (g := (mkF m 19 #[.val (.ref r0), .val (.int p1), .val (.int (0 : Int32)), .val (.int (2 : Int32)), .unset] [(.int (2 : Int32)), (.int (0 : Int32)), (.ref r0)])) rfl (by rw [hml]; rfl) (Steps.refl _) (a := r0) (by rw [e2]; exact qk3) qk3' (argsL := [(.int (0 : Int32)), (.int (2 : Int32))]) (rest := []) (lenOf pd0 rfl) rfl (by show 2 * 0 + _ ≤ _; exact Nat.le_of_eq rfl) (hb hby d4_19) (fun _ _ => ⟨rfl, e2, (by decide : 0 + 0 ≤ _), (by decide : 0 + 0 ≤ _)⟩)
  dsimp only [Pt.U, Pt.locs, Pt.cells, Pt.slots] at X3 l3 y3 z3 st3 hQ3
  subst l3 y3 z3
  obtain ⟨rfl, Nq3, e3⟩ := hQ3
  have N3 := Fr.app N0 Nq3
  refine own_go (G := T3.setTop (mkF m 22 #[.val (.ref r0), .val (.int p1), .val (.int (0 : Int32)), .val (.int (2 : Int32)), .unset] [])) (fun _ k => st3.trans k) ?_
  refine own_go (G := T3.setTop (mkF m 23 #[.val (.ref r0), .val (.int p1), .val (.int (0 : Int32)), .val (.int (2 : Int32)), .unset] [(.ref r0)])) (fun _ k => XS.aloadN X3.here hx rfl (hb hby d4_22) rfl rfl k) ?_
  obtain ⟨T4, X4, e4, st4⟩ := getF X3 hx hZ hown (host := "") (Or.inl (hw _ (List.mem_of_getElem? (i := 18) rfl))) Via.refl e3 F_narrow (g := (mkF m 23 #[.val (.ref r0), .val (.int p1), .val (.int (0 : Int32)), .val (.int (2 : Int32)), .unset] [(.ref r0)])) rfl rfl (hb hby d4_23)
  refine own_go (G := T4.setTop (mkF m 26 #[.val (.ref r0), .val (.int p1), .val (.int (0 : Int32)), .val (.int (2 : Int32)), .unset] [(.ref na)])) (st4) ?_
  refine own_go (G := T4.setTop (mkF m 27 #[.val (.ref r0), .val (.int p1), .val (.int (0 : Int32)), .val (.int (2 : Int32)), .unset] [(.int (0 : Int32)), (.ref na)])) (fun _ k => XS.iloadN X4.here hx rfl (hb hby d4_26) rfl k) ?_
  obtain ⟨cl5, Ar5, qk5, S5, N5_, Ha5, G5⟩ := id V_na
  have hin5 : ¬ ((0 : Int32) < 0 ∨ cl5.slots.size ≤ ((0 : Int32)).toNatClampNeg) := inb_of S5 ⟨by decide, by decide⟩
  have hat5 : cl5.slots[((0 : Int32)).toNatClampNeg]? = some (.ref nb) := Ha5.at hin5 rfl
  refine own_go (G := T4.setTop (mkF m 28 #[.val (.ref r0), .val (.int p1), .val (.int (0 : Int32)), .val (.int (2 : Int32)), .unset] [(.ref nb)])) (X4.aaload hx (j := (0 : Int32)) (v := (.ref nb)) (by rw [e4]; exact Ar5.1) (State.isArrayOf_alike hZ.alike Ar5.2.1) rfl Ar5.2.2 hin5 hat5 (g := (mkF m 27 #[.val (.ref r0), .val (.int p1), .val (.int (0 : Int32)), .val (.int (2 : Int32)), .unset] [(.int (0 : Int32)), (.ref na)])) rfl rfl (hb hby d4_27)) ?_
  refine own_go (G := T4.setTop (mkF m 30 #[.val (.ref r0), .val (.int p1), .val (.int (0 : Int32)), .val (.int (2 : Int32)), .val (.ref nb)] [])) (fun _ k => XS.astore X4.here hx rfl (hb hby d4_28) rfl rfl (l' := #[.val (.ref r0), .val (.int p1), .val (.int (0 : Int32)), .val (.int (2 : Int32)), .val (.ref nb)]) rfl k) ?_
  refine own_go (G := T4.setTop (mkF m 32 #[.val (.ref r0), .val (.int p1), .val (.int (0 : Int32)), .val (.int (2 : Int32)), .val (.ref nb)] [(.ref nb)])) (fun _ k => XS.aload X4.here hx rfl (hb hby d4_30) rfl rfl k) ?_
  refine own_go (G := T4.setTop (mkF m 35 #[.val (.ref r0), .val (.int p1), .val (.int (0 : Int32)), .val (.int (2 : Int32)), .val (.ref nb)] [])) (fun _ k => XS.ifnullNo X4.here hx rfl (hb hby d4_32) rfl k) ?_
  refine own_go (G := T4.setTop (mkF m 36 #[.val (.ref r0), .val (.int p1), .val (.int (0 : Int32)), .val (.int (2 : Int32)), .val (.ref nb)] [(.int p1)])) (fun _ k => XS.iloadN X4.here hx rfl (hb hby d4_35) rfl k) ?_
  refine own_go (G := T4.setTop (mkF m 39 #[.val (.ref r0), .val (.int p1), .val (.int (0 : Int32)), .val (.int (2 : Int32)), .val (.ref nb)] [(.int (256 : Int32)), (.int p1)])) (fun _ k => XS.sipush X4.here hx rfl (hb hby d4_36) k) ?_
  refine own_go (G := T4.setTop (mkF m 51 #[.val (.ref r0), .val (.int p1), .val (.int (0 : Int32)), .val (.int (2 : Int32)), .val (.ref nb)] [])) (fun _ k => XS.icmpYes X4.here hx rfl (pc0 := 39) (pc' := 51) rfl (hb hby d4_39) rfl (flt (hc : ¬ (p1 < (256 : Int32)))).2.1 (by decide) (by decide) k) ?_
  refine own_go (G := T4.setTop (mkF m 52 #[.val (.ref r0), .val (.int p1), .val (.int (0 : Int32)), .val (.int (2 : Int32)), .val (.ref nb)] [(.ref r0)])) (fun _ k => XS.aloadN X4.here hx rfl (hb hby d4_51) rfl rfl k) ?_
  refine own_go (G := T4.setTop (mkF m 53 #[.val (.ref r0), .val (.int p1), .val (.int (0 : Int32)), .val (.int (2 : Int32)), .val (.ref nb)] [(.int (0 : Int32)), (.ref r0)])) (fun _ k => XS.iloadN X4.here hx rfl (hb hby d4_52) rfl k) ?_
  obtain ⟨cq6, qk6, qk6'⟩ := E_r0.cell
  obtain ⟨_, _, ⟨T6, L6, k6, n6⟩, -, X6, ⟨Lc6, hQ6, l6, y6, z6⟩, st6⟩ := X4.privateBack hx (y := (⟨"com/example/xrefloom/xrefloom/tree/CompactText", "widen", "(I)[C"⟩ : MethodName)) hown (mvT hZ (hw _ (List.mem_of_getElem? (i := 41) rfl))) (mvT hZ (hw _ (List.mem_of_getElem? (i := 42) rfl))) (mvT hZ (own_selPriv (hw _ (List.mem_of_getElem? (i := 42) rfl)) (hw _ (List.mem_of_getElem? (i := 43) rfl)) (hw _ (List.mem_of_getElem? (i := 27) rfl)) rfl (by decide))) (Cond.privateMethod_at (mvP hZ (hw _ (List.mem_of_getElem? (i := 43) rfl)) (args := #[]))) (mvT hZ (hw _ (List.mem_of_getElem? (i := 44) rfl))) (by decide) (backOf (W := 0) (wdN l Z a0 hw [] r0 (2 : Int32) x0 x1 (0 : Int32) nb h0 n0 Z0 G) hZ (hw _ (List.mem_of_getElem? (i := 44) rfl)) (hw _ (List.mem_of_getElem? (i := 7) rfl)) (by decide) (by decide)) (g := (mkF m 53 #[.val (.ref r0), .val (.int p1), .val (.int (0 : Int32)), .val (.int (2 : Int32)), .val (.ref nb)] [(.int (0 : Int32)), (.ref r0)])) rfl (by rw [hml]; rfl) (Steps.refl _) (a := r0) (by rw [e4]; exact qk6) qk6' (argsL := [(.int (0 : Int32))]) (rest := []) (lenOf pd1 rfl) rfl (by show 2 * 0 + _ ≤ _; exact Nat.le_of_eq rfl) (hb hby d4_53) (fun _ _ => ⟨rfl, e4, (by decide : 0 + 1 ≤ _), (by decide : 0 + 64 ≤ _)⟩)
  dsimp only [Pt.U, Pt.locs, Pt.cells, Pt.slots] at X6 l6 y6 z6 st6 hQ6
  subst l6 y6 z6
  obtain ⟨wc6, rfl, Nq6, Z6, Gq6⟩ := hQ6
  have N6 := Fr.app N3 Nq6
  have Gn6 : own_W Z T6.heap n0 r0 (2 : Int32) (nar .char ((x0 &&& (255 : Int32)).toUInt32.toUInt16.toUInt32.toInt32)) (nar .char ((x1 &&& (255 : Int32)).toUInt32.toUInt16.toUInt32.toInt32)) (nar .char (((0 : Int32) &&& (255 : Int32)).toUInt32.toUInt16.toUInt32.toInt32)) wc6 := Gq6
  obtain ⟨-, E_r0, F_length, na, wa, kn, kw, kb, gn_na, gn_wa, gn_wc6, ne_r0_na, ne_r0_wa, ne_r0_wc, ne_na_wa, ne_na_wc, ne_wa_wc, F_narrow, F_wide, Ov, V_na, V_wa, V_wc⟩ := Gn6
  refine own_go (G := T6.setTop (mkF m 56 #[.val (.ref r0), .val (.int p1), .val (.int (0 : Int32)), .val (.int (2 : Int32)), .val (.ref nb)] [(.ref wc6)])) (fun _ k => st6.trans k) ?_
  refine own_go (G := T6.setTop (mkF m 57 #[.val (.ref r0), .val (.int p1), .val (.int (0 : Int32)), .val (.int (2 : Int32)), .val (.ref nb)] [(.int (2 : Int32)), (.ref wc6)])) (fun _ k => XS.iloadN X6.here hx rfl (hb hby d4_56) rfl k) ?_
  refine own_go (G := T6.setTop (mkF m 58 #[.val (.ref r0), .val (.int p1), .val (.int (0 : Int32)), .val (.int (2 : Int32)), .val (.ref nb)] [(.int p1), (.int (2 : Int32)), (.ref wc6)])) (fun _ k => XS.iloadN X6.here hx rfl (hb hby d4_57) rfl k) ?_
  obtain ⟨cl7, Ar7, qk7, S7, N7_, Ha7, G7⟩ := id V_wc
  have hin7 : ¬ ((2 : Int32) < 0 ∨ cl7.slots.size ≤ ((2 : Int32)).toNatClampNeg) := inb_of S7 ⟨by decide, by decide⟩
  obtain ⟨T7, h7, X7, e7, W7, st7⟩ := stC X6 hx hZ rfl Ar7 (j := (2 : Int32)) hin7 (g := (mkF m 58 #[.val (.ref r0), .val (.int p1), .val (.int (0 : Int32)), .val (.int (2 : Int32)), .val (.ref nb)] [(.int p1), (.int (2 : Int32)), (.ref wc6)])) rfl rfl (hb hby d4_58)
  have V7_wc6 : Arv Z h7 wc6 kb .char (64 : Int32) (own_B (nar .char ((x0 &&& (255 : Int32)).toUInt32.toUInt16.toUInt32.toInt32)) (nar .char ((x1 &&& (255 : Int32)).toUInt32.toUInt16.toUInt32.toInt32)) (nar .char p1)) (.int (0 : Int32)) := Arv.set Ar7 qk7 S7 N7_ Ha7 G7 (fits_nar_char _) W7 2 rfl (Nat.le_of_ble_eq_true rfl)
  have E_r0_c7 : Exa Z h7 r0 "com/example/xrefloom/xrefloom/tree/CompactText" := E_r0.wr W7
  have F_length_c7 : Fld Z h7 r0 "com/example/xrefloom/xrefloom/tree/CompactText" "length" "I" (.int (2 : Int32)) := F_length.other W7 (Or.inl ne_r0_wc)
  have F_narrow_c7 : Fld Z h7 r0 "com/example/xrefloom/xrefloom/tree/CompactText" "narrow" "[[B" (.ref na) := F_narrow.other W7 (Or.inl ne_r0_wc)
  have F_wide_c7 : Fld Z h7 r0 "com/example/xrefloom/xrefloom/tree/CompactText" "wide" "[[C" (.ref wa) := F_wide.other W7 (Or.inl ne_r0_wc)
  have V_na_c7 : Arv Z h7 na kn (.array .byte) (1 : Int32) [.null] .null := V_na.other W7 ne_na_wc
  have V_wa_c7 : Arv Z h7 wa kw (.array .char) (1 : Int32) [(.ref wc6)] .null := V_wa.other W7 ne_wa_wc
  have N7 := Fr.snoc X7 N6 gn_wc6
  have Z7 : n0 ≤ h7.size := Nat.le_trans Z6 (Keep.of_wr W7).1
  refine own_go (G := T7.setTop (mkF m 59 #[.val (.ref r0), .val (.int p1), .val (.int (0 : Int32)), .val (.int (2 : Int32)), .val (.ref nb)] [])) (st7) ?_
  refine own_go (G := T7.setTop (mkF m 60 #[.val (.ref r0), .val (.int p1), .val (.int (0 : Int32)), .val (.int (2 : Int32)), .val (.ref nb)] [(.ref r0)])) (fun _ k => XS.aloadN X7.here hx rfl (hb hby d4_59) rfl rfl k) ?_
  refine own_go (G := T7.setTop (mkF m 61 #[.val (.ref r0), .val (.int p1), .val (.int (0 : Int32)), .val (.int (2 : Int32)), .val (.ref nb)] [(.ref r0), (.ref r0)])) (fun _ k => XS.dup X7.here hx rfl (hb hby d4_60) rfl rfl k) ?_
  obtain ⟨T8, X8, e8, st8⟩ := getF X7 hx hZ hown (host := "") (Or.inl (hw _ (List.mem_of_getElem? (i := 29) rfl))) Via.refl e7 F_length_c7 (g := (mkF m 61 #[.val (.ref r0), .val (.int p1), .val (.int (0 : Int32)), .val (.int (2 : Int32)), .val (.ref nb)] [(.ref r0), (.ref r0)])) rfl rfl (hb hby d4_61)
  refine own_go (G := T8.setTop (mkF m 64 #[.val (.ref r0), .val (.int p1), .val (.int (0 : Int32)), .val (.int (2 : Int32)), .val (.ref nb)] [(.int (2 : Int32)), (.ref r0)])) (st8) ?_
  refine own_go (G := T8.setTop (mkF m 65 #[.val (.ref r0), .val (.int p1), .val (.int (0 : Int32)), .val (.int (2 : Int32)), .val (.ref nb)] [(.int (1 : Int32)), (.int (2 : Int32)), (.ref r0)])) (fun _ k => XS.iconst X8.here hx rfl (hb hby d4_64) k) ?_
  refine own_go (G := T8.setTop (mkF m 66 #[.val (.ref r0), .val (.int p1), .val (.int (0 : Int32)), .val (.int (2 : Int32)), .val (.ref nb)] [(.int ((2 : Int32) + (1 : Int32))), (.ref r0)])) (fun _ k => XS.iadd X8.here hx rfl (hb hby d4_65) rfl k) ?_
  rw [show ((2 : Int32) + (1 : Int32)) = (3 : Int32) from by decide]
  obtain ⟨T9, h9, X9, e9, W9, st9⟩ := putF X8 hx hZ hown (host := "") (Or.inl (hw _ (List.mem_of_getElem? (i := 29) rfl))) Via.refl e8 F_length_c7 E_r0_c7 (Or.inl (hw _ (List.mem_of_getElem? (i := 30) rfl))) (hw _ (List.mem_of_getElem? (i := 6) rfl)) (ty := .int) (by decide) rfl rfl (g := (mkF m 66 #[.val (.ref r0), .val (.int p1), .val (.int (0 : Int32)), .val (.int (2 : Int32)), .val (.ref nb)] [(.int (3 : Int32)), (.ref r0)])) rfl rfl (hb hby d4_66)
  have E_r0_c9 : Exa Z h9 r0 "com/example/xrefloom/xrefloom/tree/CompactText" := E_r0_c7.wr W9
  have F_narrow_c9 : Fld Z h9 r0 "com/example/xrefloom/xrefloom/tree/CompactText" "narrow" "[[B" (.ref na) := F_narrow_c7.other W9 (Or.inr (slot_ne (Or.inl (hw _ (List.mem_of_getElem? (i := 19) rfl))) (Or.inl (hw _ (List.mem_of_getElem? (i := 30) rfl))) (by decide) (t := (.array (.array .byte))) (t' := .int) (by decide) (by decide)))
  have F_wide_c9 : Fld Z h9 r0 "com/example/xrefloom/xrefloom/tree/CompactText" "wide" "[[C" (.ref wa) := F_wide_c7.other W9 (Or.inr (slot_ne (Or.inl (hw _ (List.mem_of_getElem? (i := 23) rfl))) (Or.inl (hw _ (List.mem_of_getElem? (i := 30) rfl))) (by decide) (t := (.array (.array .char))) (t' := .int) (by decide) (by decide)))
  have V_na_c9 : Arv Z h9 na kn (.array .byte) (1 : Int32) [.null] .null := V_na_c7.other W9 (Ne.symm ne_r0_na)
  have V_wa_c9 : Arv Z h9 wa kw (.array .char) (1 : Int32) [(.ref wc6)] .null := V_wa_c7.other W9 (Ne.symm ne_r0_wa)
  have V7_wc6_c9 : Arv Z h9 wc6 kb .char (64 : Int32) (own_B (nar .char ((x0 &&& (255 : Int32)).toUInt32.toUInt16.toUInt32.toInt32)) (nar .char ((x1 &&& (255 : Int32)).toUInt32.toUInt16.toUInt32.toInt32)) (nar .char p1)) (.int (0 : Int32)) := V7_wc6.other W9 (Ne.symm ne_r0_wc)
  have Fw9_length : Fld Z h9 r0 "com/example/xrefloom/xrefloom/tree/CompactText" "length" "I" (.int (3 : Int32)) := F_length_c7.same W9
  have N9 := Fr.snoc X9 N7 gn_r0
  have Z9 : n0 ≤ h9.size := Nat.le_trans Z7 (Keep.of_wr W9).1
  refine own_go (G := T9.setTop (mkF m 69 #[.val (.ref r0), .val (.int p1), .val (.int (0 : Int32)), .val (.int (2 : Int32)), .val (.ref nb)] [])) (st9) ?_
  exact own_retV X9 hx Bd.returns (hb hby d4_69) Bd.notSynchronized (by decide) (by decide) (by rw [e9]; exact ⟨rfl, N9, Z9, wc6, ⟨gn_r0, E_r0_c9, Fw9_length, na, wa, kn, kw, kb, gn_na, gn_wa, gn_wc6, ne_r0_na, ne_r0_wa, ne_r0_wc, ne_na_wa, ne_na_wc, ne_wa_wc, F_narrow_c9, F_wide_c9, Ov, V_na_c9, V_wa_c9, V7_wc6_c9⟩⟩)
theorem d6_0 : decode prog_30_method_3_code 0 = .ok (.iload_n 1, 1) := by decide +kernel
theorem d6_1 : decode prog_30_method_3_code 1 = .ok (.bipush 16, 2) := by decide +kernel
theorem d6_3 : decode prog_30_method_3_code 3 = .ok (.iushr, 1) := by decide +kernel
theorem d6_4 : decode prog_30_method_3_code 4 = .ok (.istore_n 2, 1) := by decide +kernel
theorem d6_5 : decode prog_30_method_3_code 5 = .ok (.iload_n 1, 1) := by decide +kernel
theorem d6_6 : decode prog_30_method_3_code 6 = .ok (.ldc 25, 2) := by decide +kernel
theorem d6_8 : decode prog_30_method_3_code 8 = .ok (.iand, 1) := by decide +kernel
theorem d6_9 : decode prog_30_method_3_code 9 = .ok (.istore_n 3, 1) := by decide +kernel
theorem d6_10 : decode prog_30_method_3_code 10 = .ok (.aload_n 0, 1) := by decide +kernel
theorem d6_11 : decode prog_30_method_3_code 11 = .ok (.getfield 11, 3) := by decide +kernel
theorem d6_14 : decode prog_30_method_3_code 14 = .ok (.iload_n 2, 1) := by decide +kernel
theorem d6_15 : decode prog_30_method_3_code 15 = .ok (.aaload, 1) := by decide +kernel
theorem d6_16 : decode prog_30_method_3_code 16 = .ok (.astore 4, 2) := by decide +kernel
theorem d6_18 : decode prog_30_method_3_code 18 = .ok (.aload 4, 2) := by decide +kernel
theorem d6_20 : decode prog_30_method_3_code 20 = .ok (.ifnull 15, 3) := by decide +kernel
theorem d6_23 : decode prog_30_method_3_code 23 = .ok (.aload 4, 2) := by decide +kernel
theorem d6_25 : decode prog_30_method_3_code 25 = .ok (.iload_n 3, 1) := by decide +kernel
theorem d6_26 : decode prog_30_method_3_code 26 = .ok (.baload, 1) := by decide +kernel
theorem d6_27 : decode prog_30_method_3_code 27 = .ok (.sipush 255, 3) := by decide +kernel
theorem d6_30 : decode prog_30_method_3_code 30 = .ok (.iand, 1) := by decide +kernel
theorem d6_31 : decode prog_30_method_3_code 31 = .ok (.i2c, 1) := by decide +kernel
theorem d6_32 : decode prog_30_method_3_code 32 = .ok (.goto 11, 3) := by decide +kernel
theorem d6_43 : decode prog_30_method_3_code 43 = .ok (.ireturn, 1) := by decide +kernel
theorem pn6 : plainName "com/example/xrefloom/xrefloom/tree/CompactText" = true := by first | (simp [plainName, overriddenIn]; done) | decide +kernel
theorem ef_caN0 (m : MethodId) (r0 : Addr) : entryFrame m #[(.ref r0), (.int (0 : Int32))] 5 = mkF m 0 #[.val (.ref r0), .val (.int (0 : Int32)), .unset, .unset, .unset] [] := by first | (simp [entryFrame, mkF, argsToLocals, Value.category]; done) | rfl
set_option maxRecDepth 65536 in
set_option maxHeartbeats 40000000 in
theorem caN0 (l : Launch) (Z : State) (a0 : Array Value) (hw : ∀ d ∈ tables_1, d.before a0 Z = true) (ws : List Jvm.Cond) (r0 : Addr) (len : Int32) (x0 : Int32) (x1 : Int32) (x2 : Int32) (nb : Addr) (h0 : Heap) (n0 : Nat) (Z0 : n0 ≤ h0.size) (G : own_N Z h0 n0 r0 len x0 x1 x2 nb) :
    MetFree l (⟨"com/example/xrefloom/xrefloom/tree/CompactText", "charAt", "(I)C"⟩ : MethodName) (head1 (Jvm.Cond.code (⟨"com/example/xrefloom/xrefloom/tree/CompactText", "charAt", "(I)C"⟩ : MethodName) prog_30_method_3_code 5 (some .char) :: ws) ({ frames := 0, cells := 0, slots := 0, locals := 0 } : Room)) (fun a U => a = #[(.ref r0), (.int (0 : Int32))] ∧ Z.Warmed39 U.vm ∧ U.heap = h0) (fun _ _ _ _ _ => True) (fun _ U o U' => ∃ v L, o = .returned v ∧ (own_Same (.int (nar .char ((x0 &&& (255 : Int32)).toUInt32.toUInt16.toUInt32.toInt32))) h0 n0) v U'.heap L ∧ FrameEnd U o U' L 0 0) := by
  refine MetFree.of_bodySF (plainFor_of_name pn6) hisR ?_
  intro p e s m args below meth c s₁ Bd hml0 hP hK
  obtain ⟨rfl, hZ, hh⟩ := hP
  have hx := Bd.exec
  have hby := Bd.bytes
  have hml : c.maxLocals = 5 := hml0
  have hown : s.vm.findClass "com/example/xrefloom/xrefloom/tree/CompactText" = some m.cls := findClass_of_methodNamed Bd.named
  have hnm := (name_of_methodNamed Bd.named Bd.method).1
  have X0 : Stand p l e ({ frames := 0, cells := 0, slots := 0, locals := 0 } : Room) s m #[(.ref r0), (.int (0 : Int32))] below meth c s₁ [] 0 0 := Stand.of_body Bd
  have e0 : s₁.heap = h0 := by rw [← hh, Bd.state]; rfl
  have N0 := Fr.nil n0
  obtain ⟨gn_r0, E_r0, F_length, na, wa, kn, kw, kb, gn_na, gn_wa, gn_nb, ne_r0_na, ne_r0_wa, ne_r0_nb, ne_na_wa, ne_na_nb, ne_wa_nb, F_narrow, F_wide, Ov, V_na, V_wa, V_nb⟩ := G
  show own_Goes p e below (own_End s (own_Same (.int (nar .char ((x0 &&& (255 : Int32)).toUInt32.toUInt16.toUInt32.toInt32))) h0 n0) 0 0) _
  refine own_go (G := s₁.setTop (mkF m 0 #[.val (.ref r0), .val (.int (0 : Int32)), .unset, .unset, .unset] [])) (fun t k => castTop (ef_caN0 m r0) k) ?_
  refine own_go (G := s₁.setTop (mkF m 1 #[.val (.ref r0), .val (.int (0 : Int32)), .unset, .unset, .unset] [(.int (0 : Int32))])) (fun _ k => XS.iloadN X0.here hx rfl (hb hby d6_0) rfl k) ?_
  refine own_go (G := s₁.setTop (mkF m 3 #[.val (.ref r0), .val (.int (0 : Int32)), .unset, .unset, .unset] [(.int (16 : Int32)), (.int (0 : Int32))])) (fun _ k => XS.bipush X0.here hx rfl (hb hby d6_1) k) ?_
  refine own_go (G := s₁.setTop (mkF m 4 #[.val (.ref r0), .val (.int (0 : Int32)), .unset, .unset, .unset] [(.int (((0 : Int32).toUInt32 >>> ((16 : Int32) &&& 31).toUInt32).toInt32))])) (fun _ k => XS.iushr X0.here hx rfl (hb hby d6_3) rfl k) ?_
  rw [show (((0 : Int32).toUInt32 >>> ((16 : Int32) &&& 31).toUInt32).toInt32) = (0 : Int32) from by decide]
  refine own_go (G := s₁.setTop (mkF m 5 #[.val (.ref r0), .val (.int (0 : Int32)), .val (.int (0 : Int32)), .unset, .unset] [])) (fun _ k => XS.istoreN X0.here hx rfl (hb hby d6_4) rfl (l' := #[.val (.ref r0), .val (.int (0 : Int32)), .val (.int (0 : Int32)), .unset, .unset]) rfl k) ?_
  refine own_go (G := s₁.setTop (mkF m 6 #[.val (.ref r0), .val (.int (0 : Int32)), .val (.int (0 : Int32)), .unset, .unset] [(.int (0 : Int32))])) (fun _ k => XS.iloadN X0.here hx rfl (hb hby d6_5) rfl k) ?_
  refine own_go (G := s₁.setTop (mkF m 8 #[.val (.ref r0), .val (.int (0 : Int32)), .val (.int (0 : Int32)), .unset, .unset] [(.int (65535 : Int32)), (.int (0 : Int32))])) (X0.ldcInt hx hown (mvT hZ (hw _ (List.mem_of_getElem? (i := 31) rfl))) (g := (mkF m 6 #[.val (.ref r0), .val (.int (0 : Int32)), .val (.int (0 : Int32)), .unset, .unset] [(.int (0 : Int32))])) rfl (hb hby d6_6)) ?_
  refine own_go (G := s₁.setTop (mkF m 9 #[.val (.ref r0), .val (.int (0 : Int32)), .val (.int (0 : Int32)), .unset, .unset] [(.int ((0 : Int32) &&& (65535 : Int32)))])) (fun _ k => XS.iand X0.here hx rfl (hb hby d6_8) rfl k) ?_
  rw [show ((0 : Int32) &&& (65535 : Int32)) = (0 : Int32) from by decide]
  refine own_go (G := s₁.setTop (mkF m 10 #[.val (.ref r0), .val (.int (0 : Int32)), .val (.int (0 : Int32)), .val (.int (0 : Int32)), .unset] [])) (fun _ k => XS.istoreN X0.here hx rfl (hb hby d6_9) rfl (l' := #[.val (.ref r0), .val (.int (0 : Int32)), .val (.int (0 : Int32)), .val (.int (0 : Int32)), .unset]) rfl k) ?_
  refine own_go (G := s₁.setTop (mkF m 11 #[.val (.ref r0), .val (.int (0 : Int32)), .val (.int (0 : Int32)), .val (.int (0 : Int32)), .unset] [(.ref r0)])) (fun _ k => XS.aloadN X0.here hx rfl (hb hby d6_10) rfl rfl k) ?_
  obtain ⟨T1, X1, e1, st1⟩ := getF X0 hx hZ hown (host := "") (Or.inl (hw _ (List.mem_of_getElem? (i := 18) rfl))) Via.refl e0 F_narrow (g := (mkF m 11 #[.val (.ref r0), .val (.int (0 : Int32)), .val (.int (0 : Int32)), .val (.int (0 : Int32)), .unset] [(.ref r0)])) rfl rfl (hb hby d6_11)
  refine own_go (G := T1.setTop (mkF m 14 #[.val (.ref r0), .val (.int (0 : Int32)), .val (.int (0 : Int32)), .val (.int (0 : Int32)), .unset] [(.ref na)])) (st1) ?_
  refine own_go (G := T1.setTop (mkF m 15 #[.val (.ref r0), .val (.int (0 : Int32)), .val (.int (0 : Int32)), .val (.int (0 : Int32)), .unset] [(.int (0 : Int32)), (.ref na)])) (fun _ k => XS.iloadN X1.here hx rfl (hb hby d6_14) rfl k) ?_
  obtain ⟨cl2, Ar2, qk2, S2, N2_, Ha2, G2⟩ := id V_na
  have hin2 : ¬ ((0 : Int32) < 0 ∨ cl2.slots.size ≤ ((0 : Int32)).toNatClampNeg) := inb_of S2 ⟨by decide, by decide⟩
  have hat2 : cl2.slots[((0 : Int32)).toNatClampNeg]? = some (.ref nb) := Ha2.at hin2 rfl
  refine own_go (G := T1.setTop (mkF m 16 #[.val (.ref r0), .val (.int (0 : Int32)), .val (.int (0 : Int32)), .val (.int (0 : Int32)), .unset] [(.ref nb)])) (X1.aaload hx (j := (0 : Int32)) (v := (.ref nb)) (by rw [e1]; exact Ar2.1) (State.isArrayOf_alike hZ.alike Ar2.2.1) rfl Ar2.2.2 hin2 hat2 (g := (mkF m 15 #[.val (.ref r0), .val (.int (0 : Int32)), .val (.int (0 : Int32)), .val (.int (0 : Int32)), .unset] [(.int (0 : Int32)), (.ref na)])) rfl rfl (hb hby d6_15)) ?_
  refine own_go (G := T1.setTop (mkF m 18 #[.val (.ref r0), .val (.int (0 : Int32)), .val (.int (0 : Int32)), .val (.int (0 : Int32)), .val (.ref nb)] [])) (fun _ k => XS.astore X1.here hx rfl (hb hby d6_16) rfl rfl (l' := #[.val (.ref r0), .val (.int (0 : Int32)), .val (.int (0 : Int32)), .val (.int (0 : Int32)), .val (.ref nb)]) rfl k) ?_
  refine own_go (G := T1.setTop (mkF m 20 #[.val (.ref r0), .val (.int (0 : Int32)), .val (.int (0 : Int32)), .val (.int (0 : Int32)), .val (.ref nb)] [(.ref nb)])) (fun _ k => XS.aload X1.here hx rfl (hb hby d6_18) rfl rfl k) ?_
  refine own_go (G := T1.setTop (mkF m 23 #[.val (.ref r0), .val (.int (0 : Int32)), .val (.int (0 : Int32)), .val (.int (0 : Int32)), .val (.ref nb)] [])) (fun _ k => XS.ifnullNo X1.here hx rfl (hb hby d6_20) rfl k) ?_
  refine own_go (G := T1.setTop (mkF m 25 #[.val (.ref r0), .val (.int (0 : Int32)), .val (.int (0 : Int32)), .val (.int (0 : Int32)), .val (.ref nb)] [(.ref nb)])) (fun _ k => XS.aload X1.here hx rfl (hb hby d6_23) rfl rfl k) ?_
  refine own_go (G := T1.setTop (mkF m 26 #[.val (.ref r0), .val (.int (0 : Int32)), .val (.int (0 : Int32)), .val (.int (0 : Int32)), .val (.ref nb)] [(.int (0 : Int32)), (.ref nb)])) (fun _ k => XS.iloadN X1.here hx rfl (hb hby d6_25) rfl k) ?_
  obtain ⟨cl3, Ar3, qk3, S3, N3_, Ha3, G3⟩ := id V_nb
  have hin3 : ¬ ((0 : Int32) < 0 ∨ cl3.slots.size ≤ ((0 : Int32)).toNatClampNeg) := inb_of S3 ⟨by decide, by decide⟩
  have hat3 : cl3.slots[((0 : Int32)).toNatClampNeg]? = some (.int x0) := Ha3.at hin3 rfl
  refine own_go (G := T1.setTop (mkF m 27 #[.val (.ref r0), .val (.int (0 : Int32)), .val (.int (0 : Int32)), .val (.int (0 : Int32)), .val (.ref nb)] [(.int x0)])) (X1.baloadBytes hx (j := (0 : Int32)) (v := (.int x0)) (by rw [e1]; exact Ar3.1) (State.isArrayOf_alike hZ.alike Ar3.2.1) Ar3.2.2 hin3 hat3 (g := (mkF m 26 #[.val (.ref r0), .val (.int (0 : Int32)), .val (.int (0 : Int32)), .val (.int (0 : Int32)), .val (.ref nb)] [(.int (0 : Int32)), (.ref nb)])) rfl rfl (hb hby d6_26)) ?_
  refine own_go (G := T1.setTop (mkF m 30 #[.val (.ref r0), .val (.int (0 : Int32)), .val (.int (0 : Int32)), .val (.int (0 : Int32)), .val (.ref nb)] [(.int (255 : Int32)), (.int x0)])) (fun _ k => XS.sipush X1.here hx rfl (hb hby d6_27) k) ?_
  refine own_go (G := T1.setTop (mkF m 31 #[.val (.ref r0), .val (.int (0 : Int32)), .val (.int (0 : Int32)), .val (.int (0 : Int32)), .val (.ref nb)] [(.int (x0 &&& (255 : Int32)))])) (fun _ k => XS.iand X1.here hx rfl (hb hby d6_30) rfl k) ?_
  refine own_go (G := T1.setTop (mkF m 32 #[.val (.ref r0), .val (.int (0 : Int32)), .val (.int (0 : Int32)), .val (.int (0 : Int32)), .val (.ref nb)] [(.int ((x0 &&& (255 : Int32)).toUInt32.toUInt16.toUInt32.toInt32))])) (fun _ k => XS.i2c X1.here hx rfl (hb hby d6_31) rfl k) ?_
  refine own_go (G := T1.setTop (mkF m 43 #[.val (.ref r0), .val (.int (0 : Int32)), .val (.int (0 : Int32)), .val (.int (0 : Int32)), .val (.ref nb)] [(.int ((x0 &&& (255 : Int32)).toUInt32.toUInt16.toUInt32.toInt32))])) (fun _ k => XS.goto X1.here hx rfl (pc0 := 32) (pc' := 43) rfl (hb hby d6_32) (by decide) (by decide) k) ?_
  exact own_retN X1 hx Bd.returns (by simp) (hb hby d6_43) Bd.notSynchronized (by decide) (by decide) ⟨rfl, N0, e1⟩
theorem ef_caN1 (m : MethodId) (r0 : Addr) : entryFrame m #[(.ref r0), (.int (1 : Int32))] 5 = mkF m 0 #[.val (.ref r0), .val (.int (1 : Int32)), .unset, .unset, .unset] [] := by first | (simp [entryFrame, mkF, argsToLocals, Value.category]; done) | rfl
set_option maxRecDepth 65536 in
set_option maxHeartbeats 40000000 in
theorem caN1 (l : Launch) (Z : State) (a0 : Array Value) (hw : ∀ d ∈ tables_1, d.before a0 Z = true) (ws : List Jvm.Cond) (r0 : Addr) (len : Int32) (x0 : Int32) (x1 : Int32) (x2 : Int32) (nb : Addr) (h0 : Heap) (n0 : Nat) (Z0 : n0 ≤ h0.size) (G : own_N Z h0 n0 r0 len x0 x1 x2 nb) :
    MetFree l (⟨"com/example/xrefloom/xrefloom/tree/CompactText", "charAt", "(I)C"⟩ : MethodName) (head1 (Jvm.Cond.code (⟨"com/example/xrefloom/xrefloom/tree/CompactText", "charAt", "(I)C"⟩ : MethodName) prog_30_method_3_code 5 (some .char) :: ws) ({ frames := 0, cells := 0, slots := 0, locals := 0 } : Room)) (fun a U => a = #[(.ref r0), (.int (1 : Int32))] ∧ Z.Warmed39 U.vm ∧ U.heap = h0) (fun _ _ _ _ _ => True) (fun _ U o U' => ∃ v L, o = .returned v ∧ (own_Same (.int (nar .char ((x1 &&& (255 : Int32)).toUInt32.toUInt16.toUInt32.toInt32))) h0 n0) v U'.heap L ∧ FrameEnd U o U' L 0 0) := by
  refine MetFree.of_bodySF (plainFor_of_name pn6) hisR ?_
  intro p e s m args below meth c s₁ Bd hml0 hP hK
  obtain ⟨rfl, hZ, hh⟩ := hP
  have hx := Bd.exec
  have hby := Bd.bytes
  have hml : c.maxLocals = 5 := hml0
  have hown : s.vm.findClass "com/example/xrefloom/xrefloom/tree/CompactText" = some m.cls := findClass_of_methodNamed Bd.named
  have hnm := (name_of_methodNamed Bd.named Bd.method).1
  have X0 : Stand p l e ({ frames := 0, cells := 0, slots := 0, locals := 0 } : Room) s m #[(.ref r0), (.int (1 : Int32))] below meth c s₁ [] 0 0 := Stand.of_body Bd
  have e0 : s₁.heap = h0 := by rw [← hh, Bd.state]; rfl
  have N0 := Fr.nil n0
  obtain ⟨gn_r0, E_r0, F_length, na, wa, kn, kw, kb, gn_na, gn_wa, gn_nb, ne_r0_na, ne_r0_wa, ne_r0_nb, ne_na_wa, ne_na_nb, ne_wa_nb, F_narrow, F_wide, Ov, V_na, V_wa, V_nb⟩ := G
  show own_Goes p e below (own_End s (own_Same (.int (nar .char ((x1 &&& (255 : Int32)).toUInt32.toUInt16.toUInt32.toInt32))) h0 n0) 0 0) _
  refine own_go (G := s₁.setTop (mkF m 0 #[.val (.ref r0), .val (.int (1 : Int32)), .unset, .unset, .unset] [])) (fun t k => castTop (ef_caN1 m r0) k) ?_
  refine own_go (G := s₁.setTop (mkF m 1 #[.val (.ref r0), .val (.int (1 : Int32)), .unset, .unset, .unset] [(.int (1 : Int32))])) (fun _ k => XS.iloadN X0.here hx rfl (hb hby d6_0) rfl k) ?_
  refine own_go (G := s₁.setTop (mkF m 3 #[.val (.ref r0), .val (.int (1 : Int32)), .unset, .unset, .unset] [(.int (16 : Int32)), (.int (1 : Int32))])) (fun _ k => XS.bipush X0.here hx rfl (hb hby d6_1) k) ?_
  refine own_go (G := s₁.setTop (mkF m 4 #[.val (.ref r0), .val (.int (1 : Int32)), .unset, .unset, .unset] [(.int (((1 : Int32).toUInt32 >>> ((16 : Int32) &&& 31).toUInt32).toInt32))])) (fun _ k => XS.iushr X0.here hx rfl (hb hby d6_3) rfl k) ?_
  rw [show (((1 : Int32).toUInt32 >>> ((16 : Int32) &&& 31).toUInt32).toInt32) = (0 : Int32) from by decide]
  refine own_go (G := s₁.setTop (mkF m 5 #[.val (.ref r0), .val (.int (1 : Int32)), .val (.int (0 : Int32)), .unset, .unset] [])) (fun _ k => XS.istoreN X0.here hx rfl (hb hby d6_4) rfl (l' := #[.val (.ref r0), .val (.int (1 : Int32)), .val (.int (0 : Int32)), .unset, .unset]) rfl k) ?_
  refine own_go (G := s₁.setTop (mkF m 6 #[.val (.ref r0), .val (.int (1 : Int32)), .val (.int (0 : Int32)), .unset, .unset] [(.int (1 : Int32))])) (fun _ k => XS.iloadN X0.here hx rfl (hb hby d6_5) rfl k) ?_
  refine own_go (G := s₁.setTop (mkF m 8 #[.val (.ref r0), .val (.int (1 : Int32)), .val (.int (0 : Int32)), .unset, .unset] [(.int (65535 : Int32)), (.int (1 : Int32))])) (X0.ldcInt hx hown (mvT hZ (hw _ (List.mem_of_getElem? (i := 31) rfl))) (g := (mkF m 6 #[.val (.ref r0), .val (.int (1 : Int32)), .val (.int (0 : Int32)), .unset, .unset] [(.int (1 : Int32))])) rfl (hb hby d6_6)) ?_
  refine own_go (G := s₁.setTop (mkF m 9 #[.val (.ref r0), .val (.int (1 : Int32)), .val (.int (0 : Int32)), .unset, .unset] [(.int ((1 : Int32) &&& (65535 : Int32)))])) (fun _ k => XS.iand X0.here hx rfl (hb hby d6_8) rfl k) ?_
  rw [show ((1 : Int32) &&& (65535 : Int32)) = (1 : Int32) from by decide]
  refine own_go (G := s₁.setTop (mkF m 10 #[.val (.ref r0), .val (.int (1 : Int32)), .val (.int (0 : Int32)), .val (.int (1 : Int32)), .unset] [])) (fun _ k => XS.istoreN X0.here hx rfl (hb hby d6_9) rfl (l' := #[.val (.ref r0), .val (.int (1 : Int32)), .val (.int (0 : Int32)), .val (.int (1 : Int32)), .unset]) rfl k) ?_
  refine own_go (G := s₁.setTop (mkF m 11 #[.val (.ref r0), .val (.int (1 : Int32)), .val (.int (0 : Int32)), .val (.int (1 : Int32)), .unset] [(.ref r0)])) (fun _ k => XS.aloadN X0.here hx rfl (hb hby d6_10) rfl rfl k) ?_
  obtain ⟨T1, X1, e1, st1⟩ := getF X0 hx hZ hown (host := "") (Or.inl (hw _ (List.mem_of_getElem? (i := 18) rfl))) Via.refl e0 F_narrow (g := (mkF m 11 #[.val (.ref r0), .val (.int (1 : Int32)), .val (.int (0 : Int32)), .val (.int (1 : Int32)), .unset] [(.ref r0)])) rfl rfl (hb hby d6_11)
  refine own_go (G := T1.setTop (mkF m 14 #[.val (.ref r0), .val (.int (1 : Int32)), .val (.int (0 : Int32)), .val (.int (1 : Int32)), .unset] [(.ref na)])) (st1) ?_
  refine own_go (G := T1.setTop (mkF m 15 #[.val (.ref r0), .val (.int (1 : Int32)), .val (.int (0 : Int32)), .val (.int (1 : Int32)), .unset] [(.int (0 : Int32)), (.ref na)])) (fun _ k => XS.iloadN X1.here hx rfl (hb hby d6_14) rfl k) ?_
  obtain ⟨cl2, Ar2, qk2, S2, N2_, Ha2, G2⟩ := id V_na
  have hin2 : ¬ ((0 : Int32) < 0 ∨ cl2.slots.size ≤ ((0 : Int32)).toNatClampNeg) := inb_of S2 ⟨by decide, by decide⟩
  have hat2 : cl2.slots[((0 : Int32)).toNatClampNeg]? = some (.ref nb) := Ha2.at hin2 rfl
  refine own_go (G := T1.setTop (mkF m 16 #[.val (.ref r0), .val (.int (1 : Int32)), .val (.int (0 : Int32)), .val (.int (1 : Int32)), .unset] [(.ref nb)])) (X1.aaload hx (j := (0 : Int32)) (v := (.ref nb)) (by rw [e1]; exact Ar2.1) (State.isArrayOf_alike hZ.alike Ar2.2.1) rfl Ar2.2.2 hin2 hat2 (g := (mkF m 15 #[.val (.ref r0), .val (.int (1 : Int32)), .val (.int (0 : Int32)), .val (.int (1 : Int32)), .unset] [(.int (0 : Int32)), (.ref na)])) rfl rfl (hb hby d6_15)) ?_
  refine own_go (G := T1.setTop (mkF m 18 #[.val (.ref r0), .val (.int (1 : Int32)), .val (.int (0 : Int32)), .val (.int (1 : Int32)), .val (.ref nb)] [])) (fun _ k => XS.astore X1.here hx rfl (hb hby d6_16) rfl rfl (l' := #[.val (.ref r0), .val (.int (1 : Int32)), .val (.int (0 : Int32)), .val (.int (1 : Int32)), .val (.ref nb)]) rfl k) ?_
  refine own_go (G := T1.setTop (mkF m 20 #[.val (.ref r0), .val (.int (1 : Int32)), .val (.int (0 : Int32)), .val (.int (1 : Int32)), .val (.ref nb)] [(.ref nb)])) (fun _ k => XS.aload X1.here hx rfl (hb hby d6_18) rfl rfl k) ?_
  refine own_go (G := T1.setTop (mkF m 23 #[.val (.ref r0), .val (.int (1 : Int32)), .val (.int (0 : Int32)), .val (.int (1 : Int32)), .val (.ref nb)] [])) (fun _ k => XS.ifnullNo X1.here hx rfl (hb hby d6_20) rfl k) ?_
  refine own_go (G := T1.setTop (mkF m 25 #[.val (.ref r0), .val (.int (1 : Int32)), .val (.int (0 : Int32)), .val (.int (1 : Int32)), .val (.ref nb)] [(.ref nb)])) (fun _ k => XS.aload X1.here hx rfl (hb hby d6_23) rfl rfl k) ?_
  refine own_go (G := T1.setTop (mkF m 26 #[.val (.ref r0), .val (.int (1 : Int32)), .val (.int (0 : Int32)), .val (.int (1 : Int32)), .val (.ref nb)] [(.int (1 : Int32)), (.ref nb)])) (fun _ k => XS.iloadN X1.here hx rfl (hb hby d6_25) rfl k) ?_
  obtain ⟨cl3, Ar3, qk3, S3, N3_, Ha3, G3⟩ := id V_nb
  have hin3 : ¬ ((1 : Int32) < 0 ∨ cl3.slots.size ≤ ((1 : Int32)).toNatClampNeg) := inb_of S3 ⟨by decide, by decide⟩
  have hat3 : cl3.slots[((1 : Int32)).toNatClampNeg]? = some (.int x1) := Ha3.at hin3 rfl
  refine own_go (G := T1.setTop (mkF m 27 #[.val (.ref r0), .val (.int (1 : Int32)), .val (.int (0 : Int32)), .val (.int (1 : Int32)), .val (.ref nb)] [(.int x1)])) (X1.baloadBytes hx (j := (1 : Int32)) (v := (.int x1)) (by rw [e1]; exact Ar3.1) (State.isArrayOf_alike hZ.alike Ar3.2.1) Ar3.2.2 hin3 hat3 (g := (mkF m 26 #[.val (.ref r0), .val (.int (1 : Int32)), .val (.int (0 : Int32)), .val (.int (1 : Int32)), .val (.ref nb)] [(.int (1 : Int32)), (.ref nb)])) rfl rfl (hb hby d6_26)) ?_
  refine own_go (G := T1.setTop (mkF m 30 #[.val (.ref r0), .val (.int (1 : Int32)), .val (.int (0 : Int32)), .val (.int (1 : Int32)), .val (.ref nb)] [(.int (255 : Int32)), (.int x1)])) (fun _ k => XS.sipush X1.here hx rfl (hb hby d6_27) k) ?_
  refine own_go (G := T1.setTop (mkF m 31 #[.val (.ref r0), .val (.int (1 : Int32)), .val (.int (0 : Int32)), .val (.int (1 : Int32)), .val (.ref nb)] [(.int (x1 &&& (255 : Int32)))])) (fun _ k => XS.iand X1.here hx rfl (hb hby d6_30) rfl k) ?_
  refine own_go (G := T1.setTop (mkF m 32 #[.val (.ref r0), .val (.int (1 : Int32)), .val (.int (0 : Int32)), .val (.int (1 : Int32)), .val (.ref nb)] [(.int ((x1 &&& (255 : Int32)).toUInt32.toUInt16.toUInt32.toInt32))])) (fun _ k => XS.i2c X1.here hx rfl (hb hby d6_31) rfl k) ?_
  refine own_go (G := T1.setTop (mkF m 43 #[.val (.ref r0), .val (.int (1 : Int32)), .val (.int (0 : Int32)), .val (.int (1 : Int32)), .val (.ref nb)] [(.int ((x1 &&& (255 : Int32)).toUInt32.toUInt16.toUInt32.toInt32))])) (fun _ k => XS.goto X1.here hx rfl (pc0 := 32) (pc' := 43) rfl (hb hby d6_32) (by decide) (by decide) k) ?_
  exact own_retN X1 hx Bd.returns (by simp) (hb hby d6_43) Bd.notSynchronized (by decide) (by decide) ⟨rfl, N0, e1⟩
theorem ef_caN2 (m : MethodId) (r0 : Addr) : entryFrame m #[(.ref r0), (.int (2 : Int32))] 5 = mkF m 0 #[.val (.ref r0), .val (.int (2 : Int32)), .unset, .unset, .unset] [] := by first | (simp [entryFrame, mkF, argsToLocals, Value.category]; done) | rfl
set_option maxRecDepth 65536 in
set_option maxHeartbeats 40000000 in
theorem caN2 (l : Launch) (Z : State) (a0 : Array Value) (hw : ∀ d ∈ tables_1, d.before a0 Z = true) (ws : List Jvm.Cond) (r0 : Addr) (len : Int32) (x0 : Int32) (x1 : Int32) (x2 : Int32) (nb : Addr) (h0 : Heap) (n0 : Nat) (Z0 : n0 ≤ h0.size) (G : own_N Z h0 n0 r0 len x0 x1 x2 nb) :
    MetFree l (⟨"com/example/xrefloom/xrefloom/tree/CompactText", "charAt", "(I)C"⟩ : MethodName) (head1 (Jvm.Cond.code (⟨"com/example/xrefloom/xrefloom/tree/CompactText", "charAt", "(I)C"⟩ : MethodName) prog_30_method_3_code 5 (some .char) :: ws) ({ frames := 0, cells := 0, slots := 0, locals := 0 } : Room)) (fun a U => a = #[(.ref r0), (.int (2 : Int32))] ∧ Z.Warmed39 U.vm ∧ U.heap = h0) (fun _ _ _ _ _ => True) (fun _ U o U' => ∃ v L, o = .returned v ∧ (own_Same (.int (nar .char ((x2 &&& (255 : Int32)).toUInt32.toUInt16.toUInt32.toInt32))) h0 n0) v U'.heap L ∧ FrameEnd U o U' L 0 0) := by
  refine MetFree.of_bodySF (plainFor_of_name pn6) hisR ?_
  intro p e s m args below meth c s₁ Bd hml0 hP hK
  obtain ⟨rfl, hZ, hh⟩ := hP
  have hx := Bd.exec
  have hby := Bd.bytes
  have hml : c.maxLocals = 5 := hml0
  have hown : s.vm.findClass "com/example/xrefloom/xrefloom/tree/CompactText" = some m.cls := findClass_of_methodNamed Bd.named
  have hnm := (name_of_methodNamed Bd.named Bd.method).1
  have X0 : Stand p l e ({ frames := 0, cells := 0, slots := 0, locals := 0 } : Room) s m #[(.ref r0), (.int (2 : Int32))] below meth c s₁ [] 0 0 := Stand.of_body Bd
  have e0 : s₁.heap = h0 := by rw [← hh, Bd.state]; rfl
  have N0 := Fr.nil n0
  obtain ⟨gn_r0, E_r0, F_length, na, wa, kn, kw, kb, gn_na, gn_wa, gn_nb, ne_r0_na, ne_r0_wa, ne_r0_nb, ne_na_wa, ne_na_nb, ne_wa_nb, F_narrow, F_wide, Ov, V_na, V_wa, V_nb⟩ := G
  show own_Goes p e below (own_End s (own_Same (.int (nar .char ((x2 &&& (255 : Int32)).toUInt32.toUInt16.toUInt32.toInt32))) h0 n0) 0 0) _
  refine own_go (G := s₁.setTop (mkF m 0 #[.val (.ref r0), .val (.int (2 : Int32)), .unset, .unset, .unset] [])) (fun t k => castTop (ef_caN2 m r0) k) ?_
  refine own_go (G := s₁.setTop (mkF m 1 #[.val (.ref r0), .val (.int (2 : Int32)), .unset, .unset, .unset] [(.int (2 : Int32))])) (fun _ k => XS.iloadN X0.here hx rfl (hb hby d6_0) rfl k) ?_
  refine own_go (G := s₁.setTop (mkF m 3 #[.val (.ref r0), .val (.int (2 : Int32)), .unset, .unset, .unset] [(.int (16 : Int32)), (.int (2 : Int32))])) (fun _ k => XS.bipush X0.here hx rfl (hb hby d6_1) k) ?_
  refine own_go (G := s₁.setTop (mkF m 4 #[.val (.ref r0), .val (.int (2 : Int32)), .unset, .unset, .unset] [(.int (((2 : Int32).toUInt32 >>> ((16 : Int32) &&& 31).toUInt32).toInt32))])) (fun _ k => XS.iushr X0.here hx rfl (hb hby d6_3) rfl k) ?_
  rw [show (((2 : Int32).toUInt32 >>> ((16 : Int32) &&& 31).toUInt32).toInt32) = (0 : Int32) from by decide]
  refine own_go (G := s₁.setTop (mkF m 5 #[.val (.ref r0), .val (.int (2 : Int32)), .val (.int (0 : Int32)), .unset, .unset] [])) (fun _ k => XS.istoreN X0.here hx rfl (hb hby d6_4) rfl (l' := #[.val (.ref r0), .val (.int (2 : Int32)), .val (.int (0 : Int32)), .unset, .unset]) rfl k) ?_
  refine own_go (G := s₁.setTop (mkF m 6 #[.val (.ref r0), .val (.int (2 : Int32)), .val (.int (0 : Int32)), .unset, .unset] [(.int (2 : Int32))])) (fun _ k => XS.iloadN X0.here hx rfl (hb hby d6_5) rfl k) ?_
  refine own_go (G := s₁.setTop (mkF m 8 #[.val (.ref r0), .val (.int (2 : Int32)), .val (.int (0 : Int32)), .unset, .unset] [(.int (65535 : Int32)), (.int (2 : Int32))])) (X0.ldcInt hx hown (mvT hZ (hw _ (List.mem_of_getElem? (i := 31) rfl))) (g := (mkF m 6 #[.val (.ref r0), .val (.int (2 : Int32)), .val (.int (0 : Int32)), .unset, .unset] [(.int (2 : Int32))])) rfl (hb hby d6_6)) ?_
  refine own_go (G := s₁.setTop (mkF m 9 #[.val (.ref r0), .val (.int (2 : Int32)), .val (.int (0 : Int32)), .unset, .unset] [(.int ((2 : Int32) &&& (65535 : Int32)))])) (fun _ k => XS.iand X0.here hx rfl (hb hby d6_8) rfl k) ?_
  rw [show ((2 : Int32) &&& (65535 : Int32)) = (2 : Int32) from by decide]
  refine own_go (G := s₁.setTop (mkF m 10 #[.val (.ref r0), .val (.int (2 : Int32)), .val (.int (0 : Int32)), .val (.int (2 : Int32)), .unset] [])) (fun _ k => XS.istoreN X0.here hx rfl (hb hby d6_9) rfl (l' := #[.val (.ref r0), .val (.int (2 : Int32)), .val (.int (0 : Int32)), .val (.int (2 : Int32)), .unset]) rfl k) ?_
  refine own_go (G := s₁.setTop (mkF m 11 #[.val (.ref r0), .val (.int (2 : Int32)), .val (.int (0 : Int32)), .val (.int (2 : Int32)), .unset] [(.ref r0)])) (fun _ k => XS.aloadN X0.here hx rfl (hb hby d6_10) rfl rfl k) ?_
  obtain ⟨T1, X1, e1, st1⟩ := getF X0 hx hZ hown (host := "") (Or.inl (hw _ (List.mem_of_getElem? (i := 18) rfl))) Via.refl e0 F_narrow (g := (mkF m 11 #[.val (.ref r0), .val (.int (2 : Int32)), .val (.int (0 : Int32)), .val (.int (2 : Int32)), .unset] [(.ref r0)])) rfl rfl (hb hby d6_11)
  refine own_go (G := T1.setTop (mkF m 14 #[.val (.ref r0), .val (.int (2 : Int32)), .val (.int (0 : Int32)), .val (.int (2 : Int32)), .unset] [(.ref na)])) (st1) ?_
  refine own_go (G := T1.setTop (mkF m 15 #[.val (.ref r0), .val (.int (2 : Int32)), .val (.int (0 : Int32)), .val (.int (2 : Int32)), .unset] [(.int (0 : Int32)), (.ref na)])) (fun _ k => XS.iloadN X1.here hx rfl (hb hby d6_14) rfl k) ?_
  obtain ⟨cl2, Ar2, qk2, S2, N2_, Ha2, G2⟩ := id V_na
  have hin2 : ¬ ((0 : Int32) < 0 ∨ cl2.slots.size ≤ ((0 : Int32)).toNatClampNeg) := inb_of S2 ⟨by decide, by decide⟩
  have hat2 : cl2.slots[((0 : Int32)).toNatClampNeg]? = some (.ref nb) := Ha2.at hin2 rfl
  refine own_go (G := T1.setTop (mkF m 16 #[.val (.ref r0), .val (.int (2 : Int32)), .val (.int (0 : Int32)), .val (.int (2 : Int32)), .unset] [(.ref nb)])) (X1.aaload hx (j := (0 : Int32)) (v := (.ref nb)) (by rw [e1]; exact Ar2.1) (State.isArrayOf_alike hZ.alike Ar2.2.1) rfl Ar2.2.2 hin2 hat2 (g := (mkF m 15 #[.val (.ref r0), .val (.int (2 : Int32)), .val (.int (0 : Int32)), .val (.int (2 : Int32)), .unset] [(.int (0 : Int32)), (.ref na)])) rfl rfl (hb hby d6_15)) ?_
  refine own_go (G := T1.setTop (mkF m 18 #[.val (.ref r0), .val (.int (2 : Int32)), .val (.int (0 : Int32)), .val (.int (2 : Int32)), .val (.ref nb)] [])) (fun _ k => XS.astore X1.here hx rfl (hb hby d6_16) rfl rfl (l' := #[.val (.ref r0), .val (.int (2 : Int32)), .val (.int (0 : Int32)), .val (.int (2 : Int32)), .val (.ref nb)]) rfl k) ?_
  refine own_go (G := T1.setTop (mkF m 20 #[.val (.ref r0), .val (.int (2 : Int32)), .val (.int (0 : Int32)), .val (.int (2 : Int32)), .val (.ref nb)] [(.ref nb)])) (fun _ k => XS.aload X1.here hx rfl (hb hby d6_18) rfl rfl k) ?_
  refine own_go (G := T1.setTop (mkF m 23 #[.val (.ref r0), .val (.int (2 : Int32)), .val (.int (0 : Int32)), .val (.int (2 : Int32)), .val (.ref nb)] [])) (fun _ k => XS.ifnullNo X1.here hx rfl (hb hby d6_20) rfl k) ?_
  refine own_go (G := T1.setTop (mkF m 25 #[.val (.ref r0), .val (.int (2 : Int32)), .val (.int (0 : Int32)), .val (.int (2 : Int32)), .val (.ref nb)] [(.ref nb)])) (fun _ k => XS.aload X1.here hx rfl (hb hby d6_23) rfl rfl k) ?_
  refine own_go (G := T1.setTop (mkF m 26 #[.val (.ref r0), .val (.int (2 : Int32)), .val (.int (0 : Int32)), .val (.int (2 : Int32)), .val (.ref nb)] [(.int (2 : Int32)), (.ref nb)])) (fun _ k => XS.iloadN X1.here hx rfl (hb hby d6_25) rfl k) ?_
  obtain ⟨cl3, Ar3, qk3, S3, N3_, Ha3, G3⟩ := id V_nb
  have hin3 : ¬ ((2 : Int32) < 0 ∨ cl3.slots.size ≤ ((2 : Int32)).toNatClampNeg) := inb_of S3 ⟨by decide, by decide⟩
  have hat3 : cl3.slots[((2 : Int32)).toNatClampNeg]? = some (.int x2) := Ha3.at hin3 rfl
  refine own_go (G := T1.setTop (mkF m 27 #[.val (.ref r0), .val (.int (2 : Int32)), .val (.int (0 : Int32)), .val (.int (2 : Int32)), .val (.ref nb)] [(.int x2)])) (X1.baloadBytes hx (j := (2 : Int32)) (v := (.int x2)) (by rw [e1]; exact Ar3.1) (State.isArrayOf_alike hZ.alike Ar3.2.1) Ar3.2.2 hin3 hat3 (g := (mkF m 26 #[.val (.ref r0), .val (.int (2 : Int32)), .val (.int (0 : Int32)), .val (.int (2 : Int32)), .val (.ref nb)] [(.int (2 : Int32)), (.ref nb)])) rfl rfl (hb hby d6_26)) ?_
  refine own_go (G := T1.setTop (mkF m 30 #[.val (.ref r0), .val (.int (2 : Int32)), .val (.int (0 : Int32)), .val (.int (2 : Int32)), .val (.ref nb)] [(.int (255 : Int32)), (.int x2)])) (fun _ k => XS.sipush X1.here hx rfl (hb hby d6_27) k) ?_
  refine own_go (G := T1.setTop (mkF m 31 #[.val (.ref r0), .val (.int (2 : Int32)), .val (.int (0 : Int32)), .val (.int (2 : Int32)), .val (.ref nb)] [(.int (x2 &&& (255 : Int32)))])) (fun _ k => XS.iand X1.here hx rfl (hb hby d6_30) rfl k) ?_
  refine own_go (G := T1.setTop (mkF m 32 #[.val (.ref r0), .val (.int (2 : Int32)), .val (.int (0 : Int32)), .val (.int (2 : Int32)), .val (.ref nb)] [(.int ((x2 &&& (255 : Int32)).toUInt32.toUInt16.toUInt32.toInt32))])) (fun _ k => XS.i2c X1.here hx rfl (hb hby d6_31) rfl k) ?_
  refine own_go (G := T1.setTop (mkF m 43 #[.val (.ref r0), .val (.int (2 : Int32)), .val (.int (0 : Int32)), .val (.int (2 : Int32)), .val (.ref nb)] [(.int ((x2 &&& (255 : Int32)).toUInt32.toUInt16.toUInt32.toInt32))])) (fun _ k => XS.goto X1.here hx rfl (pc0 := 32) (pc' := 43) rfl (hb hby d6_32) (by decide) (by decide) k) ?_
  exact own_retN X1 hx Bd.returns (by simp) (hb hby d6_43) Bd.notSynchronized (by decide) (by decide) ⟨rfl, N0, e1⟩
theorem d6_35 : decode prog_30_method_3_code 35 = .ok (.aload_n 0, 1) := by decide +kernel
theorem d6_36 : decode prog_30_method_3_code 36 = .ok (.getfield 17, 3) := by decide +kernel
theorem d6_39 : decode prog_30_method_3_code 39 = .ok (.iload_n 2, 1) := by decide +kernel
theorem d6_40 : decode prog_30_method_3_code 40 = .ok (.aaload, 1) := by decide +kernel
theorem d6_41 : decode prog_30_method_3_code 41 = .ok (.iload_n 3, 1) := by decide +kernel
theorem d6_42 : decode prog_30_method_3_code 42 = .ok (.caload, 1) := by decide +kernel
theorem ef_caW0 (m : MethodId) (r0 : Addr) : entryFrame m #[(.ref r0), (.int (0 : Int32))] 5 = mkF m 0 #[.val (.ref r0), .val (.int (0 : Int32)), .unset, .unset, .unset] [] := by first | (simp [entryFrame, mkF, argsToLocals, Value.category]; done) | rfl
set_option maxRecDepth 65536 in
set_option maxHeartbeats 40000000 in
theorem caW0 (l : Launch) (Z : State) (a0 : Array Value) (hw : ∀ d ∈ tables_1, d.before a0 Z = true) (ws : List Jvm.Cond) (r0 : Addr) (len : Int32) (x0 : Int32) (x1 : Int32) (x2 : Int32) (wc : Addr) (h0 : Heap) (n0 : Nat) (Z0 : n0 ≤ h0.size) (G : own_W Z h0 n0 r0 len x0 x1 x2 wc) :
    MetFree l (⟨"com/example/xrefloom/xrefloom/tree/CompactText", "charAt", "(I)C"⟩ : MethodName) (head1 (Jvm.Cond.code (⟨"com/example/xrefloom/xrefloom/tree/CompactText", "charAt", "(I)C"⟩ : MethodName) prog_30_method_3_code 5 (some .char) :: ws) ({ frames := 0, cells := 0, slots := 0, locals := 0 } : Room)) (fun a U => a = #[(.ref r0), (.int (0 : Int32))] ∧ Z.Warmed39 U.vm ∧ U.heap = h0) (fun _ _ _ _ _ => True) (fun _ U o U' => ∃ v L, o = .returned v ∧ (own_Same (.int (nar .char x0)) h0 n0) v U'.heap L ∧ FrameEnd U o U' L 0 0) := by
  refine MetFree.of_bodySF (plainFor_of_name pn6) hisR ?_
  intro p e s m args below meth c s₁ Bd hml0 hP hK
  obtain ⟨rfl, hZ, hh⟩ := hP
  have hx := Bd.exec
  have hby := Bd.bytes
  have hml : c.maxLocals = 5 := hml0
  have hown : s.vm.findClass "com/example/xrefloom/xrefloom/tree/CompactText" = some m.cls := findClass_of_methodNamed Bd.named
  have hnm := (name_of_methodNamed Bd.named Bd.method).1
  have X0 : Stand p l e ({ frames := 0, cells := 0, slots := 0, locals := 0 } : Room) s m #[(.ref r0), (.int (0 : Int32))] below meth c s₁ [] 0 0 := Stand.of_body Bd
  have e0 : s₁.heap = h0 := by rw [← hh, Bd.state]; rfl
  have N0 := Fr.nil n0
  obtain ⟨gn_r0, E_r0, F_length, na, wa, kn, kw, kb, gn_na, gn_wa, gn_wc, ne_r0_na, ne_r0_wa, ne_r0_wc, ne_na_wa, ne_na_wc, ne_wa_wc, F_narrow, F_wide, Ov, V_na, V_wa, V_wc⟩ := G
  show own_Goes p e below (own_End s (own_Same (.int (nar .char x0)) h0 n0) 0 0) _
  refine own_go (G := s₁.setTop (mkF m 0 #[.val (.ref r0), .val (.int (0 : Int32)), .unset, .unset, .unset] [])) (fun t k => castTop (ef_caW0 m r0) k) ?_
  refine own_go (G := s₁.setTop (mkF m 1 #[.val (.ref r0), .val (.int (0 : Int32)), .unset, .unset, .unset] [(.int (0 : Int32))])) (fun _ k => XS.iloadN X0.here hx rfl (hb hby d6_0) rfl k) ?_
  refine own_go (G := s₁.setTop (mkF m 3 #[.val (.ref r0), .val (.int (0 : Int32)), .unset, .unset, .unset] [(.int (16 : Int32)), (.int (0 : Int32))])) (fun _ k => XS.bipush X0.here hx rfl (hb hby d6_1) k) ?_
  refine own_go (G := s₁.setTop (mkF m 4 #[.val (.ref r0), .val (.int (0 : Int32)), .unset, .unset, .unset] [(.int (((0 : Int32).toUInt32 >>> ((16 : Int32) &&& 31).toUInt32).toInt32))])) (fun _ k => XS.iushr X0.here hx rfl (hb hby d6_3) rfl k) ?_
  rw [show (((0 : Int32).toUInt32 >>> ((16 : Int32) &&& 31).toUInt32).toInt32) = (0 : Int32) from by decide]
  refine own_go (G := s₁.setTop (mkF m 5 #[.val (.ref r0), .val (.int (0 : Int32)), .val (.int (0 : Int32)), .unset, .unset] [])) (fun _ k => XS.istoreN X0.here hx rfl (hb hby d6_4) rfl (l' := #[.val (.ref r0), .val (.int (0 : Int32)), .val (.int (0 : Int32)), .unset, .unset]) rfl k) ?_
  refine own_go (G := s₁.setTop (mkF m 6 #[.val (.ref r0), .val (.int (0 : Int32)), .val (.int (0 : Int32)), .unset, .unset] [(.int (0 : Int32))])) (fun _ k => XS.iloadN X0.here hx rfl (hb hby d6_5) rfl k) ?_
  refine own_go (G := s₁.setTop (mkF m 8 #[.val (.ref r0), .val (.int (0 : Int32)), .val (.int (0 : Int32)), .unset, .unset] [(.int (65535 : Int32)), (.int (0 : Int32))])) (X0.ldcInt hx hown (mvT hZ (hw _ (List.mem_of_getElem? (i := 31) rfl))) (g := (mkF m 6 #[.val (.ref r0), .val (.int (0 : Int32)), .val (.int (0 : Int32)), .unset, .unset] [(.int (0 : Int32))])) rfl (hb hby d6_6)) ?_
  refine own_go (G := s₁.setTop (mkF m 9 #[.val (.ref r0), .val (.int (0 : Int32)), .val (.int (0 : Int32)), .unset, .unset] [(.int ((0 : Int32) &&& (65535 : Int32)))])) (fun _ k => XS.iand X0.here hx rfl (hb hby d6_8) rfl k) ?_
  rw [show ((0 : Int32) &&& (65535 : Int32)) = (0 : Int32) from by decide]
  refine own_go (G := s₁.setTop (mkF m 10 #[.val (.ref r0), .val (.int (0 : Int32)), .val (.int (0 : Int32)), .val (.int (0 : Int32)), .unset] [])) (fun _ k => XS.istoreN X0.here hx rfl (hb hby d6_9) rfl (l' := #[.val (.ref r0), .val (.int (0 : Int32)), .val (.int (0 : Int32)), .val (.int (0 : Int32)), .unset]) rfl k) ?_
  refine own_go (G := s₁.setTop (mkF m 11 #[.val (.ref r0), .val (.int (0 : Int32)), .val (.int (0 : Int32)), .val (.int (0 : Int32)), .unset] [(.ref r0)])) (fun _ k => XS.aloadN X0.here hx rfl (hb hby d6_10) rfl rfl k) ?_
  obtain ⟨T1, X1, e1, st1⟩ := getF X0 hx hZ hown (host := "") (Or.inl (hw _ (List.mem_of_getElem? (i := 18) rfl))) Via.refl e0 F_narrow (g := (mkF m 11 #[.val (.ref r0), .val (.int (0 : Int32)), .val (.int (0 : Int32)), .val (.int (0 : Int32)), .unset] [(.ref r0)])) rfl rfl (hb hby d6_11)
  refine own_go (G := T1.setTop (mkF m 14 #[.val (.ref r0), .val (.int (0 : Int32)), .val (.int (0 : Int32)), .val (.int (0 : Int32)), .unset] [(.ref na)])) (st1) ?_
  refine own_go (G := T1.setTop (mkF m 15 #[.val (.ref r0), .val (.int (0 : Int32)), .val (.int (0 : Int32)), .val (.int (0 : Int32)), .unset] [(.int (0 : Int32)), (.ref na)])) (fun _ k => XS.iloadN X1.here hx rfl (hb hby d6_14) rfl k) ?_
  obtain ⟨cl2, Ar2, qk2, S2, N2_, Ha2, G2⟩ := id V_na
  have hin2 : ¬ ((0 : Int32) < 0 ∨ cl2.slots.size ≤ ((0 : Int32)).toNatClampNeg) := inb_of S2 ⟨by decide, by decide⟩
  have hat2 : cl2.slots[((0 : Int32)).toNatClampNeg]? = some .null := Ha2.at hin2 rfl
  refine own_go (G := T1.setTop (mkF m 16 #[.val (.ref r0), .val (.int (0 : Int32)), .val (.int (0 : Int32)), .val (.int (0 : Int32)), .unset] [.null])) (X1.aaload hx (j := (0 : Int32)) (v := .null) (by rw [e1]; exact Ar2.1) (State.isArrayOf_alike hZ.alike Ar2.2.1) rfl Ar2.2.2 hin2 hat2 (g := (mkF m 15 #[.val (.ref r0), .val (.int (0 : Int32)), .val (.int (0 : Int32)), .val (.int (0 : Int32)), .unset] [(.int (0 : Int32)), (.ref na)])) rfl rfl (hb hby d6_15)) ?_
  refine own_go (G := T1.setTop (mkF m 18 #[.val (.ref r0), .val (.int (0 : Int32)), .val (.int (0 : Int32)), .val (.int (0 : Int32)), .val .null] [])) (fun _ k => XS.astore X1.here hx rfl (hb hby d6_16) rfl rfl (l' := #[.val (.ref r0), .val (.int (0 : Int32)), .val (.int (0 : Int32)), .val (.int (0 : Int32)), .val .null]) rfl k) ?_
  refine own_go (G := T1.setTop (mkF m 20 #[.val (.ref r0), .val (.int (0 : Int32)), .val (.int (0 : Int32)), .val (.int (0 : Int32)), .val .null] [.null])) (fun _ k => XS.aload X1.here hx rfl (hb hby d6_18) rfl rfl k) ?_
  refine own_go (G := T1.setTop (mkF m 35 #[.val (.ref r0), .val (.int (0 : Int32)), .val (.int (0 : Int32)), .val (.int (0 : Int32)), .val .null] [])) (fun _ k => XS.ifnullYes X1.here hx rfl (pc0 := 20) (pc' := 35) rfl (hb hby d6_20) rfl (by decide) (by decide) k) ?_
  refine own_go (G := T1.setTop (mkF m 36 #[.val (.ref r0), .val (.int (0 : Int32)), .val (.int (0 : Int32)), .val (.int (0 : Int32)), .val .null] [(.ref r0)])) (fun _ k => XS.aloadN X1.here hx rfl (hb hby d6_35) rfl rfl k) ?_
  obtain ⟨T3, X3, e3, st3⟩ := getF X1 hx hZ hown (host := "") (Or.inl (hw _ (List.mem_of_getElem? (i := 22) rfl))) Via.refl e1 F_wide (g := (mkF m 36 #[.val (.ref r0), .val (.int (0 : Int32)), .val (.int (0 : Int32)), .val (.int (0 : Int32)), .val .null] [(.ref r0)])) rfl rfl (hb hby d6_36)
  refine own_go (G := T3.setTop (mkF m 39 #[.val (.ref r0), .val (.int (0 : Int32)), .val (.int (0 : Int32)), .val (.int (0 : Int32)), .val .null] [(.ref wa)])) (st3) ?_
  refine own_go (G := T3.setTop (mkF m 40 #[.val (.ref r0), .val (.int (0 : Int32)), .val (.int (0 : Int32)), .val (.int (0 : Int32)), .val .null] [(.int (0 : Int32)), (.ref wa)])) (fun _ k => XS.iloadN X3.here hx rfl (hb hby d6_39) rfl k) ?_
  obtain ⟨cl4, Ar4, qk4, S4, N4_, Ha4, G4⟩ := id V_wa
  have hin4 : ¬ ((0 : Int32) < 0 ∨ cl4.slots.size ≤ ((0 : Int32)).toNatClampNeg) := inb_of S4 ⟨by decide, by decide⟩
  have hat4 : cl4.slots[((0 : Int32)).toNatClampNeg]? = some (.ref wc) := Ha4.at hin4 rfl
  refine own_go (G := T3.setTop (mkF m 41 #[.val (.ref r0), .val (.int (0 : Int32)), .val (.int (0 : Int32)), .val (.int (0 : Int32)), .val .null] [(.ref wc)])) (X3.aaload hx (j := (0 : Int32)) (v := (.ref wc)) (by rw [e3]; exact Ar4.1) (State.isArrayOf_alike hZ.alike Ar4.2.1) rfl Ar4.2.2 hin4 hat4 (g := (mkF m 40 #[.val (.ref r0), .val (.int (0 : Int32)), .val (.int (0 : Int32)), .val (.int (0 : Int32)), .val .null] [(.int (0 : Int32)), (.ref wa)])) rfl rfl (hb hby d6_40)) ?_
  refine own_go (G := T3.setTop (mkF m 42 #[.val (.ref r0), .val (.int (0 : Int32)), .val (.int (0 : Int32)), .val (.int (0 : Int32)), .val .null] [(.int (0 : Int32)), (.ref wc)])) (fun _ k => XS.iloadN X3.here hx rfl (hb hby d6_41) rfl k) ?_
  obtain ⟨cl5, Ar5, qk5, S5, N5_, Ha5, G5⟩ := id V_wc
  have hin5 : ¬ ((0 : Int32) < 0 ∨ cl5.slots.size ≤ ((0 : Int32)).toNatClampNeg) := inb_of S5 ⟨by decide, by decide⟩
  have hat5 : cl5.slots[((0 : Int32)).toNatClampNeg]? = some (.int x0) := Ha5.at hin5 rfl
  refine own_go (G := T3.setTop (mkF m 43 #[.val (.ref r0), .val (.int (0 : Int32)), .val (.int (0 : Int32)), .val (.int (0 : Int32)), .val .null] [(.int x0)])) (X3.caload hx (j := (0 : Int32)) (v := (.int x0)) (by rw [e3]; exact Ar5.1) (State.isArrayOf_alike hZ.alike Ar5.2.1) Ar5.2.2 hin5 hat5 (g := (mkF m 42 #[.val (.ref r0), .val (.int (0 : Int32)), .val (.int (0 : Int32)), .val (.int (0 : Int32)), .val .null] [(.int (0 : Int32)), (.ref wc)])) rfl rfl (hb hby d6_42)) ?_
  exact own_retN X3 hx Bd.returns (by simp) (hb hby d6_43) Bd.notSynchronized (by decide) (by decide) ⟨rfl, N0, e3⟩
theorem ef_caW1 (m : MethodId) (r0 : Addr) : entryFrame m #[(.ref r0), (.int (1 : Int32))] 5 = mkF m 0 #[.val (.ref r0), .val (.int (1 : Int32)), .unset, .unset, .unset] [] := by first | (simp [entryFrame, mkF, argsToLocals, Value.category]; done) | rfl
set_option maxRecDepth 65536 in
set_option maxHeartbeats 40000000 in
theorem caW1 (l : Launch) (Z : State) (a0 : Array Value) (hw : ∀ d ∈ tables_1, d.before a0 Z = true) (ws : List Jvm.Cond) (r0 : Addr) (len : Int32) (x0 : Int32) (x1 : Int32) (x2 : Int32) (wc : Addr) (h0 : Heap) (n0 : Nat) (Z0 : n0 ≤ h0.size) (G : own_W Z h0 n0 r0 len x0 x1 x2 wc) :
    MetFree l (⟨"com/example/xrefloom/xrefloom/tree/CompactText", "charAt", "(I)C"⟩ : MethodName) (head1 (Jvm.Cond.code (⟨"com/example/xrefloom/xrefloom/tree/CompactText", "charAt", "(I)C"⟩ : MethodName) prog_30_method_3_code 5 (some .char) :: ws) ({ frames := 0, cells := 0, slots := 0, locals := 0 } : Room)) (fun a U => a = #[(.ref r0), (.int (1 : Int32))] ∧ Z.Warmed39 U.vm ∧ U.heap = h0) (fun _ _ _ _ _ => True) (fun _ U o U' => ∃ v L, o = .returned v ∧ (own_Same (.int (nar .char x1)) h0 n0) v U'.heap L ∧ FrameEnd U o U' L 0 0) := by
  refine MetFree.of_bodySF (plainFor_of_name pn6) hisR ?_
  intro p e s m args below meth c s₁ Bd hml0 hP hK
  obtain ⟨rfl, hZ, hh⟩ := hP
  have hx := Bd.exec
  have hby := Bd.bytes
  have hml : c.maxLocals = 5 := hml0
  have hown : s.vm.findClass "com/example/xrefloom/xrefloom/tree/CompactText" = some m.cls := findClass_of_methodNamed Bd.named
  have hnm := (name_of_methodNamed Bd.named Bd.method).1
  have X0 : Stand p l e ({ frames := 0, cells := 0, slots := 0, locals := 0 } : Room) s m #[(.ref r0), (.int (1 : Int32))] below meth c s₁ [] 0 0 := Stand.of_body Bd
  have e0 : s₁.heap = h0 := by rw [← hh, Bd.state]; rfl
  have N0 := Fr.nil n0
  obtain ⟨gn_r0, E_r0, F_length, na, wa, kn, kw, kb, gn_na, gn_wa, gn_wc, ne_r0_na, ne_r0_wa, ne_r0_wc, ne_na_wa, ne_na_wc, ne_wa_wc, F_narrow, F_wide, Ov, V_na, V_wa, V_wc⟩ := G
  show own_Goes p e below (own_End s (own_Same (.int (nar .char x1)) h0 n0) 0 0) _
  refine own_go (G := s₁.setTop (mkF m 0 #[.val (.ref r0), .val (.int (1 : Int32)), .unset, .unset, .unset] [])) (fun t k => castTop (ef_caW1 m r0) k) ?_
  refine own_go (G := s₁.setTop (mkF m 1 #[.val (.ref r0), .val (.int (1 : Int32)), .unset, .unset, .unset] [(.int (1 : Int32))])) (fun _ k => XS.iloadN X0.here hx rfl (hb hby d6_0) rfl k) ?_
  refine own_go (G := s₁.setTop (mkF m 3 #[.val (.ref r0), .val (.int (1 : Int32)), .unset, .unset, .unset] [(.int (16 : Int32)), (.int (1 : Int32))])) (fun _ k => XS.bipush X0.here hx rfl (hb hby d6_1) k) ?_
  refine own_go (G := s₁.setTop (mkF m 4 #[.val (.ref r0), .val (.int (1 : Int32)), .unset, .unset, .unset] [(.int (((1 : Int32).toUInt32 >>> ((16 : Int32) &&& 31).toUInt32).toInt32))])) (fun _ k => XS.iushr X0.here hx rfl (hb hby d6_3) rfl k) ?_
  rw [show (((1 : Int32).toUInt32 >>> ((16 : Int32) &&& 31).toUInt32).toInt32) = (0 : Int32) from by decide]
  refine own_go (G := s₁.setTop (mkF m 5 #[.val (.ref r0), .val (.int (1 : Int32)), .val (.int (0 : Int32)), .unset, .unset] [])) (fun _ k => XS.istoreN X0.here hx rfl (hb hby d6_4) rfl (l' := #[.val (.ref r0), .val (.int (1 : Int32)), .val (.int (0 : Int32)), .unset, .unset]) rfl k) ?_
  refine own_go (G := s₁.setTop (mkF m 6 #[.val (.ref r0), .val (.int (1 : Int32)), .val (.int (0 : Int32)), .unset, .unset] [(.int (1 : Int32))])) (fun _ k => XS.iloadN X0.here hx rfl (hb hby d6_5) rfl k) ?_
  refine own_go (G := s₁.setTop (mkF m 8 #[.val (.ref r0), .val (.int (1 : Int32)), .val (.int (0 : Int32)), .unset, .unset] [(.int (65535 : Int32)), (.int (1 : Int32))])) (X0.ldcInt hx hown (mvT hZ (hw _ (List.mem_of_getElem? (i := 31) rfl))) (g := (mkF m 6 #[.val (.ref r0), .val (.int (1 : Int32)), .val (.int (0 : Int32)), .unset, .unset] [(.int (1 : Int32))])) rfl (hb hby d6_6)) ?_
  refine own_go (G := s₁.setTop (mkF m 9 #[.val (.ref r0), .val (.int (1 : Int32)), .val (.int (0 : Int32)), .unset, .unset] [(.int ((1 : Int32) &&& (65535 : Int32)))])) (fun _ k => XS.iand X0.here hx rfl (hb hby d6_8) rfl k) ?_
  rw [show ((1 : Int32) &&& (65535 : Int32)) = (1 : Int32) from by decide]
  refine own_go (G := s₁.setTop (mkF m 10 #[.val (.ref r0), .val (.int (1 : Int32)), .val (.int (0 : Int32)), .val (.int (1 : Int32)), .unset] [])) (fun _ k => XS.istoreN X0.here hx rfl (hb hby d6_9) rfl (l' := #[.val (.ref r0), .val (.int (1 : Int32)), .val (.int (0 : Int32)), .val (.int (1 : Int32)), .unset]) rfl k) ?_
  refine own_go (G := s₁.setTop (mkF m 11 #[.val (.ref r0), .val (.int (1 : Int32)), .val (.int (0 : Int32)), .val (.int (1 : Int32)), .unset] [(.ref r0)])) (fun _ k => XS.aloadN X0.here hx rfl (hb hby d6_10) rfl rfl k) ?_
  obtain ⟨T1, X1, e1, st1⟩ := getF X0 hx hZ hown (host := "") (Or.inl (hw _ (List.mem_of_getElem? (i := 18) rfl))) Via.refl e0 F_narrow (g := (mkF m 11 #[.val (.ref r0), .val (.int (1 : Int32)), .val (.int (0 : Int32)), .val (.int (1 : Int32)), .unset] [(.ref r0)])) rfl rfl (hb hby d6_11)
  refine own_go (G := T1.setTop (mkF m 14 #[.val (.ref r0), .val (.int (1 : Int32)), .val (.int (0 : Int32)), .val (.int (1 : Int32)), .unset] [(.ref na)])) (st1) ?_
  refine own_go (G := T1.setTop (mkF m 15 #[.val (.ref r0), .val (.int (1 : Int32)), .val (.int (0 : Int32)), .val (.int (1 : Int32)), .unset] [(.int (0 : Int32)), (.ref na)])) (fun _ k => XS.iloadN X1.here hx rfl (hb hby d6_14) rfl k) ?_
  obtain ⟨cl2, Ar2, qk2, S2, N2_, Ha2, G2⟩ := id V_na
  have hin2 : ¬ ((0 : Int32) < 0 ∨ cl2.slots.size ≤ ((0 : Int32)).toNatClampNeg) := inb_of S2 ⟨by decide, by decide⟩
  have hat2 : cl2.slots[((0 : Int32)).toNatClampNeg]? = some .null := Ha2.at hin2 rfl
  refine own_go (G := T1.setTop (mkF m 16 #[.val (.ref r0), .val (.int (1 : Int32)), .val (.int (0 : Int32)), .val (.int (1 : Int32)), .unset] [.null])) (X1.aaload hx (j := (0 : Int32)) (v := .null) (by rw [e1]; exact Ar2.1) (State.isArrayOf_alike hZ.alike Ar2.2.1) rfl Ar2.2.2 hin2 hat2 (g := (mkF m 15 #[.val (.ref r0), .val (.int (1 : Int32)), .val (.int (0 : Int32)), .val (.int (1 : Int32)), .unset] [(.int (0 : Int32)), (.ref na)])) rfl rfl (hb hby d6_15)) ?_
  refine own_go (G := T1.setTop (mkF m 18 #[.val (.ref r0), .val (.int (1 : Int32)), .val (.int (0 : Int32)), .val (.int (1 : Int32)), .val .null] [])) (fun _ k => XS.astore X1.here hx rfl (hb hby d6_16) rfl rfl (l' := #[.val (.ref r0), .val (.int (1 : Int32)), .val (.int (0 : Int32)), .val (.int (1 : Int32)), .val .null]) rfl k) ?_
  refine own_go (G := T1.setTop (mkF m 20 #[.val (.ref r0), .val (.int (1 : Int32)), .val (.int (0 : Int32)), .val (.int (1 : Int32)), .val .null] [.null])) (fun _ k => XS.aload X1.here hx rfl (hb hby d6_18) rfl rfl k) ?_
  refine own_go (G := T1.setTop (mkF m 35 #[.val (.ref r0), .val (.int (1 : Int32)), .val (.int (0 : Int32)), .val (.int (1 : Int32)), .val .null] [])) (fun _ k => XS.ifnullYes X1.here hx rfl (pc0 := 20) (pc' := 35) rfl (hb hby d6_20) rfl (by decide) (by decide) k) ?_
  refine own_go (G := T1.setTop (mkF m 36 #[.val (.ref r0), .val (.int (1 : Int32)), .val (.int (0 : Int32)), .val (.int (1 : Int32)), .val .null] [(.ref r0)])) (fun _ k => XS.aloadN X1.here hx rfl (hb hby d6_35) rfl rfl k) ?_
  obtain ⟨T3, X3, e3, st3⟩ := getF X1 hx hZ hown (host := "") (Or.inl (hw _ (List.mem_of_getElem? (i := 22) rfl))) Via.refl e1 F_wide (g := (mkF m 36 #[.val (.ref r0), .val (.int (1 : Int32)), .val (.int (0 : Int32)), .val (.int (1 : Int32)), .val .null] [(.ref r0)])) rfl rfl (hb hby d6_36)
  refine own_go (G := T3.setTop (mkF m 39 #[.val (.ref r0), .val (.int (1 : Int32)), .val (.int (0 : Int32)), .val (.int (1 : Int32)), .val .null] [(.ref wa)])) (st3) ?_
  refine own_go (G := T3.setTop (mkF m 40 #[.val (.ref r0), .val (.int (1 : Int32)), .val (.int (0 : Int32)), .val (.int (1 : Int32)), .val .null] [(.int (0 : Int32)), (.ref wa)])) (fun _ k => XS.iloadN X3.here hx rfl (hb hby d6_39) rfl k) ?_
  obtain ⟨cl4, Ar4, qk4, S4, N4_, Ha4, G4⟩ := id V_wa
  have hin4 : ¬ ((0 : Int32) < 0 ∨ cl4.slots.size ≤ ((0 : Int32)).toNatClampNeg) := inb_of S4 ⟨by decide, by decide⟩
  have hat4 : cl4.slots[((0 : Int32)).toNatClampNeg]? = some (.ref wc) := Ha4.at hin4 rfl
  refine own_go (G := T3.setTop (mkF m 41 #[.val (.ref r0), .val (.int (1 : Int32)), .val (.int (0 : Int32)), .val (.int (1 : Int32)), .val .null] [(.ref wc)])) (X3.aaload hx (j := (0 : Int32)) (v := (.ref wc)) (by rw [e3]; exact Ar4.1) (State.isArrayOf_alike hZ.alike Ar4.2.1) rfl Ar4.2.2 hin4 hat4 (g := (mkF m 40 #[.val (.ref r0), .val (.int (1 : Int32)), .val (.int (0 : Int32)), .val (.int (1 : Int32)), .val .null] [(.int (0 : Int32)), (.ref wa)])) rfl rfl (hb hby d6_40)) ?_
  refine own_go (G := T3.setTop (mkF m 42 #[.val (.ref r0), .val (.int (1 : Int32)), .val (.int (0 : Int32)), .val (.int (1 : Int32)), .val .null] [(.int (1 : Int32)), (.ref wc)])) (fun _ k => XS.iloadN X3.here hx rfl (hb hby d6_41) rfl k) ?_
  obtain ⟨cl5, Ar5, qk5, S5, N5_, Ha5, G5⟩ := id V_wc
  have hin5 : ¬ ((1 : Int32) < 0 ∨ cl5.slots.size ≤ ((1 : Int32)).toNatClampNeg) := inb_of S5 ⟨by decide, by decide⟩
  have hat5 : cl5.slots[((1 : Int32)).toNatClampNeg]? = some (.int x1) := Ha5.at hin5 rfl
  refine own_go (G := T3.setTop (mkF m 43 #[.val (.ref r0), .val (.int (1 : Int32)), .val (.int (0 : Int32)), .val (.int (1 : Int32)), .val .null] [(.int x1)])) (X3.caload hx (j := (1 : Int32)) (v := (.int x1)) (by rw [e3]; exact Ar5.1) (State.isArrayOf_alike hZ.alike Ar5.2.1) Ar5.2.2 hin5 hat5 (g := (mkF m 42 #[.val (.ref r0), .val (.int (1 : Int32)), .val (.int (0 : Int32)), .val (.int (1 : Int32)), .val .null] [(.int (1 : Int32)), (.ref wc)])) rfl rfl (hb hby d6_42)) ?_
  exact own_retN X3 hx Bd.returns (by simp) (hb hby d6_43) Bd.notSynchronized (by decide) (by decide) ⟨rfl, N0, e3⟩
theorem ef_caW2 (m : MethodId) (r0 : Addr) : entryFrame m #[(.ref r0), (.int (2 : Int32))] 5 = mkF m 0 #[.val (.ref r0), .val (.int (2 : Int32)), .unset, .unset, .unset] [] := by first | (simp [entryFrame, mkF, argsToLocals, Value.category]; done) | rfl
set_option maxRecDepth 65536 in
set_option maxHeartbeats 40000000 in
theorem caW2 (l : Launch) (Z : State) (a0 : Array Value) (hw : ∀ d ∈ tables_1, d.before a0 Z = true) (ws : List Jvm.Cond) (r0 : Addr) (len : Int32) (x0 : Int32) (x1 : Int32) (x2 : Int32) (wc : Addr) (h0 : Heap) (n0 : Nat) (Z0 : n0 ≤ h0.size) (G : own_W Z h0 n0 r0 len x0 x1 x2 wc) :
    MetFree l (⟨"com/example/xrefloom/xrefloom/tree/CompactText", "charAt", "(I)C"⟩ : MethodName) (head1 (Jvm.Cond.code (⟨"com/example/xrefloom/xrefloom/tree/CompactText", "charAt", "(I)C"⟩ : MethodName) prog_30_method_3_code 5 (some .char) :: ws) ({ frames := 0, cells := 0, slots := 0, locals := 0 } : Room)) (fun a U => a = #[(.ref r0), (.int (2 : Int32))] ∧ Z.Warmed39 U.vm ∧ U.heap = h0) (fun _ _ _ _ _ => True) (fun _ U o U' => ∃ v L, o = .returned v ∧ (own_Same (.int (nar .char x2)) h0 n0) v U'.heap L ∧ FrameEnd U o U' L 0 0) := by
  refine MetFree.of_bodySF (plainFor_of_name pn6) hisR ?_
  intro p e s m args below meth c s₁ Bd hml0 hP hK
  obtain ⟨rfl, hZ, hh⟩ := hP
  have hx := Bd.exec
  have hby := Bd.bytes
  have hml : c.maxLocals = 5 := hml0
  have hown : s.vm.findClass "com/example/xrefloom/xrefloom/tree/CompactText" = some m.cls := findClass_of_methodNamed Bd.named
  have hnm := (name_of_methodNamed Bd.named Bd.method).1
  have X0 : Stand p l e ({ frames := 0, cells := 0, slots := 0, locals := 0 } : Room) s m #[(.ref r0), (.int (2 : Int32))] below meth c s₁ [] 0 0 := Stand.of_body Bd
  have e0 : s₁.heap = h0 := by rw [← hh, Bd.state]; rfl
  have N0 := Fr.nil n0
  obtain ⟨gn_r0, E_r0, F_length, na, wa, kn, kw, kb, gn_na, gn_wa, gn_wc, ne_r0_na, ne_r0_wa, ne_r0_wc, ne_na_wa, ne_na_wc, ne_wa_wc, F_narrow, F_wide, Ov, V_na, V_wa, V_wc⟩ := G
  show own_Goes p e below (own_End s (own_Same (.int (nar .char x2)) h0 n0) 0 0) _
  refine own_go (G := s₁.setTop (mkF m 0 #[.val (.ref r0), .val (.int (2 : Int32)), .unset, .unset, .unset] [])) (fun t k => castTop (ef_caW2 m r0) k) ?_
  refine own_go (G := s₁.setTop (mkF m 1 #[.val (.ref r0), .val (.int (2 : Int32)), .unset, .unset, .unset] [(.int (2 : Int32))])) (fun _ k => XS.iloadN X0.here hx rfl (hb hby d6_0) rfl k) ?_
  refine own_go (G := s₁.setTop (mkF m 3 #[.val (.ref r0), .val (.int (2 : Int32)), .unset, .unset, .unset] [(.int (16 : Int32)), (.int (2 : Int32))])) (fun _ k => XS.bipush X0.here hx rfl (hb hby d6_1) k) ?_
  refine own_go (G := s₁.setTop (mkF m 4 #[.val (.ref r0), .val (.int (2 : Int32)), .unset, .unset, .unset] [(.int (((2 : Int32).toUInt32 >>> ((16 : Int32) &&& 31).toUInt32).toInt32))])) (fun _ k => XS.iushr X0.here hx rfl (hb hby d6_3) rfl k) ?_
  rw [show (((2 : Int32).toUInt32 >>> ((16 : Int32) &&& 31).toUInt32).toInt32) = (0 : Int32) from by decide]
  refine own_go (G := s₁.setTop (mkF m 5 #[.val (.ref r0), .val (.int (2 : Int32)), .val (.int (0 : Int32)), .unset, .unset] [])) (fun _ k => XS.istoreN X0.here hx rfl (hb hby d6_4) rfl (l' := #[.val (.ref r0), .val (.int (2 : Int32)), .val (.int (0 : Int32)), .unset, .unset]) rfl k) ?_
  refine own_go (G := s₁.setTop (mkF m 6 #[.val (.ref r0), .val (.int (2 : Int32)), .val (.int (0 : Int32)), .unset, .unset] [(.int (2 : Int32))])) (fun _ k => XS.iloadN X0.here hx rfl (hb hby d6_5) rfl k) ?_
  refine own_go (G := s₁.setTop (mkF m 8 #[.val (.ref r0), .val (.int (2 : Int32)), .val (.int (0 : Int32)), .unset, .unset] [(.int (65535 : Int32)), (.int (2 : Int32))])) (X0.ldcInt hx hown (mvT hZ (hw _ (List.mem_of_getElem? (i := 31) rfl))) (g := (mkF m 6 #[.val (.ref r0), .val (.int (2 : Int32)), .val (.int (0 : Int32)), .unset, .unset] [(.int (2 : Int32))])) rfl (hb hby d6_6)) ?_
  refine own_go (G := s₁.setTop (mkF m 9 #[.val (.ref r0), .val (.int (2 : Int32)), .val (.int (0 : Int32)), .unset, .unset] [(.int ((2 : Int32) &&& (65535 : Int32)))])) (fun _ k => XS.iand X0.here hx rfl (hb hby d6_8) rfl k) ?_
  rw [show ((2 : Int32) &&& (65535 : Int32)) = (2 : Int32) from by decide]
  refine own_go (G := s₁.setTop (mkF m 10 #[.val (.ref r0), .val (.int (2 : Int32)), .val (.int (0 : Int32)), .val (.int (2 : Int32)), .unset] [])) (fun _ k => XS.istoreN X0.here hx rfl (hb hby d6_9) rfl (l' := #[.val (.ref r0), .val (.int (2 : Int32)), .val (.int (0 : Int32)), .val (.int (2 : Int32)), .unset]) rfl k) ?_
  refine own_go (G := s₁.setTop (mkF m 11 #[.val (.ref r0), .val (.int (2 : Int32)), .val (.int (0 : Int32)), .val (.int (2 : Int32)), .unset] [(.ref r0)])) (fun _ k => XS.aloadN X0.here hx rfl (hb hby d6_10) rfl rfl k) ?_
  obtain ⟨T1, X1, e1, st1⟩ := getF X0 hx hZ hown (host := "") (Or.inl (hw _ (List.mem_of_getElem? (i := 18) rfl))) Via.refl e0 F_narrow (g := (mkF m 11 #[.val (.ref r0), .val (.int (2 : Int32)), .val (.int (0 : Int32)), .val (.int (2 : Int32)), .unset] [(.ref r0)])) rfl rfl (hb hby d6_11)
  refine own_go (G := T1.setTop (mkF m 14 #[.val (.ref r0), .val (.int (2 : Int32)), .val (.int (0 : Int32)), .val (.int (2 : Int32)), .unset] [(.ref na)])) (st1) ?_
  refine own_go (G := T1.setTop (mkF m 15 #[.val (.ref r0), .val (.int (2 : Int32)), .val (.int (0 : Int32)), .val (.int (2 : Int32)), .unset] [(.int (0 : Int32)), (.ref na)])) (fun _ k => XS.iloadN X1.here hx rfl (hb hby d6_14) rfl k) ?_
  obtain ⟨cl2, Ar2, qk2, S2, N2_, Ha2, G2⟩ := id V_na
  have hin2 : ¬ ((0 : Int32) < 0 ∨ cl2.slots.size ≤ ((0 : Int32)).toNatClampNeg) := inb_of S2 ⟨by decide, by decide⟩
  have hat2 : cl2.slots[((0 : Int32)).toNatClampNeg]? = some .null := Ha2.at hin2 rfl
  refine own_go (G := T1.setTop (mkF m 16 #[.val (.ref r0), .val (.int (2 : Int32)), .val (.int (0 : Int32)), .val (.int (2 : Int32)), .unset] [.null])) (X1.aaload hx (j := (0 : Int32)) (v := .null) (by rw [e1]; exact Ar2.1) (State.isArrayOf_alike hZ.alike Ar2.2.1) rfl Ar2.2.2 hin2 hat2 (g := (mkF m 15 #[.val (.ref r0), .val (.int (2 : Int32)), .val (.int (0 : Int32)), .val (.int (2 : Int32)), .unset] [(.int (0 : Int32)), (.ref na)])) rfl rfl (hb hby d6_15)) ?_
  refine own_go (G := T1.setTop (mkF m 18 #[.val (.ref r0), .val (.int (2 : Int32)), .val (.int (0 : Int32)), .val (.int (2 : Int32)), .val .null] [])) (fun _ k => XS.astore X1.here hx rfl (hb hby d6_16) rfl rfl (l' := #[.val (.ref r0), .val (.int (2 : Int32)), .val (.int (0 : Int32)), .val (.int (2 : Int32)), .val .null]) rfl k) ?_
  refine own_go (G := T1.setTop (mkF m 20 #[.val (.ref r0), .val (.int (2 : Int32)), .val (.int (0 : Int32)), .val (.int (2 : Int32)), .val .null] [.null])) (fun _ k => XS.aload X1.here hx rfl (hb hby d6_18) rfl rfl k) ?_
  refine own_go (G := T1.setTop (mkF m 35 #[.val (.ref r0), .val (.int (2 : Int32)), .val (.int (0 : Int32)), .val (.int (2 : Int32)), .val .null] [])) (fun _ k => XS.ifnullYes X1.here hx rfl (pc0 := 20) (pc' := 35) rfl (hb hby d6_20) rfl (by decide) (by decide) k) ?_
  refine own_go (G := T1.setTop (mkF m 36 #[.val (.ref r0), .val (.int (2 : Int32)), .val (.int (0 : Int32)), .val (.int (2 : Int32)), .val .null] [(.ref r0)])) (fun _ k => XS.aloadN X1.here hx rfl (hb hby d6_35) rfl rfl k) ?_
  obtain ⟨T3, X3, e3, st3⟩ := getF X1 hx hZ hown (host := "") (Or.inl (hw _ (List.mem_of_getElem? (i := 22) rfl))) Via.refl e1 F_wide (g := (mkF m 36 #[.val (.ref r0), .val (.int (2 : Int32)), .val (.int (0 : Int32)), .val (.int (2 : Int32)), .val .null] [(.ref r0)])) rfl rfl (hb hby d6_36)
  refine own_go (G := T3.setTop (mkF m 39 #[.val (.ref r0), .val (.int (2 : Int32)), .val (.int (0 : Int32)), .val (.int (2 : Int32)), .val .null] [(.ref wa)])) (st3) ?_
  refine own_go (G := T3.setTop (mkF m 40 #[.val (.ref r0), .val (.int (2 : Int32)), .val (.int (0 : Int32)), .val (.int (2 : Int32)), .val .null] [(.int (0 : Int32)), (.ref wa)])) (fun _ k => XS.iloadN X3.here hx rfl (hb hby d6_39) rfl k) ?_
  obtain ⟨cl4, Ar4, qk4, S4, N4_, Ha4, G4⟩ := id V_wa
  have hin4 : ¬ ((0 : Int32) < 0 ∨ cl4.slots.size ≤ ((0 : Int32)).toNatClampNeg) := inb_of S4 ⟨by decide, by decide⟩
  have hat4 : cl4.slots[((0 : Int32)).toNatClampNeg]? = some (.ref wc) := Ha4.at hin4 rfl
  refine own_go (G := T3.setTop (mkF m 41 #[.val (.ref r0), .val (.int (2 : Int32)), .val (.int (0 : Int32)), .val (.int (2 : Int32)), .val .null] [(.ref wc)])) (X3.aaload hx (j := (0 : Int32)) (v := (.ref wc)) (by rw [e3]; exact Ar4.1) (State.isArrayOf_alike hZ.alike Ar4.2.1) rfl Ar4.2.2 hin4 hat4 (g := (mkF m 40 #[.val (.ref r0), .val (.int (2 : Int32)), .val (.int (0 : Int32)), .val (.int (2 : Int32)), .val .null] [(.int (0 : Int32)), (.ref wa)])) rfl rfl (hb hby d6_40)) ?_
  refine own_go (G := T3.setTop (mkF m 42 #[.val (.ref r0), .val (.int (2 : Int32)), .val (.int (0 : Int32)), .val (.int (2 : Int32)), .val .null] [(.int (2 : Int32)), (.ref wc)])) (fun _ k => XS.iloadN X3.here hx rfl (hb hby d6_41) rfl k) ?_
  obtain ⟨cl5, Ar5, qk5, S5, N5_, Ha5, G5⟩ := id V_wc
  have hin5 : ¬ ((2 : Int32) < 0 ∨ cl5.slots.size ≤ ((2 : Int32)).toNatClampNeg) := inb_of S5 ⟨by decide, by decide⟩
  have hat5 : cl5.slots[((2 : Int32)).toNatClampNeg]? = some (.int x2) := Ha5.at hin5 rfl
  refine own_go (G := T3.setTop (mkF m 43 #[.val (.ref r0), .val (.int (2 : Int32)), .val (.int (0 : Int32)), .val (.int (2 : Int32)), .val .null] [(.int x2)])) (X3.caload hx (j := (2 : Int32)) (v := (.int x2)) (by rw [e3]; exact Ar5.1) (State.isArrayOf_alike hZ.alike Ar5.2.1) Ar5.2.2 hin5 hat5 (g := (mkF m 42 #[.val (.ref r0), .val (.int (2 : Int32)), .val (.int (0 : Int32)), .val (.int (2 : Int32)), .val .null] [(.int (2 : Int32)), (.ref wc)])) rfl rfl (hb hby d6_42)) ?_
  exact own_retN X3 hx Bd.returns (by simp) (hb hby d6_43) Bd.notSynchronized (by decide) (by decide) ⟨rfl, N0, e3⟩

theorem own_drawn {a b v : Int32} (h : F1 a b = v) : 0 ≤ v.toInt ∧ v.toInt < 65536 := by
  have q : ∀ z : Int32, 0 ≤ (nar .char z).toInt ∧ (nar .char z).toInt < 65536 := fun z => (c_i2c z).2
  rw [← h]
  simp only [F1, F1_13]
  repeat' split
  all_goals exact q _
theorem own_id {v : Int32} (h0 : 0 ≤ v.toInt) (h1 : v.toInt < 65536) : nar .char v = v := Int32.toInt_inj.mp (by have a := c_i2c v; show v.toUInt32.toUInt16.toUInt32.toInt32.toInt = _; omega)
theorem own_low {v : Int32} (h0 : 0 ≤ v.toInt) (h1 : v < (256 : Int32)) : (nar .char (((nar .byte (v.toInt8.toInt32)) &&& (255 : Int32)).toUInt32.toUInt16.toUInt32.toInt32)) = v := by
  rw [Int32.lt_iff_toInt_lt, show (256 : Int32).toInt = 256 from rfl] at h1
  have b := c_i2b v
  have b2 := c_i2b (v.toInt8.toInt32)
  have m := c_mask (nar .byte (v.toInt8.toInt32)) 255 8 (by decide) (by decide)
  have e : (nar .byte (v.toInt8.toInt32)).toInt = ((v.toInt8.toInt32).toInt8.toInt32).toInt := rfl
  have c1 := c_i2c ((nar .byte (v.toInt8.toInt32)) &&& 255)
  have c2 := c_i2c (((nar .byte (v.toInt8.toInt32)) &&& 255).toUInt32.toUInt16.toUInt32.toInt32)
  apply Int32.toInt_inj.mp
  show ((((nar .byte (v.toInt8.toInt32)) &&& 255).toUInt32.toUInt16.toUInt32.toInt32).toUInt32.toUInt16.toUInt32.toInt32).toInt = _
  omega
theorem own_fN {a b v : Int32} (h : F1 a b = v) (hc : v < (256 : Int32)) : (nar .char (((nar .byte (v.toInt8.toInt32)) &&& (255 : Int32)).toUInt32.toUInt16.toUInt32.toInt32)) = v := own_low (own_drawn h).1 hc
theorem own_fG {a b v : Int32} (h : F1 a b = v) (hc : v < (256 : Int32)) : (nar .char (nar .char (((nar .byte (v.toInt8.toInt32)) &&& (255 : Int32)).toUInt32.toUInt16.toUInt32.toInt32))) = v := by
  rw [own_fN h hc]; exact own_id (own_drawn h).1 (own_drawn h).2
theorem own_fW {a b v : Int32} (h : F1 a b = v) : (nar .char (nar .char v)) = v := by
  rw [own_id (own_drawn h).1 (own_drawn h).2, own_id (own_drawn h).1 (own_drawn h).2]

theorem pn0 : plainName "com/example/xrefloom/xrefloom/tree/CompactTextCharAtPinLaw" = true := by first | (simp [plainName, overriddenIn]; done) | decide +kernel
theorem pd2 : parseMethodDescriptor "(IZ)C" = some ⟨[.int, .boolean], some .char⟩ := by decide +kernel
theorem pd3 : parseMethodDescriptor "()V" = some ⟨[], none⟩ := by decide +kernel
theorem pd4 : parseMethodDescriptor "(C)V" = some ⟨[.char], none⟩ := by decide +kernel
theorem pd5 : parseMethodDescriptor "(I)C" = some ⟨[.int], some .char⟩ := by decide +kernel
theorem ef_rm0 (m : MethodId) (p0 : Int32) (p1 : Int32) (p2 : Int32) (p3 : Int32) : entryFrame m #[(.int p0), (.int p1), (.int p2), (.int p3)] maxLocals = mkF m 0 #[.val (.int p0), .val (.int p1), .val (.int p2), .val (.int p3), .unset, .unset, .unset, .unset] [] := by first | (simp [entryFrame, mkF, argsToLocals, Value.category, maxLocals]; done) | rfl
set_option maxRecDepth 65536 in
set_option maxHeartbeats 40000000 in
theorem rm0 (l : Launch) (Z : State) (a0 : Array Value) (hw : ∀ d ∈ tables_1, d.before a0 Z = true) (ws : List Jvm.Cond) (p0 : Int32) (p1 : Int32) (p2 : Int32) (p3 : Int32) (h0 : Heap) (n0 : Nat) (Z0 : n0 ≤ h0.size) :
    MetFree l x (head1 (Jvm.Cond.code x code maxLocals ret :: ws) room_1) (fun a U => a = #[(.int p0), (.int p1), (.int p2), (.int p3)] ∧ Z.Warmed39 U.vm ∧ U.heap = h0) (fun _ _ _ _ _ => True) (fun _ U o U' => ∃ v L, o = .returned v ∧ (own_True n0) v U'.heap L ∧ FrameEnd U o U' L 24 384) := by
  refine MetFree.of_bodySF (plainFor_of_name pn0) hisR ?_
  intro p e s m args below meth c s₁ Bd hml0 hP hK
  obtain ⟨rfl, hZ, hh⟩ := hP
  have hx := Bd.exec
  have hby := Bd.bytes
  have hml : c.maxLocals = 8 := hml0
  have hown : s.vm.findClass "com/example/xrefloom/xrefloom/tree/CompactTextCharAtPinLaw" = some m.cls := findClass_of_methodNamed Bd.named
  have hnm := (name_of_methodNamed Bd.named Bd.method).1
  have X0 : Stand p l e room_1 s m #[(.int p0), (.int p1), (.int p2), (.int p3)] below meth c s₁ [] 0 0 := Stand.of_body Bd
  have e0 : s₁.heap = h0 := by rw [← hh, Bd.state]; rfl
  have N0 := Fr.nil n0
  show own_Goes p e below (own_End s (own_True n0) 24 384) _
  refine own_go (G := s₁.setTop (mkF m 0 #[.val (.int p0), .val (.int p1), .val (.int p2), .val (.int p3), .unset, .unset, .unset, .unset] [])) (fun t k => castTop (ef_rm0 m p0 p1 p2 p3) k) ?_
  refine own_go (G := s₁.setTop (mkF m 1 #[.val (.int p0), .val (.int p1), .val (.int p2), .val (.int p3), .unset, .unset, .unset, .unset] [(.int p0)])) (fun _ k => XS.iloadN X0.here hx rfl (hb hby at_0) rfl k) ?_
  refine own_go (G := s₁.setTop (mkF m 2 #[.val (.int p0), .val (.int p1), .val (.int p2), .val (.int p3), .unset, .unset, .unset, .unset] [(.int p3), (.int p0)])) (fun _ k => XS.iloadN X0.here hx rfl (hb hby at_1) rfl k) ?_
  refine own_go (G := s₁.setTop (mkF m 3 #[.val (.int p0), .val (.int p1), .val (.int p2), .val (.int p3), .unset, .unset, .unset, .unset] [(.int (1 : Int32)), (.int p3), (.int p0)])) (fun _ k => XS.iconst X0.here hx rfl (hb hby at_2) k) ?_
  refine own_go (G := s₁.setTop (mkF m 4 #[.val (.int p0), .val (.int p1), .val (.int p2), .val (.int p3), .unset, .unset, .unset, .unset] [(.int (p3 &&& (1 : Int32))), (.int p0)])) (fun _ k => XS.iand X0.here hx rfl (hb hby at_3) rfl k) ?_
  have j12_1 : ∀ (s4_1 : Int32), own_Goes p e below (own_End s (own_True n0) 24 384) (s₁.setTop (mkF m 12 #[.val (.int p0), .val (.int p1), .val (.int p2), .val (.int p3), .unset, .unset, .unset, .unset] [(.int s4_1), (.int p0)])) := by
    intro s4_1
    obtain ⟨_, _, ⟨T2, L2, k2, n2⟩, -, X2, ⟨Lc2, hQ2, l2, y2, z2⟩, st2⟩ := Jvm.LawKit.callS X0 hx (y := (⟨"com/example/xrefloom/xrefloom/tree/CompactTextCharAtPinLaw", "draw", "(IZ)C"⟩ : MethodName)) hown (mvT hZ (hw _ (List.mem_of_getElem? (i := 0) rfl))) (mvT hZ (hw _ (List.mem_of_getElem? (i := 1) rfl))) (mvT hZ (hw _ (List.mem_of_getElem? (i := 2) rfl))) (mvT hZ (hw _ (List.mem_of_getElem? (i := 3) rfl))) (by decide) (backOf (W := 0) (rm1 l Z a0 hw [] p0 s4_1 h0 n0 Z0) hZ (hw _ (List.mem_of_getElem? (i := 3) rfl)) (hw _ (List.mem_of_getElem? (i := 2) rfl)) (by decide) (by decide)) (g := (mkF m 12 #[.val (.int p0), .val (.int p1), .val (.int p2), .val (.int p3), .unset, .unset, .unset, .unset] [(.int s4_1), (.int p0)])) rfl (by rw [hml]; rfl) (argsL := [(.int p0), (.int s4_1)]) (rest := []) (lenOf pd2 rfl) rfl (by show 2 * 0 + _ ≤ _; exact Nat.le_of_eq rfl) (hb hby at_12) (fun _ _ => ⟨rfl, e0, (by decide : 0 + 0 ≤ _), (by decide : 0 + 0 ≤ _)⟩)
    dsimp only [Pt.U, Pt.locs, Pt.cells, Pt.slots] at X2 l2 y2 z2 st2 hQ2
    subst l2 y2 z2
    obtain ⟨rfl, Nq2, e2⟩ := hQ2
    have N2 := Fr.app N0 Nq2
    refine own_go (G := T2.setTop (mkF m 15 #[.val (.int p0), .val (.int p1), .val (.int p2), .val (.int p3), .unset, .unset, .unset, .unset] [(.int (F1 p0 s4_1))])) (st2) ?_
    generalize hv3 : (F1 p0 s4_1) = v3
    refine own_go (G := T2.setTop (mkF m 17 #[.val (.int p0), .val (.int p1), .val (.int p2), .val (.int p3), .val (.int v3), .unset, .unset, .unset] [])) (fun _ k => XS.istore X2.here hx rfl (hb hby at_15) rfl (l' := #[.val (.int p0), .val (.int p1), .val (.int p2), .val (.int p3), .val (.int v3), .unset, .unset, .unset]) rfl k) ?_
    refine own_go (G := T2.setTop (mkF m 18 #[.val (.int p0), .val (.int p1), .val (.int p2), .val (.int p3), .val (.int v3), .unset, .unset, .unset] [(.int p1)])) (fun _ k => XS.iloadN X2.here hx rfl (hb hby at_17) rfl k) ?_
    refine own_go (G := T2.setTop (mkF m 19 #[.val (.int p0), .val (.int p1), .val (.int p2), .val (.int p3), .val (.int v3), .unset, .unset, .unset] [(.int p3), (.int p1)])) (fun _ k => XS.iloadN X2.here hx rfl (hb hby at_18) rfl k) ?_
    refine own_go (G := T2.setTop (mkF m 20 #[.val (.int p0), .val (.int p1), .val (.int p2), .val (.int p3), .val (.int v3), .unset, .unset, .unset] [(.int (2 : Int32)), (.int p3), (.int p1)])) (fun _ k => XS.iconst X2.here hx rfl (hb hby at_19) k) ?_
    refine own_go (G := T2.setTop (mkF m 21 #[.val (.int p0), .val (.int p1), .val (.int p2), .val (.int p3), .val (.int v3), .unset, .unset, .unset] [(.int (p3 &&& (2 : Int32))), (.int p1)])) (fun _ k => XS.iand X2.here hx rfl (hb hby at_20) rfl k) ?_
    have j29_4 : ∀ (s21_4 : Int32), own_Goes p e below (own_End s (own_True n0) 24 384) (T2.setTop (mkF m 29 #[.val (.int p0), .val (.int p1), .val (.int p2), .val (.int p3), .val (.int v3), .unset, .unset, .unset] [(.int s21_4), (.int p1)])) := by
      intro s21_4
      obtain ⟨_, _, ⟨T5, L5, k5, n5⟩, -, X5, ⟨Lc5, hQ5, l5, y5, z5⟩, st5⟩ := Jvm.LawKit.callS X2 hx (y := (⟨"com/example/xrefloom/xrefloom/tree/CompactTextCharAtPinLaw", "draw", "(IZ)C"⟩ : MethodName)) hown (mvT hZ (hw _ (List.mem_of_getElem? (i := 0) rfl))) (mvT hZ (hw _ (List.mem_of_getElem? (i := 1) rfl))) (mvT hZ (hw _ (List.mem_of_getElem? (i := 2) rfl))) (mvT hZ (hw _ (List.mem_of_getElem? (i := 3) rfl))) (by decide) (backOf (W := 0) (rm1 l Z a0 hw [] p1 s21_4 h0 n0 Z0) hZ (hw _ (List.mem_of_getElem? (i := 3) rfl)) (hw _ (List.mem_of_getElem? (i := 2) rfl)) (by decide) (by decide)) (g := (mkF m 29 #[.val (.int p0), .val (.int p1), .val (.int p2), .val (.int p3), .val (.int v3), .unset, .unset, .unset] [(.int s21_4), (.int p1)])) rfl (by rw [hml]; rfl) (argsL := [(.int p1), (.int s21_4)]) (rest := []) (lenOf pd2 rfl) rfl (by show 2 * 0 + _ ≤ _; exact Nat.le_of_eq rfl) (hb hby at_29) (fun _ _ => ⟨rfl, e2, (by decide : 0 + 0 ≤ _), (by decide : 0 + 0 ≤ _)⟩)
      dsimp only [Pt.U, Pt.locs, Pt.cells, Pt.slots] at X5 l5 y5 z5 st5 hQ5
      subst l5 y5 z5
      obtain ⟨rfl, Nq5, e5⟩ := hQ5
      have N5 := Fr.app N2 Nq5
      refine own_go (G := T5.setTop (mkF m 32 #[.val (.int p0), .val (.int p1), .val (.int p2), .val (.int p3), .val (.int v3), .unset, .unset, .unset] [(.int (F1 p1 s21_4))])) (st5) ?_
      generalize hv6 : (F1 p1 s21_4) = v6
      refine own_go (G := T5.setTop (mkF m 34 #[.val (.int p0), .val (.int p1), .val (.int p2), .val (.int p3), .val (.int v3), .val (.int v6), .unset, .unset] [])) (fun _ k => XS.istore X5.here hx rfl (hb hby at_32) rfl (l' := #[.val (.int p0), .val (.int p1), .val (.int p2), .val (.int p3), .val (.int v3), .val (.int v6), .unset, .unset]) rfl k) ?_
      refine own_go (G := T5.setTop (mkF m 35 #[.val (.int p0), .val (.int p1), .val (.int p2), .val (.int p3), .val (.int v3), .val (.int v6), .unset, .unset] [(.int p2)])) (fun _ k => XS.iloadN X5.here hx rfl (hb hby at_34) rfl k) ?_
      refine own_go (G := T5.setTop (mkF m 36 #[.val (.int p0), .val (.int p1), .val (.int p2), .val (.int p3), .val (.int v3), .val (.int v6), .unset, .unset] [(.int p3), (.int p2)])) (fun _ k => XS.iloadN X5.here hx rfl (hb hby at_35) rfl k) ?_
      refine own_go (G := T5.setTop (mkF m 37 #[.val (.int p0), .val (.int p1), .val (.int p2), .val (.int p3), .val (.int v3), .val (.int v6), .unset, .unset] [(.int (4 : Int32)), (.int p3), (.int p2)])) (fun _ k => XS.iconst X5.here hx rfl (hb hby at_36) k) ?_
      refine own_go (G := T5.setTop (mkF m 38 #[.val (.int p0), .val (.int p1), .val (.int p2), .val (.int p3), .val (.int v3), .val (.int v6), .unset, .unset] [(.int (p3 &&& (4 : Int32))), (.int p2)])) (fun _ k => XS.iand X5.here hx rfl (hb hby at_37) rfl k) ?_
      have j46_7 : ∀ (s38_7 : Int32), own_Goes p e below (own_End s (own_True n0) 24 384) (T5.setTop (mkF m 46 #[.val (.int p0), .val (.int p1), .val (.int p2), .val (.int p3), .val (.int v3), .val (.int v6), .unset, .unset] [(.int s38_7), (.int p2)])) := by
        intro s38_7
        obtain ⟨_, _, ⟨T8, L8, k8, n8⟩, -, X8, ⟨Lc8, hQ8, l8, y8, z8⟩, st8⟩ := Jvm.LawKit.callS X5 hx (y := (⟨"com/example/xrefloom/xrefloom/tree/CompactTextCharAtPinLaw", "draw", "(IZ)C"⟩ : MethodName)) hown (mvT hZ (hw _ (List.mem_of_getElem? (i := 0) rfl))) (mvT hZ (hw _ (List.mem_of_getElem? (i := 1) rfl))) (mvT hZ (hw _ (List.mem_of_getElem? (i := 2) rfl))) (mvT hZ (hw _ (List.mem_of_getElem? (i := 3) rfl))) (by decide) (backOf (W := 0) (rm1 l Z a0 hw [] p2 s38_7 h0 n0 Z0) hZ (hw _ (List.mem_of_getElem? (i := 3) rfl)) (hw _ (List.mem_of_getElem? (i := 2) rfl)) (by decide) (by decide)) (g := (mkF m 46 #[.val (.int p0), .val (.int p1), .val (.int p2), .val (.int p3), .val (.int v3), .val (.int v6), .unset, .unset] [(.int s38_7), (.int p2)])) rfl (by rw [hml]; rfl) (argsL := [(.int p2), (.int s38_7)]) (rest := []) (lenOf pd2 rfl) rfl (by show 2 * 0 + _ ≤ _; exact Nat.le_of_eq rfl) (hb hby at_46) (fun _ _ => ⟨rfl, e5, (by decide : 0 + 0 ≤ _), (by decide : 0 + 0 ≤ _)⟩)
        dsimp only [Pt.U, Pt.locs, Pt.cells, Pt.slots] at X8 l8 y8 z8 st8 hQ8
        subst l8 y8 z8
        obtain ⟨rfl, Nq8, e8⟩ := hQ8
        have N8 := Fr.app N5 Nq8
        refine own_go (G := T8.setTop (mkF m 49 #[.val (.int p0), .val (.int p1), .val (.int p2), .val (.int p3), .val (.int v3), .val (.int v6), .unset, .unset] [(.int (F1 p2 s38_7))])) (st8) ?_
        generalize hv9 : (F1 p2 s38_7) = v9
        refine own_go (G := T8.setTop (mkF m 51 #[.val (.int p0), .val (.int p1), .val (.int p2), .val (.int p3), .val (.int v3), .val (.int v6), .val (.int v9), .unset] [])) (fun _ k => XS.istore X8.here hx rfl (hb hby at_49) rfl (l' := #[.val (.int p0), .val (.int p1), .val (.int p2), .val (.int p3), .val (.int v3), .val (.int v6), .val (.int v9), .unset]) rfl k) ?_
        obtain ⟨T10, h10, X10, e10, E10, A10, D10, -, st10⟩ := newO X8 hx hZ hown (hw _ (List.mem_of_getElem? (i := 5) rfl)) (hw _ (List.mem_of_getElem? (i := 6) rfl)) (hw _ (List.mem_of_getElem? (i := 7) rfl)) e8 (g := (mkF m 51 #[.val (.int p0), .val (.int p1), .val (.int p2), .val (.int p3), .val (.int v3), .val (.int v6), .val (.int v9), .unset] [])) rfl (hb hby at_51) (by decide) (by decide)
        obtain ⟨b10, g10⟩ : ∃ z, z = h0.size := ⟨_, rfl⟩
        rw [← g10] at A10 D10 st10
        have gn_b10 : n0 ≤ b10 := Nat.le_trans Z0 (Nat.le_of_eq g10.symm)
        have Z10 : n0 ≤ h10.size := Nat.le_trans Z0 E10.1
        have F_narrow_b10 : Fld Z h10 b10 "com/example/xrefloom/xrefloom/tree/CompactText" "narrow" "[[B" .null := D10 (Or.inl (hw _ (List.mem_of_getElem? (i := 19) rfl))) (ty := (.array (.array .byte))) (by decide)
        have F_wide_b10 : Fld Z h10 b10 "com/example/xrefloom/xrefloom/tree/CompactText" "wide" "[[C" .null := D10 (Or.inl (hw _ (List.mem_of_getElem? (i := 23) rfl))) (ty := (.array (.array .char))) (by decide)
        have F_length_b10 : Fld Z h10 b10 "com/example/xrefloom/xrefloom/tree/CompactText" "length" "I" (.int (0 : Int32)) := D10 (Or.inl (hw _ (List.mem_of_getElem? (i := 30) rfl))) (ty := .int) (by decide)
        refine own_go (G := T10.setTop (mkF m 54 #[.val (.int p0), .val (.int p1), .val (.int p2), .val (.int p3), .val (.int v3), .val (.int v6), .val (.int v9), .unset] [(.ref b10)])) (st10) ?_
        refine own_go (G := T10.setTop (mkF m 55 #[.val (.int p0), .val (.int p1), .val (.int p2), .val (.int p3), .val (.int v3), .val (.int v6), .val (.int v9), .unset] [(.ref b10), (.ref b10)])) (fun _ k => XS.dup X10.here hx rfl (hb hby at_54) rfl rfl k) ?_
        obtain ⟨_, _, ⟨T11, L11, k11, n11⟩, -, X11, ⟨Lc11, hQ11, l11, y11, z11⟩, st11⟩ := X10.specialBack hx (y := (⟨"com/example/xrefloom/xrefloom/tree/CompactText", "<init>", "()V"⟩ : MethodName)) rfl hown (mvT hZ (hw _ (List.mem_of_getElem? (i := 8) rfl))) (mvT hZ (hw _ (List.mem_of_getElem? (i := 9) rfl))) (mvT hZ (hw _ (List.mem_of_getElem? (i := 10) rfl))) (by decide) (backOf (W := 1) (rm2 l Z a0 hw [] b10 h10 n0 Z10 F_length_b10 F_narrow_b10 F_wide_b10 A10 gn_b10) hZ (hw _ (List.mem_of_getElem? (i := 10) rfl)) (hw _ (List.mem_of_getElem? (i := 7) rfl)) (by decide) (by decide)) (g := (mkF m 55 #[.val (.int p0), .val (.int p1), .val (.int p2), .val (.int p3), .val (.int v3), .val (.int v6), .val (.int v9), .unset] [(.ref b10), (.ref b10)])) rfl (by rw [hml]; rfl) (Steps.refl _) (a := b10) (argsL := []) (rest := [(.ref b10)]) (lenOf pd3 rfl) rfl (by show 2 * 0 + _ ≤ _; exact Nat.le_of_eq rfl) (hb hby at_55) (fun _ _ => ⟨rfl, e10, (by decide : 1 + 3 ≤ _), (by decide : 3 + 66 ≤ _)⟩)
        dsimp only [Pt.U, Pt.locs, Pt.cells, Pt.slots] at X11 l11 y11 z11 st11 hQ11
        subst l11 y11 z11
        obtain ⟨rfl, Nq11, Z11, la11, Gq11⟩ := hQ11
        have N11 := Fr.app N8 Nq11
        have Gn11 : own_N Z T11.heap n0 b10 (0 : Int32) (0 : Int32) (0 : Int32) (0 : Int32) la11 := Gq11
        obtain ⟨-, Eg11, -⟩ := id Gn11
        refine own_go (G := T11.setTop (mkF m 58 #[.val (.int p0), .val (.int p1), .val (.int p2), .val (.int p3), .val (.int v3), .val (.int v6), .val (.int v9), .unset] [(.ref b10)])) (fun _ k => st11.trans k) ?_
        refine own_go (G := T11.setTop (mkF m 60 #[.val (.int p0), .val (.int p1), .val (.int p2), .val (.int p3), .val (.int v3), .val (.int v6), .val (.int v9), .val (.ref b10)] [])) (fun _ k => XS.astore X11.here hx rfl (hb hby at_58) rfl rfl (l' := #[.val (.int p0), .val (.int p1), .val (.int p2), .val (.int p3), .val (.int v3), .val (.int v6), .val (.int v9), .val (.ref b10)]) rfl k) ?_
        by_cases hs0 : v3 < (256 : Int32)
        · skip
          by_cases hs1 : v6 < (256 : Int32)
          · skip
            by_cases hs2 : v9 < (256 : Int32)
            · skip
              refine own_go (G := T11.setTop (mkF m 62 #[.val (.int p0), .val (.int p1), .val (.int p2), .val (.int p3), .val (.int v3), .val (.int v6), .val (.int v9), .val (.ref b10)] [(.ref b10)])) (fun _ k => XS.aload X11.here hx rfl (hb hby at_60) rfl rfl k) ?_
              refine own_go (G := T11.setTop (mkF m 64 #[.val (.int p0), .val (.int p1), .val (.int p2), .val (.int p3), .val (.int v3), .val (.int v6), .val (.int v9), .val (.ref b10)] [(.int v3), (.ref b10)])) (fun _ k => XS.iload X11.here hx rfl (hb hby at_62) rfl k) ?_
              obtain ⟨cq12, kq12, qk12a, qk12b, qk12c⟩ := isOf hZ rfl Eg11
              obtain ⟨_, _, ⟨T12, L12, k12, n12⟩, -, X12, ⟨Lc12, hQ12, l12, y12, z12⟩, st12⟩ := X11.virtualBack hx (y := (⟨"com/example/xrefloom/xrefloom/tree/CompactText", "append", "(C)V"⟩ : MethodName)) (z := (⟨"com/example/xrefloom/xrefloom/tree/CompactText", "append", "(C)V"⟩ : MethodName)) hown (mvT hZ (hw _ (List.mem_of_getElem? (i := 24) rfl))) (mvT hZ (hw _ (List.mem_of_getElem? (i := 25) rfl))) (notFace_of_selects (args := #[]) (mvT hZ (hw _ (List.mem_of_getElem? (i := 27) rfl)))) (mvT hZ (hw _ (List.mem_of_getElem? (i := 27) rfl))) (mvT hZ (hw _ (List.mem_of_getElem? (i := 26) rfl))) (by decide) (backOf (W := 0) (apN0 l Z a0 hw [] b10 v3 la11 T11.heap n0 Z11 Gn11 hs0) hZ (hw _ (List.mem_of_getElem? (i := 28) rfl)) (hw _ (List.mem_of_getElem? (i := 7) rfl)) (by decide) (by decide)) qk12a qk12c (g := (mkF m 64 #[.val (.int p0), .val (.int p1), .val (.int p2), .val (.int p3), .val (.int v3), .val (.int v6), .val (.int v9), .val (.ref b10)] [(.int v3), (.ref b10)])) rfl (by rw [hml]; rfl) (Steps.refl _) (argsL := [(.int v3)]) (rest := []) (lenOf pd4 rfl) rfl (by show 2 * 0 + _ ≤ _; exact Nat.le_of_eq rfl) (hb hby at_64) (fun _ _ => ⟨rfl, rfl, (by decide : 4 + 0 ≤ _), (by decide : 69 + 0 ≤ _)⟩)
              dsimp only [Pt.U, Pt.locs, Pt.cells, Pt.slots] at X12 l12 y12 z12 st12 hQ12
              subst l12 y12 z12
              obtain ⟨rfl, Nq12, Z12, la12, Gq12⟩ := hQ12
              have N12 := Fr.app N11 Nq12
              have Gn12 : own_N Z T12.heap n0 b10 (1 : Int32) (nar .byte (v3.toInt8.toInt32)) (0 : Int32) (0 : Int32) la12 := Gq12
              obtain ⟨-, Eg12, -⟩ := id Gn12
              refine own_go (G := T12.setTop (mkF m 67 #[.val (.int p0), .val (.int p1), .val (.int p2), .val (.int p3), .val (.int v3), .val (.int v6), .val (.int v9), .val (.ref b10)] [])) (fun _ k => st12.trans k) ?_
              refine own_go (G := T12.setTop (mkF m 69 #[.val (.int p0), .val (.int p1), .val (.int p2), .val (.int p3), .val (.int v3), .val (.int v6), .val (.int v9), .val (.ref b10)] [(.ref b10)])) (fun _ k => XS.aload X12.here hx rfl (hb hby at_67) rfl rfl k) ?_
              refine own_go (G := T12.setTop (mkF m 71 #[.val (.int p0), .val (.int p1), .val (.int p2), .val (.int p3), .val (.int v3), .val (.int v6), .val (.int v9), .val (.ref b10)] [(.int v6), (.ref b10)])) (fun _ k => XS.iload X12.here hx rfl (hb hby at_69) rfl k) ?_
              obtain ⟨cq13, kq13, qk13a, qk13b, qk13c⟩ := isOf hZ rfl Eg12
              obtain ⟨_, _, ⟨T13, L13, k13, n13⟩, -, X13, ⟨Lc13, hQ13, l13, y13, z13⟩, st13⟩ := X12.virtualBack hx (y := (⟨"com/example/xrefloom/xrefloom/tree/CompactText", "append", "(C)V"⟩ : MethodName)) (z := (⟨"com/example/xrefloom/xrefloom/tree/CompactText", "append", "(C)V"⟩ : MethodName)) hown (mvT hZ (hw _ (List.mem_of_getElem? (i := 24) rfl))) (mvT hZ (hw _ (List.mem_of_getElem? (i := 25) rfl))) (notFace_of_selects (args := #[]) (mvT hZ (hw _ (List.mem_of_getElem? (i := 27) rfl)))) (mvT hZ (hw _ (List.mem_of_getElem? (i := 27) rfl))) (mvT hZ (hw _ (List.mem_of_getElem? (i := 26) rfl))) (by decide) (backOf (W := 0) (apN1 l Z a0 hw [] b10 v6 (nar .byte (v3.toInt8.toInt32)) la12 T12.heap n0 Z12 Gn12 hs1) hZ (hw _ (List.mem_of_getElem? (i := 28) rfl)) (hw _ (List.mem_of_getElem? (i := 7) rfl)) (by decide) (by decide)) qk13a qk13c (g := (mkF m 71 #[.val (.int p0), .val (.int p1), .val (.int p2), .val (.int p3), .val (.int v3), .val (.int v6), .val (.int v9), .val (.ref b10)] [(.int v6), (.ref b10)])) rfl (by rw [hml]; rfl) (Steps.refl _) (argsL := [(.int v6)]) (rest := []) (lenOf pd4 rfl) rfl (by show 2 * 0 + _ ≤ _; exact Nat.le_of_eq rfl) (hb hby at_71) (fun _ _ => ⟨rfl, rfl, (by decide : 4 + 0 ≤ _), (by decide : 69 + 0 ≤ _)⟩)
              dsimp only [Pt.U, Pt.locs, Pt.cells, Pt.slots] at X13 l13 y13 z13 st13 hQ13
              subst l13 y13 z13
              obtain ⟨rfl, Nq13, Z13, la13, Gq13⟩ := hQ13
              have N13 := Fr.app N12 Nq13
              have Gn13 : own_N Z T13.heap n0 b10 (2 : Int32) (nar .byte (v3.toInt8.toInt32)) (nar .byte (v6.toInt8.toInt32)) (0 : Int32) la13 := Gq13
              obtain ⟨-, Eg13, -⟩ := id Gn13
              refine own_go (G := T13.setTop (mkF m 74 #[.val (.int p0), .val (.int p1), .val (.int p2), .val (.int p3), .val (.int v3), .val (.int v6), .val (.int v9), .val (.ref b10)] [])) (fun _ k => st13.trans k) ?_
              refine own_go (G := T13.setTop (mkF m 76 #[.val (.int p0), .val (.int p1), .val (.int p2), .val (.int p3), .val (.int v3), .val (.int v6), .val (.int v9), .val (.ref b10)] [(.ref b10)])) (fun _ k => XS.aload X13.here hx rfl (hb hby at_74) rfl rfl k) ?_
              refine own_go (G := T13.setTop (mkF m 78 #[.val (.int p0), .val (.int p1), .val (.int p2), .val (.int p3), .val (.int v3), .val (.int v6), .val (.int v9), .val (.ref b10)] [(.int v9), (.ref b10)])) (fun _ k => XS.iload X13.here hx rfl (hb hby at_76) rfl k) ?_
              obtain ⟨cq14, kq14, qk14a, qk14b, qk14c⟩ := isOf hZ rfl Eg13
              obtain ⟨_, _, ⟨T14, L14, k14, n14⟩, -, X14, ⟨Lc14, hQ14, l14, y14, z14⟩, st14⟩ := X13.virtualBack hx (y := (⟨"com/example/xrefloom/xrefloom/tree/CompactText", "append", "(C)V"⟩ : MethodName)) (z := (⟨"com/example/xrefloom/xrefloom/tree/CompactText", "append", "(C)V"⟩ : MethodName)) hown (mvT hZ (hw _ (List.mem_of_getElem? (i := 24) rfl))) (mvT hZ (hw _ (List.mem_of_getElem? (i := 25) rfl))) (notFace_of_selects (args := #[]) (mvT hZ (hw _ (List.mem_of_getElem? (i := 27) rfl)))) (mvT hZ (hw _ (List.mem_of_getElem? (i := 27) rfl))) (mvT hZ (hw _ (List.mem_of_getElem? (i := 26) rfl))) (by decide) (backOf (W := 0) (apN2 l Z a0 hw [] b10 v9 (nar .byte (v3.toInt8.toInt32)) (nar .byte (v6.toInt8.toInt32)) la13 T13.heap n0 Z13 Gn13 hs2) hZ (hw _ (List.mem_of_getElem? (i := 28) rfl)) (hw _ (List.mem_of_getElem? (i := 7) rfl)) (by decide) (by decide)) qk14a qk14c (g := (mkF m 78 #[.val (.int p0), .val (.int p1), .val (.int p2), .val (.int p3), .val (.int v3), .val (.int v6), .val (.int v9), .val (.ref b10)] [(.int v9), (.ref b10)])) rfl (by rw [hml]; rfl) (Steps.refl _) (argsL := [(.int v9)]) (rest := []) (lenOf pd4 rfl) rfl (by show 2 * 0 + _ ≤ _; exact Nat.le_of_eq rfl) (hb hby at_78) (fun _ _ => ⟨rfl, rfl, (by decide : 4 + 0 ≤ _), (by decide : 69 + 0 ≤ _)⟩)
              dsimp only [Pt.U, Pt.locs, Pt.cells, Pt.slots] at X14 l14 y14 z14 st14 hQ14
              subst l14 y14 z14
              obtain ⟨rfl, Nq14, Z14, la14, Gq14⟩ := hQ14
              have N14 := Fr.app N13 Nq14
              have Gn14 : own_N Z T14.heap n0 b10 (3 : Int32) (nar .byte (v3.toInt8.toInt32)) (nar .byte (v6.toInt8.toInt32)) (nar .byte (v9.toInt8.toInt32)) la14 := Gq14
              obtain ⟨-, Eg14, -⟩ := id Gn14
              refine own_go (G := T14.setTop (mkF m 81 #[.val (.int p0), .val (.int p1), .val (.int p2), .val (.int p3), .val (.int v3), .val (.int v6), .val (.int v9), .val (.ref b10)] [])) (fun _ k => st14.trans k) ?_
              refine own_go (G := T14.setTop (mkF m 83 #[.val (.int p0), .val (.int p1), .val (.int p2), .val (.int p3), .val (.int v3), .val (.int v6), .val (.int v9), .val (.ref b10)] [(.ref b10)])) (fun _ k => XS.aload X14.here hx rfl (hb hby at_81) rfl rfl k) ?_
              refine own_go (G := T14.setTop (mkF m 84 #[.val (.int p0), .val (.int p1), .val (.int p2), .val (.int p3), .val (.int v3), .val (.int v6), .val (.int v9), .val (.ref b10)] [(.int (0 : Int32)), (.ref b10)])) (fun _ k => XS.iconst X14.here hx rfl (hb hby at_83) k) ?_
              obtain ⟨cq15, kq15, qk15a, qk15b, qk15c⟩ := isOf hZ rfl Eg14
              obtain ⟨_, _, ⟨T15, L15, k15, n15⟩, -, X15, ⟨Lc15, hQ15, l15, y15, z15⟩, st15⟩ := X14.virtualBack hx (y := (⟨"com/example/xrefloom/xrefloom/tree/CompactText", "charAt", "(I)C"⟩ : MethodName)) (z := (⟨"com/example/xrefloom/xrefloom/tree/CompactText", "charAt", "(I)C"⟩ : MethodName)) hown (mvT hZ (hw _ (List.mem_of_getElem? (i := 36) rfl))) (mvT hZ (hw _ (List.mem_of_getElem? (i := 37) rfl))) (notFace_of_selects (args := #[]) (mvT hZ (hw _ (List.mem_of_getElem? (i := 39) rfl)))) (mvT hZ (hw _ (List.mem_of_getElem? (i := 39) rfl))) (mvT hZ (hw _ (List.mem_of_getElem? (i := 38) rfl))) (by decide) (backOf (W := 0) (caN0 l Z a0 hw [] b10 (3 : Int32) (nar .byte (v3.toInt8.toInt32)) (nar .byte (v6.toInt8.toInt32)) (nar .byte (v9.toInt8.toInt32)) la14 T14.heap n0 Z14 Gn14) hZ (hw _ (List.mem_of_getElem? (i := 40) rfl)) (hw _ (List.mem_of_getElem? (i := 7) rfl)) (by decide) (by decide)) qk15a qk15c (g := (mkF m 84 #[.val (.int p0), .val (.int p1), .val (.int p2), .val (.int p3), .val (.int v3), .val (.int v6), .val (.int v9), .val (.ref b10)] [(.int (0 : Int32)), (.ref b10)])) rfl (by rw [hml]; rfl) (Steps.refl _) (argsL := [(.int (0 : Int32))]) (rest := []) (lenOf pd5 rfl) rfl (by show 2 * 0 + _ ≤ _; exact Nat.le_of_eq rfl) (hb hby at_84) (fun _ _ => ⟨rfl, rfl, (by decide : 4 + 0 ≤ _), (by decide : 69 + 0 ≤ _)⟩)
              dsimp only [Pt.U, Pt.locs, Pt.cells, Pt.slots] at X15 l15 y15 z15 st15 hQ15
              subst l15 y15 z15
              obtain ⟨rfl, Nq15, e15⟩ := hQ15
              have N15 := Fr.app N14 Nq15
              refine own_go (G := T15.setTop (mkF m 87 #[.val (.int p0), .val (.int p1), .val (.int p2), .val (.int p3), .val (.int v3), .val (.int v6), .val (.int v9), .val (.ref b10)] [(.int (nar .char (((nar .byte (v3.toInt8.toInt32)) &&& (255 : Int32)).toUInt32.toUInt16.toUInt32.toInt32)))])) (fun _ k => st15.trans k) ?_
              refine own_go (G := T15.setTop (mkF m 89 #[.val (.int p0), .val (.int p1), .val (.int p2), .val (.int p3), .val (.int v3), .val (.int v6), .val (.int v9), .val (.ref b10)] [(.int v3), (.int (nar .char (((nar .byte (v3.toInt8.toInt32)) &&& (255 : Int32)).toUInt32.toUInt16.toUInt32.toInt32)))])) (fun _ k => XS.iload X15.here hx rfl (hb hby at_87) rfl k) ?_
              refine own_go (G := T15.setTop (mkF m 92 #[.val (.int p0), .val (.int p1), .val (.int p2), .val (.int p3), .val (.int v3), .val (.int v6), .val (.int v9), .val (.ref b10)] [])) (fun _ k => XS.icmpNo X15.here hx rfl (hb hby at_89) rfl (teq (own_fN hv3 hs0 : (nar .char (((nar .byte (v3.toInt8.toInt32)) &&& (255 : Int32)).toUInt32.toUInt16.toUInt32.toInt32)) = v3)).2 k) ?_
              refine own_go (G := T15.setTop (mkF m 94 #[.val (.int p0), .val (.int p1), .val (.int p2), .val (.int p3), .val (.int v3), .val (.int v6), .val (.int v9), .val (.ref b10)] [(.ref b10)])) (fun _ k => XS.aload X15.here hx rfl (hb hby at_92) rfl rfl k) ?_
              refine own_go (G := T15.setTop (mkF m 95 #[.val (.int p0), .val (.int p1), .val (.int p2), .val (.int p3), .val (.int v3), .val (.int v6), .val (.int v9), .val (.ref b10)] [(.int (1 : Int32)), (.ref b10)])) (fun _ k => XS.iconst X15.here hx rfl (hb hby at_94) k) ?_
              obtain ⟨cq16, kq16, qk16a, qk16b, qk16c⟩ := isOf hZ e15 Eg14
              obtain ⟨_, _, ⟨T16, L16, k16, n16⟩, -, X16, ⟨Lc16, hQ16, l16, y16, z16⟩, st16⟩ := X15.virtualBack hx (y := (⟨"com/example/xrefloom/xrefloom/tree/CompactText", "charAt", "(I)C"⟩ : MethodName)) (z := (⟨"com/example/xrefloom/xrefloom/tree/CompactText", "charAt", "(I)C"⟩ : MethodName)) hown (mvT hZ (hw _ (List.mem_of_getElem? (i := 36) rfl))) (mvT hZ (hw _ (List.mem_of_getElem? (i := 37) rfl))) (notFace_of_selects (args := #[]) (mvT hZ (hw _ (List.mem_of_getElem? (i := 39) rfl)))) (mvT hZ (hw _ (List.mem_of_getElem? (i := 39) rfl))) (mvT hZ (hw _ (List.mem_of_getElem? (i := 38) rfl))) (by decide) (backOf (W := 0) (caN1 l Z a0 hw [] b10 (3 : Int32) (nar .byte (v3.toInt8.toInt32)) (nar .byte (v6.toInt8.toInt32)) (nar .byte (v9.toInt8.toInt32)) la14 T14.heap n0 Z14 Gn14) hZ (hw _ (List.mem_of_getElem? (i := 40) rfl)) (hw _ (List.mem_of_getElem? (i := 7) rfl)) (by decide) (by decide)) qk16a qk16c (g := (mkF m 95 #[.val (.int p0), .val (.int p1), .val (.int p2), .val (.int p3), .val (.int v3), .val (.int v6), .val (.int v9), .val (.ref b10)] [(.int (1 : Int32)), (.ref b10)])) rfl (by rw [hml]; rfl) (Steps.refl _) (argsL := [(.int (1 : Int32))]) (rest := []) (lenOf pd5 rfl) rfl (by show 2 * 0 + _ ≤ _; exact Nat.le_of_eq rfl) (hb hby at_95) (fun _ _ => ⟨rfl, e15, (by decide : 4 + 0 ≤ _), (by decide : 69 + 0 ≤ _)⟩)
              dsimp only [Pt.U, Pt.locs, Pt.cells, Pt.slots] at X16 l16 y16 z16 st16 hQ16
              subst l16 y16 z16
              obtain ⟨rfl, Nq16, e16⟩ := hQ16
              have N16 := Fr.app N15 Nq16
              refine own_go (G := T16.setTop (mkF m 98 #[.val (.int p0), .val (.int p1), .val (.int p2), .val (.int p3), .val (.int v3), .val (.int v6), .val (.int v9), .val (.ref b10)] [(.int (nar .char (((nar .byte (v6.toInt8.toInt32)) &&& (255 : Int32)).toUInt32.toUInt16.toUInt32.toInt32)))])) (fun _ k => st16.trans k) ?_
              refine own_go (G := T16.setTop (mkF m 100 #[.val (.int p0), .val (.int p1), .val (.int p2), .val (.int p3), .val (.int v3), .val (.int v6), .val (.int v9), .val (.ref b10)] [(.int v6), (.int (nar .char (((nar .byte (v6.toInt8.toInt32)) &&& (255 : Int32)).toUInt32.toUInt16.toUInt32.toInt32)))])) (fun _ k => XS.iload X16.here hx rfl (hb hby at_98) rfl k) ?_
              refine own_go (G := T16.setTop (mkF m 103 #[.val (.int p0), .val (.int p1), .val (.int p2), .val (.int p3), .val (.int v3), .val (.int v6), .val (.int v9), .val (.ref b10)] [])) (fun _ k => XS.icmpNo X16.here hx rfl (hb hby at_100) rfl (teq (own_fN hv6 hs1 : (nar .char (((nar .byte (v6.toInt8.toInt32)) &&& (255 : Int32)).toUInt32.toUInt16.toUInt32.toInt32)) = v6)).2 k) ?_
              refine own_go (G := T16.setTop (mkF m 105 #[.val (.int p0), .val (.int p1), .val (.int p2), .val (.int p3), .val (.int v3), .val (.int v6), .val (.int v9), .val (.ref b10)] [(.ref b10)])) (fun _ k => XS.aload X16.here hx rfl (hb hby at_103) rfl rfl k) ?_
              refine own_go (G := T16.setTop (mkF m 106 #[.val (.int p0), .val (.int p1), .val (.int p2), .val (.int p3), .val (.int v3), .val (.int v6), .val (.int v9), .val (.ref b10)] [(.int (2 : Int32)), (.ref b10)])) (fun _ k => XS.iconst X16.here hx rfl (hb hby at_105) k) ?_
              obtain ⟨cq17, kq17, qk17a, qk17b, qk17c⟩ := isOf hZ e16 Eg14
              obtain ⟨_, _, ⟨T17, L17, k17, n17⟩, -, X17, ⟨Lc17, hQ17, l17, y17, z17⟩, st17⟩ := X16.virtualBack hx (y := (⟨"com/example/xrefloom/xrefloom/tree/CompactText", "charAt", "(I)C"⟩ : MethodName)) (z := (⟨"com/example/xrefloom/xrefloom/tree/CompactText", "charAt", "(I)C"⟩ : MethodName)) hown (mvT hZ (hw _ (List.mem_of_getElem? (i := 36) rfl))) (mvT hZ (hw _ (List.mem_of_getElem? (i := 37) rfl))) (notFace_of_selects (args := #[]) (mvT hZ (hw _ (List.mem_of_getElem? (i := 39) rfl)))) (mvT hZ (hw _ (List.mem_of_getElem? (i := 39) rfl))) (mvT hZ (hw _ (List.mem_of_getElem? (i := 38) rfl))) (by decide) (backOf (W := 0) (caN2 l Z a0 hw [] b10 (3 : Int32) (nar .byte (v3.toInt8.toInt32)) (nar .byte (v6.toInt8.toInt32)) (nar .byte (v9.toInt8.toInt32)) la14 T14.heap n0 Z14 Gn14) hZ (hw _ (List.mem_of_getElem? (i := 40) rfl)) (hw _ (List.mem_of_getElem? (i := 7) rfl)) (by decide) (by decide)) qk17a qk17c (g := (mkF m 106 #[.val (.int p0), .val (.int p1), .val (.int p2), .val (.int p3), .val (.int v3), .val (.int v6), .val (.int v9), .val (.ref b10)] [(.int (2 : Int32)), (.ref b10)])) rfl (by rw [hml]; rfl) (Steps.refl _) (argsL := [(.int (2 : Int32))]) (rest := []) (lenOf pd5 rfl) rfl (by show 2 * 0 + _ ≤ _; exact Nat.le_of_eq rfl) (hb hby at_106) (fun _ _ => ⟨rfl, e16, (by decide : 4 + 0 ≤ _), (by decide : 69 + 0 ≤ _)⟩)
              dsimp only [Pt.U, Pt.locs, Pt.cells, Pt.slots] at X17 l17 y17 z17 st17 hQ17
              subst l17 y17 z17
              obtain ⟨rfl, Nq17, e17⟩ := hQ17
              have N17 := Fr.app N16 Nq17
              refine own_go (G := T17.setTop (mkF m 109 #[.val (.int p0), .val (.int p1), .val (.int p2), .val (.int p3), .val (.int v3), .val (.int v6), .val (.int v9), .val (.ref b10)] [(.int (nar .char (((nar .byte (v9.toInt8.toInt32)) &&& (255 : Int32)).toUInt32.toUInt16.toUInt32.toInt32)))])) (fun _ k => st17.trans k) ?_
              refine own_go (G := T17.setTop (mkF m 111 #[.val (.int p0), .val (.int p1), .val (.int p2), .val (.int p3), .val (.int v3), .val (.int v6), .val (.int v9), .val (.ref b10)] [(.int v9), (.int (nar .char (((nar .byte (v9.toInt8.toInt32)) &&& (255 : Int32)).toUInt32.toUInt16.toUInt32.toInt32)))])) (fun _ k => XS.iload X17.here hx rfl (hb hby at_109) rfl k) ?_
              refine own_go (G := T17.setTop (mkF m 114 #[.val (.int p0), .val (.int p1), .val (.int p2), .val (.int p3), .val (.int v3), .val (.int v6), .val (.int v9), .val (.ref b10)] [])) (fun _ k => XS.icmpNo X17.here hx rfl (hb hby at_111) rfl (teq (own_fN hv9 hs2 : (nar .char (((nar .byte (v9.toInt8.toInt32)) &&& (255 : Int32)).toUInt32.toUInt16.toUInt32.toInt32)) = v9)).2 k) ?_
              refine own_go (G := T17.setTop (mkF m 115 #[.val (.int p0), .val (.int p1), .val (.int p2), .val (.int p3), .val (.int v3), .val (.int v6), .val (.int v9), .val (.ref b10)] [(.int (1 : Int32))])) (fun _ k => XS.iconst X17.here hx rfl (hb hby at_114) k) ?_
              refine own_go (G := T17.setTop (mkF m 119 #[.val (.int p0), .val (.int p1), .val (.int p2), .val (.int p3), .val (.int v3), .val (.int v6), .val (.int v9), .val (.ref b10)] [(.int (1 : Int32))])) (fun _ k => XS.goto X17.here hx rfl (pc0 := 115) (pc' := 119) rfl (hb hby at_115) (by decide) (by decide) k) ?_
              exact own_ret1 X17 hx Bd.returns (hb hby at_119) Bd.notSynchronized (by decide) (by decide) ⟨rfl, N17⟩
            · skip
              refine own_go (G := T11.setTop (mkF m 62 #[.val (.int p0), .val (.int p1), .val (.int p2), .val (.int p3), .val (.int v3), .val (.int v6), .val (.int v9), .val (.ref b10)] [(.ref b10)])) (fun _ k => XS.aload X11.here hx rfl (hb hby at_60) rfl rfl k) ?_
              refine own_go (G := T11.setTop (mkF m 64 #[.val (.int p0), .val (.int p1), .val (.int p2), .val (.int p3), .val (.int v3), .val (.int v6), .val (.int v9), .val (.ref b10)] [(.int v3), (.ref b10)])) (fun _ k => XS.iload X11.here hx rfl (hb hby at_62) rfl k) ?_
              obtain ⟨cq18, kq18, qk18a, qk18b, qk18c⟩ := isOf hZ rfl Eg11
              obtain ⟨_, _, ⟨T18, L18, k18, n18⟩, -, X18, ⟨Lc18, hQ18, l18, y18, z18⟩, st18⟩ := X11.virtualBack hx (y := (⟨"com/example/xrefloom/xrefloom/tree/CompactText", "append", "(C)V"⟩ : MethodName)) (z := (⟨"com/example/xrefloom/xrefloom/tree/CompactText", "append", "(C)V"⟩ : MethodName)) hown (mvT hZ (hw _ (List.mem_of_getElem? (i := 24) rfl))) (mvT hZ (hw _ (List.mem_of_getElem? (i := 25) rfl))) (notFace_of_selects (args := #[]) (mvT hZ (hw _ (List.mem_of_getElem? (i := 27) rfl)))) (mvT hZ (hw _ (List.mem_of_getElem? (i := 27) rfl))) (mvT hZ (hw _ (List.mem_of_getElem? (i := 26) rfl))) (by decide) (backOf (W := 0) (apN0 l Z a0 hw [] b10 v3 la11 T11.heap n0 Z11 Gn11 hs0) hZ (hw _ (List.mem_of_getElem? (i := 28) rfl)) (hw _ (List.mem_of_getElem? (i := 7) rfl)) (by decide) (by decide)) qk18a qk18c (g := (mkF m 64 #[.val (.int p0), .val (.int p1), .val (.int p2), .val (.int p3), .val (.int v3), .val (.int v6), .val (.int v9), .val (.ref b10)] [(.int v3), (.ref b10)])) rfl (by rw [hml]; rfl) (Steps.refl _) (argsL := [(.int v3)]) (rest := []) (lenOf pd4 rfl) rfl (by show 2 * 0 + _ ≤ _; exact Nat.le_of_eq rfl) (hb hby at_64) (fun _ _ => ⟨rfl, rfl, (by decide : 4 + 0 ≤ _), (by decide : 69 + 0 ≤ _)⟩)
              dsimp only [Pt.U, Pt.locs, Pt.cells, Pt.slots] at X18 l18 y18 z18 st18 hQ18
              subst l18 y18 z18
              obtain ⟨rfl, Nq18, Z18, la18, Gq18⟩ := hQ18
              have N18 := Fr.app N11 Nq18
              have Gn18 : own_N Z T18.heap n0 b10 (1 : Int32) (nar .byte (v3.toInt8.toInt32)) (0 : Int32) (0 : Int32) la18 := Gq18
              obtain ⟨-, Eg18, -⟩ := id Gn18
              refine own_go (G := T18.setTop (mkF m 67 #[.val (.int p0), .val (.int p1), .val (.int p2), .val (.int p3), .val (.int v3), .val (.int v6), .val (.int v9), .val (.ref b10)] [])) (fun _ k => st18.trans k) ?_
              refine own_go (G := T18.setTop (mkF m 69 #[.val (.int p0), .val (.int p1), .val (.int p2), .val (.int p3), .val (.int v3), .val (.int v6), .val (.int v9), .val (.ref b10)] [(.ref b10)])) (fun _ k => XS.aload X18.here hx rfl (hb hby at_67) rfl rfl k) ?_
              refine own_go (G := T18.setTop (mkF m 71 #[.val (.int p0), .val (.int p1), .val (.int p2), .val (.int p3), .val (.int v3), .val (.int v6), .val (.int v9), .val (.ref b10)] [(.int v6), (.ref b10)])) (fun _ k => XS.iload X18.here hx rfl (hb hby at_69) rfl k) ?_
              obtain ⟨cq19, kq19, qk19a, qk19b, qk19c⟩ := isOf hZ rfl Eg18
              obtain ⟨_, _, ⟨T19, L19, k19, n19⟩, -, X19, ⟨Lc19, hQ19, l19, y19, z19⟩, st19⟩ := X18.virtualBack hx (y := (⟨"com/example/xrefloom/xrefloom/tree/CompactText", "append", "(C)V"⟩ : MethodName)) (z := (⟨"com/example/xrefloom/xrefloom/tree/CompactText", "append", "(C)V"⟩ : MethodName)) hown (mvT hZ (hw _ (List.mem_of_getElem? (i := 24) rfl))) (mvT hZ (hw _ (List.mem_of_getElem? (i := 25) rfl))) (notFace_of_selects (args := #[]) (mvT hZ (hw _ (List.mem_of_getElem? (i := 27) rfl)))) (mvT hZ (hw _ (List.mem_of_getElem? (i := 27) rfl))) (mvT hZ (hw _ (List.mem_of_getElem? (i := 26) rfl))) (by decide) (backOf (W := 0) (apN1 l Z a0 hw [] b10 v6 (nar .byte (v3.toInt8.toInt32)) la18 T18.heap n0 Z18 Gn18 hs1) hZ (hw _ (List.mem_of_getElem? (i := 28) rfl)) (hw _ (List.mem_of_getElem? (i := 7) rfl)) (by decide) (by decide)) qk19a qk19c (g := (mkF m 71 #[.val (.int p0), .val (.int p1), .val (.int p2), .val (.int p3), .val (.int v3), .val (.int v6), .val (.int v9), .val (.ref b10)] [(.int v6), (.ref b10)])) rfl (by rw [hml]; rfl) (Steps.refl _) (argsL := [(.int v6)]) (rest := []) (lenOf pd4 rfl) rfl (by show 2 * 0 + _ ≤ _; exact Nat.le_of_eq rfl) (hb hby at_71) (fun _ _ => ⟨rfl, rfl, (by decide : 4 + 0 ≤ _), (by decide : 69 + 0 ≤ _)⟩)
              dsimp only [Pt.U, Pt.locs, Pt.cells, Pt.slots] at X19 l19 y19 z19 st19 hQ19
              subst l19 y19 z19
              obtain ⟨rfl, Nq19, Z19, la19, Gq19⟩ := hQ19
              have N19 := Fr.app N18 Nq19
              have Gn19 : own_N Z T19.heap n0 b10 (2 : Int32) (nar .byte (v3.toInt8.toInt32)) (nar .byte (v6.toInt8.toInt32)) (0 : Int32) la19 := Gq19
              obtain ⟨-, Eg19, -⟩ := id Gn19
              refine own_go (G := T19.setTop (mkF m 74 #[.val (.int p0), .val (.int p1), .val (.int p2), .val (.int p3), .val (.int v3), .val (.int v6), .val (.int v9), .val (.ref b10)] [])) (fun _ k => st19.trans k) ?_
              refine own_go (G := T19.setTop (mkF m 76 #[.val (.int p0), .val (.int p1), .val (.int p2), .val (.int p3), .val (.int v3), .val (.int v6), .val (.int v9), .val (.ref b10)] [(.ref b10)])) (fun _ k => XS.aload X19.here hx rfl (hb hby at_74) rfl rfl k) ?_
              refine own_go (G := T19.setTop (mkF m 78 #[.val (.int p0), .val (.int p1), .val (.int p2), .val (.int p3), .val (.int v3), .val (.int v6), .val (.int v9), .val (.ref b10)] [(.int v9), (.ref b10)])) (fun _ k => XS.iload X19.here hx rfl (hb hby at_76) rfl k) ?_
              obtain ⟨cq20, kq20, qk20a, qk20b, qk20c⟩ := isOf hZ rfl Eg19
              obtain ⟨_, _, ⟨T20, L20, k20, n20⟩, -, X20, ⟨Lc20, hQ20, l20, y20, z20⟩, st20⟩ := X19.virtualBack hx (y := (⟨"com/example/xrefloom/xrefloom/tree/CompactText", "append", "(C)V"⟩ : MethodName)) (z := (⟨"com/example/xrefloom/xrefloom/tree/CompactText", "append", "(C)V"⟩ : MethodName)) hown (mvT hZ (hw _ (List.mem_of_getElem? (i := 24) rfl))) (mvT hZ (hw _ (List.mem_of_getElem? (i := 25) rfl))) (notFace_of_selects (args := #[]) (mvT hZ (hw _ (List.mem_of_getElem? (i := 27) rfl)))) (mvT hZ (hw _ (List.mem_of_getElem? (i := 27) rfl))) (mvT hZ (hw _ (List.mem_of_getElem? (i := 26) rfl))) (by decide) (backOf (W := 0) (apX2 l Z a0 hw [] b10 v9 (nar .byte (v3.toInt8.toInt32)) (nar .byte (v6.toInt8.toInt32)) la19 T19.heap n0 Z19 Gn19 hs2) hZ (hw _ (List.mem_of_getElem? (i := 28) rfl)) (hw _ (List.mem_of_getElem? (i := 7) rfl)) (by decide) (by decide)) qk20a qk20c (g := (mkF m 78 #[.val (.int p0), .val (.int p1), .val (.int p2), .val (.int p3), .val (.int v3), .val (.int v6), .val (.int v9), .val (.ref b10)] [(.int v9), (.ref b10)])) rfl (by rw [hml]; rfl) (Steps.refl _) (argsL := [(.int v9)]) (rest := []) (lenOf pd4 rfl) rfl (by show 2 * 0 + _ ≤ _; exact Nat.le_of_eq rfl) (hb hby at_78) (fun _ _ => ⟨rfl, rfl, (by decide : 4 + 1 ≤ _), (by decide : 69 + 64 ≤ _)⟩)
              dsimp only [Pt.U, Pt.locs, Pt.cells, Pt.slots] at X20 l20 y20 z20 st20 hQ20
              subst l20 y20 z20
              obtain ⟨rfl, Nq20, Z20, la20, Gq20⟩ := hQ20
              have N20 := Fr.app N19 Nq20
              have Gn20 : own_W Z T20.heap n0 b10 (3 : Int32) (nar .char (((nar .byte (v3.toInt8.toInt32)) &&& (255 : Int32)).toUInt32.toUInt16.toUInt32.toInt32)) (nar .char (((nar .byte (v6.toInt8.toInt32)) &&& (255 : Int32)).toUInt32.toUInt16.toUInt32.toInt32)) (nar .char v9) la20 := Gq20
              obtain ⟨-, Eg20, -⟩ := id Gn20
              refine own_go (G := T20.setTop (mkF m 81 #[.val (.int p0), .val (.int p1), .val (.int p2), .val (.int p3), .val (.int v3), .val (.int v6), .val (.int v9), .val (.ref b10)] [])) (fun _ k => st20.trans k) ?_
              refine own_go (G := T20.setTop (mkF m 83 #[.val (.int p0), .val (.int p1), .val (.int p2), .val (.int p3), .val (.int v3), .val (.int v6), .val (.int v9), .val (.ref b10)] [(.ref b10)])) (fun _ k => XS.aload X20.here hx rfl (hb hby at_81) rfl rfl k) ?_
              refine own_go (G := T20.setTop (mkF m 84 #[.val (.int p0), .val (.int p1), .val (.int p2), .val (.int p3), .val (.int v3), .val (.int v6), .val (.int v9), .val (.ref b10)] [(.int (0 : Int32)), (.ref b10)])) (fun _ k => XS.iconst X20.here hx rfl (hb hby at_83) k) ?_
              obtain ⟨cq21, kq21, qk21a, qk21b, qk21c⟩ := isOf hZ rfl Eg20
              obtain ⟨_, _, ⟨T21, L21, k21, n21⟩, -, X21, ⟨Lc21, hQ21, l21, y21, z21⟩, st21⟩ := X20.virtualBack hx (y := (⟨"com/example/xrefloom/xrefloom/tree/CompactText", "charAt", "(I)C"⟩ : MethodName)) (z := (⟨"com/example/xrefloom/xrefloom/tree/CompactText", "charAt", "(I)C"⟩ : MethodName)) hown (mvT hZ (hw _ (List.mem_of_getElem? (i := 36) rfl))) (mvT hZ (hw _ (List.mem_of_getElem? (i := 37) rfl))) (notFace_of_selects (args := #[]) (mvT hZ (hw _ (List.mem_of_getElem? (i := 39) rfl)))) (mvT hZ (hw _ (List.mem_of_getElem? (i := 39) rfl))) (mvT hZ (hw _ (List.mem_of_getElem? (i := 38) rfl))) (by decide) (backOf (W := 0) (caW0 l Z a0 hw [] b10 (3 : Int32) (nar .char (((nar .byte (v3.toInt8.toInt32)) &&& (255 : Int32)).toUInt32.toUInt16.toUInt32.toInt32)) (nar .char (((nar .byte (v6.toInt8.toInt32)) &&& (255 : Int32)).toUInt32.toUInt16.toUInt32.toInt32)) (nar .char v9) la20 T20.heap n0 Z20 Gn20) hZ (hw _ (List.mem_of_getElem? (i := 40) rfl)) (hw _ (List.mem_of_getElem? (i := 7) rfl)) (by decide) (by decide)) qk21a qk21c (g := (mkF m 84 #[.val (.int p0), .val (.int p1), .val (.int p2), .val (.int p3), .val (.int v3), .val (.int v6), .val (.int v9), .val (.ref b10)] [(.int (0 : Int32)), (.ref b10)])) rfl (by rw [hml]; rfl) (Steps.refl _) (argsL := [(.int (0 : Int32))]) (rest := []) (lenOf pd5 rfl) rfl (by show 2 * 0 + _ ≤ _; exact Nat.le_of_eq rfl) (hb hby at_84) (fun _ _ => ⟨rfl, rfl, (by decide : 5 + 0 ≤ _), (by decide : 133 + 0 ≤ _)⟩)
              dsimp only [Pt.U, Pt.locs, Pt.cells, Pt.slots] at X21 l21 y21 z21 st21 hQ21
              subst l21 y21 z21
              obtain ⟨rfl, Nq21, e21⟩ := hQ21
              have N21 := Fr.app N20 Nq21
              refine own_go (G := T21.setTop (mkF m 87 #[.val (.int p0), .val (.int p1), .val (.int p2), .val (.int p3), .val (.int v3), .val (.int v6), .val (.int v9), .val (.ref b10)] [(.int (nar .char (nar .char (((nar .byte (v3.toInt8.toInt32)) &&& (255 : Int32)).toUInt32.toUInt16.toUInt32.toInt32))))])) (fun _ k => st21.trans k) ?_
              refine own_go (G := T21.setTop (mkF m 89 #[.val (.int p0), .val (.int p1), .val (.int p2), .val (.int p3), .val (.int v3), .val (.int v6), .val (.int v9), .val (.ref b10)] [(.int v3), (.int (nar .char (nar .char (((nar .byte (v3.toInt8.toInt32)) &&& (255 : Int32)).toUInt32.toUInt16.toUInt32.toInt32))))])) (fun _ k => XS.iload X21.here hx rfl (hb hby at_87) rfl k) ?_
              refine own_go (G := T21.setTop (mkF m 92 #[.val (.int p0), .val (.int p1), .val (.int p2), .val (.int p3), .val (.int v3), .val (.int v6), .val (.int v9), .val (.ref b10)] [])) (fun _ k => XS.icmpNo X21.here hx rfl (hb hby at_89) rfl (teq (own_fG hv3 hs0 : (nar .char (nar .char (((nar .byte (v3.toInt8.toInt32)) &&& (255 : Int32)).toUInt32.toUInt16.toUInt32.toInt32))) = v3)).2 k) ?_
              refine own_go (G := T21.setTop (mkF m 94 #[.val (.int p0), .val (.int p1), .val (.int p2), .val (.int p3), .val (.int v3), .val (.int v6), .val (.int v9), .val (.ref b10)] [(.ref b10)])) (fun _ k => XS.aload X21.here hx rfl (hb hby at_92) rfl rfl k) ?_
              refine own_go (G := T21.setTop (mkF m 95 #[.val (.int p0), .val (.int p1), .val (.int p2), .val (.int p3), .val (.int v3), .val (.int v6), .val (.int v9), .val (.ref b10)] [(.int (1 : Int32)), (.ref b10)])) (fun _ k => XS.iconst X21.here hx rfl (hb hby at_94) k) ?_
              obtain ⟨cq22, kq22, qk22a, qk22b, qk22c⟩ := isOf hZ e21 Eg20
              obtain ⟨_, _, ⟨T22, L22, k22, n22⟩, -, X22, ⟨Lc22, hQ22, l22, y22, z22⟩, st22⟩ := X21.virtualBack hx (y := (⟨"com/example/xrefloom/xrefloom/tree/CompactText", "charAt", "(I)C"⟩ : MethodName)) (z := (⟨"com/example/xrefloom/xrefloom/tree/CompactText", "charAt", "(I)C"⟩ : MethodName)) hown (mvT hZ (hw _ (List.mem_of_getElem? (i := 36) rfl))) (mvT hZ (hw _ (List.mem_of_getElem? (i := 37) rfl))) (notFace_of_selects (args := #[]) (mvT hZ (hw _ (List.mem_of_getElem? (i := 39) rfl)))) (mvT hZ (hw _ (List.mem_of_getElem? (i := 39) rfl))) (mvT hZ (hw _ (List.mem_of_getElem? (i := 38) rfl))) (by decide) (backOf (W := 0) (caW1 l Z a0 hw [] b10 (3 : Int32) (nar .char (((nar .byte (v3.toInt8.toInt32)) &&& (255 : Int32)).toUInt32.toUInt16.toUInt32.toInt32)) (nar .char (((nar .byte (v6.toInt8.toInt32)) &&& (255 : Int32)).toUInt32.toUInt16.toUInt32.toInt32)) (nar .char v9) la20 T20.heap n0 Z20 Gn20) hZ (hw _ (List.mem_of_getElem? (i := 40) rfl)) (hw _ (List.mem_of_getElem? (i := 7) rfl)) (by decide) (by decide)) qk22a qk22c (g := (mkF m 95 #[.val (.int p0), .val (.int p1), .val (.int p2), .val (.int p3), .val (.int v3), .val (.int v6), .val (.int v9), .val (.ref b10)] [(.int (1 : Int32)), (.ref b10)])) rfl (by rw [hml]; rfl) (Steps.refl _) (argsL := [(.int (1 : Int32))]) (rest := []) (lenOf pd5 rfl) rfl (by show 2 * 0 + _ ≤ _; exact Nat.le_of_eq rfl) (hb hby at_95) (fun _ _ => ⟨rfl, e21, (by decide : 5 + 0 ≤ _), (by decide : 133 + 0 ≤ _)⟩)
              dsimp only [Pt.U, Pt.locs, Pt.cells, Pt.slots] at X22 l22 y22 z22 st22 hQ22
              subst l22 y22 z22
              obtain ⟨rfl, Nq22, e22⟩ := hQ22
              have N22 := Fr.app N21 Nq22
              refine own_go (G := T22.setTop (mkF m 98 #[.val (.int p0), .val (.int p1), .val (.int p2), .val (.int p3), .val (.int v3), .val (.int v6), .val (.int v9), .val (.ref b10)] [(.int (nar .char (nar .char (((nar .byte (v6.toInt8.toInt32)) &&& (255 : Int32)).toUInt32.toUInt16.toUInt32.toInt32))))])) (fun _ k => st22.trans k) ?_
              refine own_go (G := T22.setTop (mkF m 100 #[.val (.int p0), .val (.int p1), .val (.int p2), .val (.int p3), .val (.int v3), .val (.int v6), .val (.int v9), .val (.ref b10)] [(.int v6), (.int (nar .char (nar .char (((nar .byte (v6.toInt8.toInt32)) &&& (255 : Int32)).toUInt32.toUInt16.toUInt32.toInt32))))])) (fun _ k => XS.iload X22.here hx rfl (hb hby at_98) rfl k) ?_
              refine own_go (G := T22.setTop (mkF m 103 #[.val (.int p0), .val (.int p1), .val (.int p2), .val (.int p3), .val (.int v3), .val (.int v6), .val (.int v9), .val (.ref b10)] [])) (fun _ k => XS.icmpNo X22.here hx rfl (hb hby at_100) rfl (teq (own_fG hv6 hs1 : (nar .char (nar .char (((nar .byte (v6.toInt8.toInt32)) &&& (255 : Int32)).toUInt32.toUInt16.toUInt32.toInt32))) = v6)).2 k) ?_
              refine own_go (G := T22.setTop (mkF m 105 #[.val (.int p0), .val (.int p1), .val (.int p2), .val (.int p3), .val (.int v3), .val (.int v6), .val (.int v9), .val (.ref b10)] [(.ref b10)])) (fun _ k => XS.aload X22.here hx rfl (hb hby at_103) rfl rfl k) ?_
              refine own_go (G := T22.setTop (mkF m 106 #[.val (.int p0), .val (.int p1), .val (.int p2), .val (.int p3), .val (.int v3), .val (.int v6), .val (.int v9), .val (.ref b10)] [(.int (2 : Int32)), (.ref b10)])) (fun _ k => XS.iconst X22.here hx rfl (hb hby at_105) k) ?_
              obtain ⟨cq23, kq23, qk23a, qk23b, qk23c⟩ := isOf hZ e22 Eg20
              obtain ⟨_, _, ⟨T23, L23, k23, n23⟩, -, X23, ⟨Lc23, hQ23, l23, y23, z23⟩, st23⟩ := X22.virtualBack hx (y := (⟨"com/example/xrefloom/xrefloom/tree/CompactText", "charAt", "(I)C"⟩ : MethodName)) (z := (⟨"com/example/xrefloom/xrefloom/tree/CompactText", "charAt", "(I)C"⟩ : MethodName)) hown (mvT hZ (hw _ (List.mem_of_getElem? (i := 36) rfl))) (mvT hZ (hw _ (List.mem_of_getElem? (i := 37) rfl))) (notFace_of_selects (args := #[]) (mvT hZ (hw _ (List.mem_of_getElem? (i := 39) rfl)))) (mvT hZ (hw _ (List.mem_of_getElem? (i := 39) rfl))) (mvT hZ (hw _ (List.mem_of_getElem? (i := 38) rfl))) (by decide) (backOf (W := 0) (caW2 l Z a0 hw [] b10 (3 : Int32) (nar .char (((nar .byte (v3.toInt8.toInt32)) &&& (255 : Int32)).toUInt32.toUInt16.toUInt32.toInt32)) (nar .char (((nar .byte (v6.toInt8.toInt32)) &&& (255 : Int32)).toUInt32.toUInt16.toUInt32.toInt32)) (nar .char v9) la20 T20.heap n0 Z20 Gn20) hZ (hw _ (List.mem_of_getElem? (i := 40) rfl)) (hw _ (List.mem_of_getElem? (i := 7) rfl)) (by decide) (by decide)) qk23a qk23c (g := (mkF m 106 #[.val (.int p0), .val (.int p1), .val (.int p2), .val (.int p3), .val (.int v3), .val (.int v6), .val (.int v9), .val (.ref b10)] [(.int (2 : Int32)), (.ref b10)])) rfl (by rw [hml]; rfl) (Steps.refl _) (argsL := [(.int (2 : Int32))]) (rest := []) (lenOf pd5 rfl) rfl (by show 2 * 0 + _ ≤ _; exact Nat.le_of_eq rfl) (hb hby at_106) (fun _ _ => ⟨rfl, e22, (by decide : 5 + 0 ≤ _), (by decide : 133 + 0 ≤ _)⟩)
              dsimp only [Pt.U, Pt.locs, Pt.cells, Pt.slots] at X23 l23 y23 z23 st23 hQ23
              subst l23 y23 z23
              obtain ⟨rfl, Nq23, e23⟩ := hQ23
              have N23 := Fr.app N22 Nq23
              refine own_go (G := T23.setTop (mkF m 109 #[.val (.int p0), .val (.int p1), .val (.int p2), .val (.int p3), .val (.int v3), .val (.int v6), .val (.int v9), .val (.ref b10)] [(.int (nar .char (nar .char v9)))])) (fun _ k => st23.trans k) ?_
              refine own_go (G := T23.setTop (mkF m 111 #[.val (.int p0), .val (.int p1), .val (.int p2), .val (.int p3), .val (.int v3), .val (.int v6), .val (.int v9), .val (.ref b10)] [(.int v9), (.int (nar .char (nar .char v9)))])) (fun _ k => XS.iload X23.here hx rfl (hb hby at_109) rfl k) ?_
              refine own_go (G := T23.setTop (mkF m 114 #[.val (.int p0), .val (.int p1), .val (.int p2), .val (.int p3), .val (.int v3), .val (.int v6), .val (.int v9), .val (.ref b10)] [])) (fun _ k => XS.icmpNo X23.here hx rfl (hb hby at_111) rfl (teq (own_fW hv9 : (nar .char (nar .char v9)) = v9)).2 k) ?_
              refine own_go (G := T23.setTop (mkF m 115 #[.val (.int p0), .val (.int p1), .val (.int p2), .val (.int p3), .val (.int v3), .val (.int v6), .val (.int v9), .val (.ref b10)] [(.int (1 : Int32))])) (fun _ k => XS.iconst X23.here hx rfl (hb hby at_114) k) ?_
              refine own_go (G := T23.setTop (mkF m 119 #[.val (.int p0), .val (.int p1), .val (.int p2), .val (.int p3), .val (.int v3), .val (.int v6), .val (.int v9), .val (.ref b10)] [(.int (1 : Int32))])) (fun _ k => XS.goto X23.here hx rfl (pc0 := 115) (pc' := 119) rfl (hb hby at_115) (by decide) (by decide) k) ?_
              exact own_ret1 X23 hx Bd.returns (hb hby at_119) Bd.notSynchronized (by decide) (by decide) ⟨rfl, N23⟩
          · skip
            refine own_go (G := T11.setTop (mkF m 62 #[.val (.int p0), .val (.int p1), .val (.int p2), .val (.int p3), .val (.int v3), .val (.int v6), .val (.int v9), .val (.ref b10)] [(.ref b10)])) (fun _ k => XS.aload X11.here hx rfl (hb hby at_60) rfl rfl k) ?_
            refine own_go (G := T11.setTop (mkF m 64 #[.val (.int p0), .val (.int p1), .val (.int p2), .val (.int p3), .val (.int v3), .val (.int v6), .val (.int v9), .val (.ref b10)] [(.int v3), (.ref b10)])) (fun _ k => XS.iload X11.here hx rfl (hb hby at_62) rfl k) ?_
            obtain ⟨cq24, kq24, qk24a, qk24b, qk24c⟩ := isOf hZ rfl Eg11
            obtain ⟨_, _, ⟨T24, L24, k24, n24⟩, -, X24, ⟨Lc24, hQ24, l24, y24, z24⟩, st24⟩ := X11.virtualBack hx (y := (⟨"com/example/xrefloom/xrefloom/tree/CompactText", "append", "(C)V"⟩ : MethodName)) (z := (⟨"com/example/xrefloom/xrefloom/tree/CompactText", "append", "(C)V"⟩ : MethodName)) hown (mvT hZ (hw _ (List.mem_of_getElem? (i := 24) rfl))) (mvT hZ (hw _ (List.mem_of_getElem? (i := 25) rfl))) (notFace_of_selects (args := #[]) (mvT hZ (hw _ (List.mem_of_getElem? (i := 27) rfl)))) (mvT hZ (hw _ (List.mem_of_getElem? (i := 27) rfl))) (mvT hZ (hw _ (List.mem_of_getElem? (i := 26) rfl))) (by decide) (backOf (W := 0) (apN0 l Z a0 hw [] b10 v3 la11 T11.heap n0 Z11 Gn11 hs0) hZ (hw _ (List.mem_of_getElem? (i := 28) rfl)) (hw _ (List.mem_of_getElem? (i := 7) rfl)) (by decide) (by decide)) qk24a qk24c (g := (mkF m 64 #[.val (.int p0), .val (.int p1), .val (.int p2), .val (.int p3), .val (.int v3), .val (.int v6), .val (.int v9), .val (.ref b10)] [(.int v3), (.ref b10)])) rfl (by rw [hml]; rfl) (Steps.refl _) (argsL := [(.int v3)]) (rest := []) (lenOf pd4 rfl) rfl (by show 2 * 0 + _ ≤ _; exact Nat.le_of_eq rfl) (hb hby at_64) (fun _ _ => ⟨rfl, rfl, (by decide : 4 + 0 ≤ _), (by decide : 69 + 0 ≤ _)⟩)
            dsimp only [Pt.U, Pt.locs, Pt.cells, Pt.slots] at X24 l24 y24 z24 st24 hQ24
            subst l24 y24 z24
            obtain ⟨rfl, Nq24, Z24, la24, Gq24⟩ := hQ24
            have N24 := Fr.app N11 Nq24
            have Gn24 : own_N Z T24.heap n0 b10 (1 : Int32) (nar .byte (v3.toInt8.toInt32)) (0 : Int32) (0 : Int32) la24 := Gq24
            obtain ⟨-, Eg24, -⟩ := id Gn24
            refine own_go (G := T24.setTop (mkF m 67 #[.val (.int p0), .val (.int p1), .val (.int p2), .val (.int p3), .val (.int v3), .val (.int v6), .val (.int v9), .val (.ref b10)] [])) (fun _ k => st24.trans k) ?_
            refine own_go (G := T24.setTop (mkF m 69 #[.val (.int p0), .val (.int p1), .val (.int p2), .val (.int p3), .val (.int v3), .val (.int v6), .val (.int v9), .val (.ref b10)] [(.ref b10)])) (fun _ k => XS.aload X24.here hx rfl (hb hby at_67) rfl rfl k) ?_
            refine own_go (G := T24.setTop (mkF m 71 #[.val (.int p0), .val (.int p1), .val (.int p2), .val (.int p3), .val (.int v3), .val (.int v6), .val (.int v9), .val (.ref b10)] [(.int v6), (.ref b10)])) (fun _ k => XS.iload X24.here hx rfl (hb hby at_69) rfl k) ?_
            obtain ⟨cq25, kq25, qk25a, qk25b, qk25c⟩ := isOf hZ rfl Eg24
            obtain ⟨_, _, ⟨T25, L25, k25, n25⟩, -, X25, ⟨Lc25, hQ25, l25, y25, z25⟩, st25⟩ := X24.virtualBack hx (y := (⟨"com/example/xrefloom/xrefloom/tree/CompactText", "append", "(C)V"⟩ : MethodName)) (z := (⟨"com/example/xrefloom/xrefloom/tree/CompactText", "append", "(C)V"⟩ : MethodName)) hown (mvT hZ (hw _ (List.mem_of_getElem? (i := 24) rfl))) (mvT hZ (hw _ (List.mem_of_getElem? (i := 25) rfl))) (notFace_of_selects (args := #[]) (mvT hZ (hw _ (List.mem_of_getElem? (i := 27) rfl)))) (mvT hZ (hw _ (List.mem_of_getElem? (i := 27) rfl))) (mvT hZ (hw _ (List.mem_of_getElem? (i := 26) rfl))) (by decide) (backOf (W := 0) (apX1 l Z a0 hw [] b10 v6 (nar .byte (v3.toInt8.toInt32)) la24 T24.heap n0 Z24 Gn24 hs1) hZ (hw _ (List.mem_of_getElem? (i := 28) rfl)) (hw _ (List.mem_of_getElem? (i := 7) rfl)) (by decide) (by decide)) qk25a qk25c (g := (mkF m 71 #[.val (.int p0), .val (.int p1), .val (.int p2), .val (.int p3), .val (.int v3), .val (.int v6), .val (.int v9), .val (.ref b10)] [(.int v6), (.ref b10)])) rfl (by rw [hml]; rfl) (Steps.refl _) (argsL := [(.int v6)]) (rest := []) (lenOf pd4 rfl) rfl (by show 2 * 0 + _ ≤ _; exact Nat.le_of_eq rfl) (hb hby at_71) (fun _ _ => ⟨rfl, rfl, (by decide : 4 + 1 ≤ _), (by decide : 69 + 64 ≤ _)⟩)
            dsimp only [Pt.U, Pt.locs, Pt.cells, Pt.slots] at X25 l25 y25 z25 st25 hQ25
            subst l25 y25 z25
            obtain ⟨rfl, Nq25, Z25, la25, Gq25⟩ := hQ25
            have N25 := Fr.app N24 Nq25
            have Gn25 : own_W Z T25.heap n0 b10 (2 : Int32) (nar .char (((nar .byte (v3.toInt8.toInt32)) &&& (255 : Int32)).toUInt32.toUInt16.toUInt32.toInt32)) (nar .char v6) (nar .char (((0 : Int32) &&& (255 : Int32)).toUInt32.toUInt16.toUInt32.toInt32)) la25 := Gq25
            obtain ⟨-, Eg25, -⟩ := id Gn25
            refine own_go (G := T25.setTop (mkF m 74 #[.val (.int p0), .val (.int p1), .val (.int p2), .val (.int p3), .val (.int v3), .val (.int v6), .val (.int v9), .val (.ref b10)] [])) (fun _ k => st25.trans k) ?_
            refine own_go (G := T25.setTop (mkF m 76 #[.val (.int p0), .val (.int p1), .val (.int p2), .val (.int p3), .val (.int v3), .val (.int v6), .val (.int v9), .val (.ref b10)] [(.ref b10)])) (fun _ k => XS.aload X25.here hx rfl (hb hby at_74) rfl rfl k) ?_
            refine own_go (G := T25.setTop (mkF m 78 #[.val (.int p0), .val (.int p1), .val (.int p2), .val (.int p3), .val (.int v3), .val (.int v6), .val (.int v9), .val (.ref b10)] [(.int v9), (.ref b10)])) (fun _ k => XS.iload X25.here hx rfl (hb hby at_76) rfl k) ?_
            obtain ⟨cq26, kq26, qk26a, qk26b, qk26c⟩ := isOf hZ rfl Eg25
            obtain ⟨_, _, ⟨T26, L26, k26, n26⟩, -, X26, ⟨Lc26, hQ26, l26, y26, z26⟩, st26⟩ := X25.virtualBack hx (y := (⟨"com/example/xrefloom/xrefloom/tree/CompactText", "append", "(C)V"⟩ : MethodName)) (z := (⟨"com/example/xrefloom/xrefloom/tree/CompactText", "append", "(C)V"⟩ : MethodName)) hown (mvT hZ (hw _ (List.mem_of_getElem? (i := 24) rfl))) (mvT hZ (hw _ (List.mem_of_getElem? (i := 25) rfl))) (notFace_of_selects (args := #[]) (mvT hZ (hw _ (List.mem_of_getElem? (i := 27) rfl)))) (mvT hZ (hw _ (List.mem_of_getElem? (i := 27) rfl))) (mvT hZ (hw _ (List.mem_of_getElem? (i := 26) rfl))) (by decide) (backOf (W := 0) (apW2 l Z a0 hw [] b10 v9 (nar .char (((nar .byte (v3.toInt8.toInt32)) &&& (255 : Int32)).toUInt32.toUInt16.toUInt32.toInt32)) (nar .char v6) la25 T25.heap n0 Z25 Gn25) hZ (hw _ (List.mem_of_getElem? (i := 28) rfl)) (hw _ (List.mem_of_getElem? (i := 7) rfl)) (by decide) (by decide)) qk26a qk26c (g := (mkF m 78 #[.val (.int p0), .val (.int p1), .val (.int p2), .val (.int p3), .val (.int v3), .val (.int v6), .val (.int v9), .val (.ref b10)] [(.int v9), (.ref b10)])) rfl (by rw [hml]; rfl) (Steps.refl _) (argsL := [(.int v9)]) (rest := []) (lenOf pd4 rfl) rfl (by show 2 * 0 + _ ≤ _; exact Nat.le_of_eq rfl) (hb hby at_78) (fun _ _ => ⟨rfl, rfl, (by decide : 5 + 0 ≤ _), (by decide : 133 + 0 ≤ _)⟩)
            dsimp only [Pt.U, Pt.locs, Pt.cells, Pt.slots] at X26 l26 y26 z26 st26 hQ26
            subst l26 y26 z26
            obtain ⟨rfl, Nq26, Z26, la26, Gq26⟩ := hQ26
            have N26 := Fr.app N25 Nq26
            have Gn26 : own_W Z T26.heap n0 b10 (3 : Int32) (nar .char (((nar .byte (v3.toInt8.toInt32)) &&& (255 : Int32)).toUInt32.toUInt16.toUInt32.toInt32)) (nar .char v6) (nar .char v9) la26 := Gq26
            obtain ⟨-, Eg26, -⟩ := id Gn26
            refine own_go (G := T26.setTop (mkF m 81 #[.val (.int p0), .val (.int p1), .val (.int p2), .val (.int p3), .val (.int v3), .val (.int v6), .val (.int v9), .val (.ref b10)] [])) (fun _ k => st26.trans k) ?_
            refine own_go (G := T26.setTop (mkF m 83 #[.val (.int p0), .val (.int p1), .val (.int p2), .val (.int p3), .val (.int v3), .val (.int v6), .val (.int v9), .val (.ref b10)] [(.ref b10)])) (fun _ k => XS.aload X26.here hx rfl (hb hby at_81) rfl rfl k) ?_
            refine own_go (G := T26.setTop (mkF m 84 #[.val (.int p0), .val (.int p1), .val (.int p2), .val (.int p3), .val (.int v3), .val (.int v6), .val (.int v9), .val (.ref b10)] [(.int (0 : Int32)), (.ref b10)])) (fun _ k => XS.iconst X26.here hx rfl (hb hby at_83) k) ?_
            obtain ⟨cq27, kq27, qk27a, qk27b, qk27c⟩ := isOf hZ rfl Eg26
            obtain ⟨_, _, ⟨T27, L27, k27, n27⟩, -, X27, ⟨Lc27, hQ27, l27, y27, z27⟩, st27⟩ := X26.virtualBack hx (y := (⟨"com/example/xrefloom/xrefloom/tree/CompactText", "charAt", "(I)C"⟩ : MethodName)) (z := (⟨"com/example/xrefloom/xrefloom/tree/CompactText", "charAt", "(I)C"⟩ : MethodName)) hown (mvT hZ (hw _ (List.mem_of_getElem? (i := 36) rfl))) (mvT hZ (hw _ (List.mem_of_getElem? (i := 37) rfl))) (notFace_of_selects (args := #[]) (mvT hZ (hw _ (List.mem_of_getElem? (i := 39) rfl)))) (mvT hZ (hw _ (List.mem_of_getElem? (i := 39) rfl))) (mvT hZ (hw _ (List.mem_of_getElem? (i := 38) rfl))) (by decide) (backOf (W := 0) (caW0 l Z a0 hw [] b10 (3 : Int32) (nar .char (((nar .byte (v3.toInt8.toInt32)) &&& (255 : Int32)).toUInt32.toUInt16.toUInt32.toInt32)) (nar .char v6) (nar .char v9) la26 T26.heap n0 Z26 Gn26) hZ (hw _ (List.mem_of_getElem? (i := 40) rfl)) (hw _ (List.mem_of_getElem? (i := 7) rfl)) (by decide) (by decide)) qk27a qk27c (g := (mkF m 84 #[.val (.int p0), .val (.int p1), .val (.int p2), .val (.int p3), .val (.int v3), .val (.int v6), .val (.int v9), .val (.ref b10)] [(.int (0 : Int32)), (.ref b10)])) rfl (by rw [hml]; rfl) (Steps.refl _) (argsL := [(.int (0 : Int32))]) (rest := []) (lenOf pd5 rfl) rfl (by show 2 * 0 + _ ≤ _; exact Nat.le_of_eq rfl) (hb hby at_84) (fun _ _ => ⟨rfl, rfl, (by decide : 5 + 0 ≤ _), (by decide : 133 + 0 ≤ _)⟩)
            dsimp only [Pt.U, Pt.locs, Pt.cells, Pt.slots] at X27 l27 y27 z27 st27 hQ27
            subst l27 y27 z27
            obtain ⟨rfl, Nq27, e27⟩ := hQ27
            have N27 := Fr.app N26 Nq27
            refine own_go (G := T27.setTop (mkF m 87 #[.val (.int p0), .val (.int p1), .val (.int p2), .val (.int p3), .val (.int v3), .val (.int v6), .val (.int v9), .val (.ref b10)] [(.int (nar .char (nar .char (((nar .byte (v3.toInt8.toInt32)) &&& (255 : Int32)).toUInt32.toUInt16.toUInt32.toInt32))))])) (fun _ k => st27.trans k) ?_
            refine own_go (G := T27.setTop (mkF m 89 #[.val (.int p0), .val (.int p1), .val (.int p2), .val (.int p3), .val (.int v3), .val (.int v6), .val (.int v9), .val (.ref b10)] [(.int v3), (.int (nar .char (nar .char (((nar .byte (v3.toInt8.toInt32)) &&& (255 : Int32)).toUInt32.toUInt16.toUInt32.toInt32))))])) (fun _ k => XS.iload X27.here hx rfl (hb hby at_87) rfl k) ?_
            refine own_go (G := T27.setTop (mkF m 92 #[.val (.int p0), .val (.int p1), .val (.int p2), .val (.int p3), .val (.int v3), .val (.int v6), .val (.int v9), .val (.ref b10)] [])) (fun _ k => XS.icmpNo X27.here hx rfl (hb hby at_89) rfl (teq (own_fG hv3 hs0 : (nar .char (nar .char (((nar .byte (v3.toInt8.toInt32)) &&& (255 : Int32)).toUInt32.toUInt16.toUInt32.toInt32))) = v3)).2 k) ?_
            refine own_go (G := T27.setTop (mkF m 94 #[.val (.int p0), .val (.int p1), .val (.int p2), .val (.int p3), .val (.int v3), .val (.int v6), .val (.int v9), .val (.ref b10)] [(.ref b10)])) (fun _ k => XS.aload X27.here hx rfl (hb hby at_92) rfl rfl k) ?_
            refine own_go (G := T27.setTop (mkF m 95 #[.val (.int p0), .val (.int p1), .val (.int p2), .val (.int p3), .val (.int v3), .val (.int v6), .val (.int v9), .val (.ref b10)] [(.int (1 : Int32)), (.ref b10)])) (fun _ k => XS.iconst X27.here hx rfl (hb hby at_94) k) ?_
            obtain ⟨cq28, kq28, qk28a, qk28b, qk28c⟩ := isOf hZ e27 Eg26
            obtain ⟨_, _, ⟨T28, L28, k28, n28⟩, -, X28, ⟨Lc28, hQ28, l28, y28, z28⟩, st28⟩ := X27.virtualBack hx (y := (⟨"com/example/xrefloom/xrefloom/tree/CompactText", "charAt", "(I)C"⟩ : MethodName)) (z := (⟨"com/example/xrefloom/xrefloom/tree/CompactText", "charAt", "(I)C"⟩ : MethodName)) hown (mvT hZ (hw _ (List.mem_of_getElem? (i := 36) rfl))) (mvT hZ (hw _ (List.mem_of_getElem? (i := 37) rfl))) (notFace_of_selects (args := #[]) (mvT hZ (hw _ (List.mem_of_getElem? (i := 39) rfl)))) (mvT hZ (hw _ (List.mem_of_getElem? (i := 39) rfl))) (mvT hZ (hw _ (List.mem_of_getElem? (i := 38) rfl))) (by decide) (backOf (W := 0) (caW1 l Z a0 hw [] b10 (3 : Int32) (nar .char (((nar .byte (v3.toInt8.toInt32)) &&& (255 : Int32)).toUInt32.toUInt16.toUInt32.toInt32)) (nar .char v6) (nar .char v9) la26 T26.heap n0 Z26 Gn26) hZ (hw _ (List.mem_of_getElem? (i := 40) rfl)) (hw _ (List.mem_of_getElem? (i := 7) rfl)) (by decide) (by decide)) qk28a qk28c (g := (mkF m 95 #[.val (.int p0), .val (.int p1), .val (.int p2), .val (.int p3), .val (.int v3), .val (.int v6), .val (.int v9), .val (.ref b10)] [(.int (1 : Int32)), (.ref b10)])) rfl (by rw [hml]; rfl) (Steps.refl _) (argsL := [(.int (1 : Int32))]) (rest := []) (lenOf pd5 rfl) rfl (by show 2 * 0 + _ ≤ _; exact Nat.le_of_eq rfl) (hb hby at_95) (fun _ _ => ⟨rfl, e27, (by decide : 5 + 0 ≤ _), (by decide : 133 + 0 ≤ _)⟩)
            dsimp only [Pt.U, Pt.locs, Pt.cells, Pt.slots] at X28 l28 y28 z28 st28 hQ28
            subst l28 y28 z28
            obtain ⟨rfl, Nq28, e28⟩ := hQ28
            have N28 := Fr.app N27 Nq28
            refine own_go (G := T28.setTop (mkF m 98 #[.val (.int p0), .val (.int p1), .val (.int p2), .val (.int p3), .val (.int v3), .val (.int v6), .val (.int v9), .val (.ref b10)] [(.int (nar .char (nar .char v6)))])) (fun _ k => st28.trans k) ?_
            refine own_go (G := T28.setTop (mkF m 100 #[.val (.int p0), .val (.int p1), .val (.int p2), .val (.int p3), .val (.int v3), .val (.int v6), .val (.int v9), .val (.ref b10)] [(.int v6), (.int (nar .char (nar .char v6)))])) (fun _ k => XS.iload X28.here hx rfl (hb hby at_98) rfl k) ?_
            refine own_go (G := T28.setTop (mkF m 103 #[.val (.int p0), .val (.int p1), .val (.int p2), .val (.int p3), .val (.int v3), .val (.int v6), .val (.int v9), .val (.ref b10)] [])) (fun _ k => XS.icmpNo X28.here hx rfl (hb hby at_100) rfl (teq (own_fW hv6 : (nar .char (nar .char v6)) = v6)).2 k) ?_
            refine own_go (G := T28.setTop (mkF m 105 #[.val (.int p0), .val (.int p1), .val (.int p2), .val (.int p3), .val (.int v3), .val (.int v6), .val (.int v9), .val (.ref b10)] [(.ref b10)])) (fun _ k => XS.aload X28.here hx rfl (hb hby at_103) rfl rfl k) ?_
            refine own_go (G := T28.setTop (mkF m 106 #[.val (.int p0), .val (.int p1), .val (.int p2), .val (.int p3), .val (.int v3), .val (.int v6), .val (.int v9), .val (.ref b10)] [(.int (2 : Int32)), (.ref b10)])) (fun _ k => XS.iconst X28.here hx rfl (hb hby at_105) k) ?_
            obtain ⟨cq29, kq29, qk29a, qk29b, qk29c⟩ := isOf hZ e28 Eg26
            obtain ⟨_, _, ⟨T29, L29, k29, n29⟩, -, X29, ⟨Lc29, hQ29, l29, y29, z29⟩, st29⟩ := X28.virtualBack hx (y := (⟨"com/example/xrefloom/xrefloom/tree/CompactText", "charAt", "(I)C"⟩ : MethodName)) (z := (⟨"com/example/xrefloom/xrefloom/tree/CompactText", "charAt", "(I)C"⟩ : MethodName)) hown (mvT hZ (hw _ (List.mem_of_getElem? (i := 36) rfl))) (mvT hZ (hw _ (List.mem_of_getElem? (i := 37) rfl))) (notFace_of_selects (args := #[]) (mvT hZ (hw _ (List.mem_of_getElem? (i := 39) rfl)))) (mvT hZ (hw _ (List.mem_of_getElem? (i := 39) rfl))) (mvT hZ (hw _ (List.mem_of_getElem? (i := 38) rfl))) (by decide) (backOf (W := 0) (caW2 l Z a0 hw [] b10 (3 : Int32) (nar .char (((nar .byte (v3.toInt8.toInt32)) &&& (255 : Int32)).toUInt32.toUInt16.toUInt32.toInt32)) (nar .char v6) (nar .char v9) la26 T26.heap n0 Z26 Gn26) hZ (hw _ (List.mem_of_getElem? (i := 40) rfl)) (hw _ (List.mem_of_getElem? (i := 7) rfl)) (by decide) (by decide)) qk29a qk29c (g := (mkF m 106 #[.val (.int p0), .val (.int p1), .val (.int p2), .val (.int p3), .val (.int v3), .val (.int v6), .val (.int v9), .val (.ref b10)] [(.int (2 : Int32)), (.ref b10)])) rfl (by rw [hml]; rfl) (Steps.refl _) (argsL := [(.int (2 : Int32))]) (rest := []) (lenOf pd5 rfl) rfl (by show 2 * 0 + _ ≤ _; exact Nat.le_of_eq rfl) (hb hby at_106) (fun _ _ => ⟨rfl, e28, (by decide : 5 + 0 ≤ _), (by decide : 133 + 0 ≤ _)⟩)
            dsimp only [Pt.U, Pt.locs, Pt.cells, Pt.slots] at X29 l29 y29 z29 st29 hQ29
            subst l29 y29 z29
            obtain ⟨rfl, Nq29, e29⟩ := hQ29
            have N29 := Fr.app N28 Nq29
            refine own_go (G := T29.setTop (mkF m 109 #[.val (.int p0), .val (.int p1), .val (.int p2), .val (.int p3), .val (.int v3), .val (.int v6), .val (.int v9), .val (.ref b10)] [(.int (nar .char (nar .char v9)))])) (fun _ k => st29.trans k) ?_
            refine own_go (G := T29.setTop (mkF m 111 #[.val (.int p0), .val (.int p1), .val (.int p2), .val (.int p3), .val (.int v3), .val (.int v6), .val (.int v9), .val (.ref b10)] [(.int v9), (.int (nar .char (nar .char v9)))])) (fun _ k => XS.iload X29.here hx rfl (hb hby at_109) rfl k) ?_
            refine own_go (G := T29.setTop (mkF m 114 #[.val (.int p0), .val (.int p1), .val (.int p2), .val (.int p3), .val (.int v3), .val (.int v6), .val (.int v9), .val (.ref b10)] [])) (fun _ k => XS.icmpNo X29.here hx rfl (hb hby at_111) rfl (teq (own_fW hv9 : (nar .char (nar .char v9)) = v9)).2 k) ?_
            refine own_go (G := T29.setTop (mkF m 115 #[.val (.int p0), .val (.int p1), .val (.int p2), .val (.int p3), .val (.int v3), .val (.int v6), .val (.int v9), .val (.ref b10)] [(.int (1 : Int32))])) (fun _ k => XS.iconst X29.here hx rfl (hb hby at_114) k) ?_
            refine own_go (G := T29.setTop (mkF m 119 #[.val (.int p0), .val (.int p1), .val (.int p2), .val (.int p3), .val (.int v3), .val (.int v6), .val (.int v9), .val (.ref b10)] [(.int (1 : Int32))])) (fun _ k => XS.goto X29.here hx rfl (pc0 := 115) (pc' := 119) rfl (hb hby at_115) (by decide) (by decide) k) ?_
            exact own_ret1 X29 hx Bd.returns (hb hby at_119) Bd.notSynchronized (by decide) (by decide) ⟨rfl, N29⟩
        · skip
          refine own_go (G := T11.setTop (mkF m 62 #[.val (.int p0), .val (.int p1), .val (.int p2), .val (.int p3), .val (.int v3), .val (.int v6), .val (.int v9), .val (.ref b10)] [(.ref b10)])) (fun _ k => XS.aload X11.here hx rfl (hb hby at_60) rfl rfl k) ?_
          refine own_go (G := T11.setTop (mkF m 64 #[.val (.int p0), .val (.int p1), .val (.int p2), .val (.int p3), .val (.int v3), .val (.int v6), .val (.int v9), .val (.ref b10)] [(.int v3), (.ref b10)])) (fun _ k => XS.iload X11.here hx rfl (hb hby at_62) rfl k) ?_
          obtain ⟨cq30, kq30, qk30a, qk30b, qk30c⟩ := isOf hZ rfl Eg11
          obtain ⟨_, _, ⟨T30, L30, k30, n30⟩, -, X30, ⟨Lc30, hQ30, l30, y30, z30⟩, st30⟩ := X11.virtualBack hx (y := (⟨"com/example/xrefloom/xrefloom/tree/CompactText", "append", "(C)V"⟩ : MethodName)) (z := (⟨"com/example/xrefloom/xrefloom/tree/CompactText", "append", "(C)V"⟩ : MethodName)) hown (mvT hZ (hw _ (List.mem_of_getElem? (i := 24) rfl))) (mvT hZ (hw _ (List.mem_of_getElem? (i := 25) rfl))) (notFace_of_selects (args := #[]) (mvT hZ (hw _ (List.mem_of_getElem? (i := 27) rfl)))) (mvT hZ (hw _ (List.mem_of_getElem? (i := 27) rfl))) (mvT hZ (hw _ (List.mem_of_getElem? (i := 26) rfl))) (by decide) (backOf (W := 0) (apX0 l Z a0 hw [] b10 v3 la11 T11.heap n0 Z11 Gn11 hs0) hZ (hw _ (List.mem_of_getElem? (i := 28) rfl)) (hw _ (List.mem_of_getElem? (i := 7) rfl)) (by decide) (by decide)) qk30a qk30c (g := (mkF m 64 #[.val (.int p0), .val (.int p1), .val (.int p2), .val (.int p3), .val (.int v3), .val (.int v6), .val (.int v9), .val (.ref b10)] [(.int v3), (.ref b10)])) rfl (by rw [hml]; rfl) (Steps.refl _) (argsL := [(.int v3)]) (rest := []) (lenOf pd4 rfl) rfl (by show 2 * 0 + _ ≤ _; exact Nat.le_of_eq rfl) (hb hby at_64) (fun _ _ => ⟨rfl, rfl, (by decide : 4 + 1 ≤ _), (by decide : 69 + 64 ≤ _)⟩)
          dsimp only [Pt.U, Pt.locs, Pt.cells, Pt.slots] at X30 l30 y30 z30 st30 hQ30
          subst l30 y30 z30
          obtain ⟨rfl, Nq30, Z30, la30, Gq30⟩ := hQ30
          have N30 := Fr.app N11 Nq30
          have Gn30 : own_W Z T30.heap n0 b10 (1 : Int32) (nar .char v3) (nar .char (((0 : Int32) &&& (255 : Int32)).toUInt32.toUInt16.toUInt32.toInt32)) (nar .char (((0 : Int32) &&& (255 : Int32)).toUInt32.toUInt16.toUInt32.toInt32)) la30 := Gq30
          obtain ⟨-, Eg30, -⟩ := id Gn30
          refine own_go (G := T30.setTop (mkF m 67 #[.val (.int p0), .val (.int p1), .val (.int p2), .val (.int p3), .val (.int v3), .val (.int v6), .val (.int v9), .val (.ref b10)] [])) (fun _ k => st30.trans k) ?_
          refine own_go (G := T30.setTop (mkF m 69 #[.val (.int p0), .val (.int p1), .val (.int p2), .val (.int p3), .val (.int v3), .val (.int v6), .val (.int v9), .val (.ref b10)] [(.ref b10)])) (fun _ k => XS.aload X30.here hx rfl (hb hby at_67) rfl rfl k) ?_
          refine own_go (G := T30.setTop (mkF m 71 #[.val (.int p0), .val (.int p1), .val (.int p2), .val (.int p3), .val (.int v3), .val (.int v6), .val (.int v9), .val (.ref b10)] [(.int v6), (.ref b10)])) (fun _ k => XS.iload X30.here hx rfl (hb hby at_69) rfl k) ?_
          obtain ⟨cq31, kq31, qk31a, qk31b, qk31c⟩ := isOf hZ rfl Eg30
          obtain ⟨_, _, ⟨T31, L31, k31, n31⟩, -, X31, ⟨Lc31, hQ31, l31, y31, z31⟩, st31⟩ := X30.virtualBack hx (y := (⟨"com/example/xrefloom/xrefloom/tree/CompactText", "append", "(C)V"⟩ : MethodName)) (z := (⟨"com/example/xrefloom/xrefloom/tree/CompactText", "append", "(C)V"⟩ : MethodName)) hown (mvT hZ (hw _ (List.mem_of_getElem? (i := 24) rfl))) (mvT hZ (hw _ (List.mem_of_getElem? (i := 25) rfl))) (notFace_of_selects (args := #[]) (mvT hZ (hw _ (List.mem_of_getElem? (i := 27) rfl)))) (mvT hZ (hw _ (List.mem_of_getElem? (i := 27) rfl))) (mvT hZ (hw _ (List.mem_of_getElem? (i := 26) rfl))) (by decide) (backOf (W := 0) (apW1 l Z a0 hw [] b10 v6 (nar .char v3) la30 T30.heap n0 Z30 Gn30) hZ (hw _ (List.mem_of_getElem? (i := 28) rfl)) (hw _ (List.mem_of_getElem? (i := 7) rfl)) (by decide) (by decide)) qk31a qk31c (g := (mkF m 71 #[.val (.int p0), .val (.int p1), .val (.int p2), .val (.int p3), .val (.int v3), .val (.int v6), .val (.int v9), .val (.ref b10)] [(.int v6), (.ref b10)])) rfl (by rw [hml]; rfl) (Steps.refl _) (argsL := [(.int v6)]) (rest := []) (lenOf pd4 rfl) rfl (by show 2 * 0 + _ ≤ _; exact Nat.le_of_eq rfl) (hb hby at_71) (fun _ _ => ⟨rfl, rfl, (by decide : 5 + 0 ≤ _), (by decide : 133 + 0 ≤ _)⟩)
          dsimp only [Pt.U, Pt.locs, Pt.cells, Pt.slots] at X31 l31 y31 z31 st31 hQ31
          subst l31 y31 z31
          obtain ⟨rfl, Nq31, Z31, la31, Gq31⟩ := hQ31
          have N31 := Fr.app N30 Nq31
          have Gn31 : own_W Z T31.heap n0 b10 (2 : Int32) (nar .char v3) (nar .char v6) (nar .char (((0 : Int32) &&& (255 : Int32)).toUInt32.toUInt16.toUInt32.toInt32)) la31 := Gq31
          obtain ⟨-, Eg31, -⟩ := id Gn31
          refine own_go (G := T31.setTop (mkF m 74 #[.val (.int p0), .val (.int p1), .val (.int p2), .val (.int p3), .val (.int v3), .val (.int v6), .val (.int v9), .val (.ref b10)] [])) (fun _ k => st31.trans k) ?_
          refine own_go (G := T31.setTop (mkF m 76 #[.val (.int p0), .val (.int p1), .val (.int p2), .val (.int p3), .val (.int v3), .val (.int v6), .val (.int v9), .val (.ref b10)] [(.ref b10)])) (fun _ k => XS.aload X31.here hx rfl (hb hby at_74) rfl rfl k) ?_
          refine own_go (G := T31.setTop (mkF m 78 #[.val (.int p0), .val (.int p1), .val (.int p2), .val (.int p3), .val (.int v3), .val (.int v6), .val (.int v9), .val (.ref b10)] [(.int v9), (.ref b10)])) (fun _ k => XS.iload X31.here hx rfl (hb hby at_76) rfl k) ?_
          obtain ⟨cq32, kq32, qk32a, qk32b, qk32c⟩ := isOf hZ rfl Eg31
          obtain ⟨_, _, ⟨T32, L32, k32, n32⟩, -, X32, ⟨Lc32, hQ32, l32, y32, z32⟩, st32⟩ := X31.virtualBack hx (y := (⟨"com/example/xrefloom/xrefloom/tree/CompactText", "append", "(C)V"⟩ : MethodName)) (z := (⟨"com/example/xrefloom/xrefloom/tree/CompactText", "append", "(C)V"⟩ : MethodName)) hown (mvT hZ (hw _ (List.mem_of_getElem? (i := 24) rfl))) (mvT hZ (hw _ (List.mem_of_getElem? (i := 25) rfl))) (notFace_of_selects (args := #[]) (mvT hZ (hw _ (List.mem_of_getElem? (i := 27) rfl)))) (mvT hZ (hw _ (List.mem_of_getElem? (i := 27) rfl))) (mvT hZ (hw _ (List.mem_of_getElem? (i := 26) rfl))) (by decide) (backOf (W := 0) (apW2 l Z a0 hw [] b10 v9 (nar .char v3) (nar .char v6) la31 T31.heap n0 Z31 Gn31) hZ (hw _ (List.mem_of_getElem? (i := 28) rfl)) (hw _ (List.mem_of_getElem? (i := 7) rfl)) (by decide) (by decide)) qk32a qk32c (g := (mkF m 78 #[.val (.int p0), .val (.int p1), .val (.int p2), .val (.int p3), .val (.int v3), .val (.int v6), .val (.int v9), .val (.ref b10)] [(.int v9), (.ref b10)])) rfl (by rw [hml]; rfl) (Steps.refl _) (argsL := [(.int v9)]) (rest := []) (lenOf pd4 rfl) rfl (by show 2 * 0 + _ ≤ _; exact Nat.le_of_eq rfl) (hb hby at_78) (fun _ _ => ⟨rfl, rfl, (by decide : 5 + 0 ≤ _), (by decide : 133 + 0 ≤ _)⟩)
          dsimp only [Pt.U, Pt.locs, Pt.cells, Pt.slots] at X32 l32 y32 z32 st32 hQ32
          subst l32 y32 z32
          obtain ⟨rfl, Nq32, Z32, la32, Gq32⟩ := hQ32
          have N32 := Fr.app N31 Nq32
          have Gn32 : own_W Z T32.heap n0 b10 (3 : Int32) (nar .char v3) (nar .char v6) (nar .char v9) la32 := Gq32
          obtain ⟨-, Eg32, -⟩ := id Gn32
          refine own_go (G := T32.setTop (mkF m 81 #[.val (.int p0), .val (.int p1), .val (.int p2), .val (.int p3), .val (.int v3), .val (.int v6), .val (.int v9), .val (.ref b10)] [])) (fun _ k => st32.trans k) ?_
          refine own_go (G := T32.setTop (mkF m 83 #[.val (.int p0), .val (.int p1), .val (.int p2), .val (.int p3), .val (.int v3), .val (.int v6), .val (.int v9), .val (.ref b10)] [(.ref b10)])) (fun _ k => XS.aload X32.here hx rfl (hb hby at_81) rfl rfl k) ?_
          refine own_go (G := T32.setTop (mkF m 84 #[.val (.int p0), .val (.int p1), .val (.int p2), .val (.int p3), .val (.int v3), .val (.int v6), .val (.int v9), .val (.ref b10)] [(.int (0 : Int32)), (.ref b10)])) (fun _ k => XS.iconst X32.here hx rfl (hb hby at_83) k) ?_
          obtain ⟨cq33, kq33, qk33a, qk33b, qk33c⟩ := isOf hZ rfl Eg32
          obtain ⟨_, _, ⟨T33, L33, k33, n33⟩, -, X33, ⟨Lc33, hQ33, l33, y33, z33⟩, st33⟩ := X32.virtualBack hx (y := (⟨"com/example/xrefloom/xrefloom/tree/CompactText", "charAt", "(I)C"⟩ : MethodName)) (z := (⟨"com/example/xrefloom/xrefloom/tree/CompactText", "charAt", "(I)C"⟩ : MethodName)) hown (mvT hZ (hw _ (List.mem_of_getElem? (i := 36) rfl))) (mvT hZ (hw _ (List.mem_of_getElem? (i := 37) rfl))) (notFace_of_selects (args := #[]) (mvT hZ (hw _ (List.mem_of_getElem? (i := 39) rfl)))) (mvT hZ (hw _ (List.mem_of_getElem? (i := 39) rfl))) (mvT hZ (hw _ (List.mem_of_getElem? (i := 38) rfl))) (by decide) (backOf (W := 0) (caW0 l Z a0 hw [] b10 (3 : Int32) (nar .char v3) (nar .char v6) (nar .char v9) la32 T32.heap n0 Z32 Gn32) hZ (hw _ (List.mem_of_getElem? (i := 40) rfl)) (hw _ (List.mem_of_getElem? (i := 7) rfl)) (by decide) (by decide)) qk33a qk33c (g := (mkF m 84 #[.val (.int p0), .val (.int p1), .val (.int p2), .val (.int p3), .val (.int v3), .val (.int v6), .val (.int v9), .val (.ref b10)] [(.int (0 : Int32)), (.ref b10)])) rfl (by rw [hml]; rfl) (Steps.refl _) (argsL := [(.int (0 : Int32))]) (rest := []) (lenOf pd5 rfl) rfl (by show 2 * 0 + _ ≤ _; exact Nat.le_of_eq rfl) (hb hby at_84) (fun _ _ => ⟨rfl, rfl, (by decide : 5 + 0 ≤ _), (by decide : 133 + 0 ≤ _)⟩)
          dsimp only [Pt.U, Pt.locs, Pt.cells, Pt.slots] at X33 l33 y33 z33 st33 hQ33
          subst l33 y33 z33
          obtain ⟨rfl, Nq33, e33⟩ := hQ33
          have N33 := Fr.app N32 Nq33
          refine own_go (G := T33.setTop (mkF m 87 #[.val (.int p0), .val (.int p1), .val (.int p2), .val (.int p3), .val (.int v3), .val (.int v6), .val (.int v9), .val (.ref b10)] [(.int (nar .char (nar .char v3)))])) (fun _ k => st33.trans k) ?_
          refine own_go (G := T33.setTop (mkF m 89 #[.val (.int p0), .val (.int p1), .val (.int p2), .val (.int p3), .val (.int v3), .val (.int v6), .val (.int v9), .val (.ref b10)] [(.int v3), (.int (nar .char (nar .char v3)))])) (fun _ k => XS.iload X33.here hx rfl (hb hby at_87) rfl k) ?_
          refine own_go (G := T33.setTop (mkF m 92 #[.val (.int p0), .val (.int p1), .val (.int p2), .val (.int p3), .val (.int v3), .val (.int v6), .val (.int v9), .val (.ref b10)] [])) (fun _ k => XS.icmpNo X33.here hx rfl (hb hby at_89) rfl (teq (own_fW hv3 : (nar .char (nar .char v3)) = v3)).2 k) ?_
          refine own_go (G := T33.setTop (mkF m 94 #[.val (.int p0), .val (.int p1), .val (.int p2), .val (.int p3), .val (.int v3), .val (.int v6), .val (.int v9), .val (.ref b10)] [(.ref b10)])) (fun _ k => XS.aload X33.here hx rfl (hb hby at_92) rfl rfl k) ?_
          refine own_go (G := T33.setTop (mkF m 95 #[.val (.int p0), .val (.int p1), .val (.int p2), .val (.int p3), .val (.int v3), .val (.int v6), .val (.int v9), .val (.ref b10)] [(.int (1 : Int32)), (.ref b10)])) (fun _ k => XS.iconst X33.here hx rfl (hb hby at_94) k) ?_
          obtain ⟨cq34, kq34, qk34a, qk34b, qk34c⟩ := isOf hZ e33 Eg32
          obtain ⟨_, _, ⟨T34, L34, k34, n34⟩, -, X34, ⟨Lc34, hQ34, l34, y34, z34⟩, st34⟩ := X33.virtualBack hx (y := (⟨"com/example/xrefloom/xrefloom/tree/CompactText", "charAt", "(I)C"⟩ : MethodName)) (z := (⟨"com/example/xrefloom/xrefloom/tree/CompactText", "charAt", "(I)C"⟩ : MethodName)) hown (mvT hZ (hw _ (List.mem_of_getElem? (i := 36) rfl))) (mvT hZ (hw _ (List.mem_of_getElem? (i := 37) rfl))) (notFace_of_selects (args := #[]) (mvT hZ (hw _ (List.mem_of_getElem? (i := 39) rfl)))) (mvT hZ (hw _ (List.mem_of_getElem? (i := 39) rfl))) (mvT hZ (hw _ (List.mem_of_getElem? (i := 38) rfl))) (by decide) (backOf (W := 0) (caW1 l Z a0 hw [] b10 (3 : Int32) (nar .char v3) (nar .char v6) (nar .char v9) la32 T32.heap n0 Z32 Gn32) hZ (hw _ (List.mem_of_getElem? (i := 40) rfl)) (hw _ (List.mem_of_getElem? (i := 7) rfl)) (by decide) (by decide)) qk34a qk34c (g := (mkF m 95 #[.val (.int p0), .val (.int p1), .val (.int p2), .val (.int p3), .val (.int v3), .val (.int v6), .val (.int v9), .val (.ref b10)] [(.int (1 : Int32)), (.ref b10)])) rfl (by rw [hml]; rfl) (Steps.refl _) (argsL := [(.int (1 : Int32))]) (rest := []) (lenOf pd5 rfl) rfl (by show 2 * 0 + _ ≤ _; exact Nat.le_of_eq rfl) (hb hby at_95) (fun _ _ => ⟨rfl, e33, (by decide : 5 + 0 ≤ _), (by decide : 133 + 0 ≤ _)⟩)
          dsimp only [Pt.U, Pt.locs, Pt.cells, Pt.slots] at X34 l34 y34 z34 st34 hQ34
          subst l34 y34 z34
          obtain ⟨rfl, Nq34, e34⟩ := hQ34
          have N34 := Fr.app N33 Nq34
          refine own_go (G := T34.setTop (mkF m 98 #[.val (.int p0), .val (.int p1), .val (.int p2), .val (.int p3), .val (.int v3), .val (.int v6), .val (.int v9), .val (.ref b10)] [(.int (nar .char (nar .char v6)))])) (fun _ k => st34.trans k) ?_
          refine own_go (G := T34.setTop (mkF m 100 #[.val (.int p0), .val (.int p1), .val (.int p2), .val (.int p3), .val (.int v3), .val (.int v6), .val (.int v9), .val (.ref b10)] [(.int v6), (.int (nar .char (nar .char v6)))])) (fun _ k => XS.iload X34.here hx rfl (hb hby at_98) rfl k) ?_
          refine own_go (G := T34.setTop (mkF m 103 #[.val (.int p0), .val (.int p1), .val (.int p2), .val (.int p3), .val (.int v3), .val (.int v6), .val (.int v9), .val (.ref b10)] [])) (fun _ k => XS.icmpNo X34.here hx rfl (hb hby at_100) rfl (teq (own_fW hv6 : (nar .char (nar .char v6)) = v6)).2 k) ?_
          refine own_go (G := T34.setTop (mkF m 105 #[.val (.int p0), .val (.int p1), .val (.int p2), .val (.int p3), .val (.int v3), .val (.int v6), .val (.int v9), .val (.ref b10)] [(.ref b10)])) (fun _ k => XS.aload X34.here hx rfl (hb hby at_103) rfl rfl k) ?_
          refine own_go (G := T34.setTop (mkF m 106 #[.val (.int p0), .val (.int p1), .val (.int p2), .val (.int p3), .val (.int v3), .val (.int v6), .val (.int v9), .val (.ref b10)] [(.int (2 : Int32)), (.ref b10)])) (fun _ k => XS.iconst X34.here hx rfl (hb hby at_105) k) ?_
          obtain ⟨cq35, kq35, qk35a, qk35b, qk35c⟩ := isOf hZ e34 Eg32
          obtain ⟨_, _, ⟨T35, L35, k35, n35⟩, -, X35, ⟨Lc35, hQ35, l35, y35, z35⟩, st35⟩ := X34.virtualBack hx (y := (⟨"com/example/xrefloom/xrefloom/tree/CompactText", "charAt", "(I)C"⟩ : MethodName)) (z := (⟨"com/example/xrefloom/xrefloom/tree/CompactText", "charAt", "(I)C"⟩ : MethodName)) hown (mvT hZ (hw _ (List.mem_of_getElem? (i := 36) rfl))) (mvT hZ (hw _ (List.mem_of_getElem? (i := 37) rfl))) (notFace_of_selects (args := #[]) (mvT hZ (hw _ (List.mem_of_getElem? (i := 39) rfl)))) (mvT hZ (hw _ (List.mem_of_getElem? (i := 39) rfl))) (mvT hZ (hw _ (List.mem_of_getElem? (i := 38) rfl))) (by decide) (backOf (W := 0) (caW2 l Z a0 hw [] b10 (3 : Int32) (nar .char v3) (nar .char v6) (nar .char v9) la32 T32.heap n0 Z32 Gn32) hZ (hw _ (List.mem_of_getElem? (i := 40) rfl)) (hw _ (List.mem_of_getElem? (i := 7) rfl)) (by decide) (by decide)) qk35a qk35c (g := (mkF m 106 #[.val (.int p0), .val (.int p1), .val (.int p2), .val (.int p3), .val (.int v3), .val (.int v6), .val (.int v9), .val (.ref b10)] [(.int (2 : Int32)), (.ref b10)])) rfl (by rw [hml]; rfl) (Steps.refl _) (argsL := [(.int (2 : Int32))]) (rest := []) (lenOf pd5 rfl) rfl (by show 2 * 0 + _ ≤ _; exact Nat.le_of_eq rfl) (hb hby at_106) (fun _ _ => ⟨rfl, e34, (by decide : 5 + 0 ≤ _), (by decide : 133 + 0 ≤ _)⟩)
          dsimp only [Pt.U, Pt.locs, Pt.cells, Pt.slots] at X35 l35 y35 z35 st35 hQ35
          subst l35 y35 z35
          obtain ⟨rfl, Nq35, e35⟩ := hQ35
          have N35 := Fr.app N34 Nq35
          refine own_go (G := T35.setTop (mkF m 109 #[.val (.int p0), .val (.int p1), .val (.int p2), .val (.int p3), .val (.int v3), .val (.int v6), .val (.int v9), .val (.ref b10)] [(.int (nar .char (nar .char v9)))])) (fun _ k => st35.trans k) ?_
          refine own_go (G := T35.setTop (mkF m 111 #[.val (.int p0), .val (.int p1), .val (.int p2), .val (.int p3), .val (.int v3), .val (.int v6), .val (.int v9), .val (.ref b10)] [(.int v9), (.int (nar .char (nar .char v9)))])) (fun _ k => XS.iload X35.here hx rfl (hb hby at_109) rfl k) ?_
          refine own_go (G := T35.setTop (mkF m 114 #[.val (.int p0), .val (.int p1), .val (.int p2), .val (.int p3), .val (.int v3), .val (.int v6), .val (.int v9), .val (.ref b10)] [])) (fun _ k => XS.icmpNo X35.here hx rfl (hb hby at_111) rfl (teq (own_fW hv9 : (nar .char (nar .char v9)) = v9)).2 k) ?_
          refine own_go (G := T35.setTop (mkF m 115 #[.val (.int p0), .val (.int p1), .val (.int p2), .val (.int p3), .val (.int v3), .val (.int v6), .val (.int v9), .val (.ref b10)] [(.int (1 : Int32))])) (fun _ k => XS.iconst X35.here hx rfl (hb hby at_114) k) ?_
          refine own_go (G := T35.setTop (mkF m 119 #[.val (.int p0), .val (.int p1), .val (.int p2), .val (.int p3), .val (.int v3), .val (.int v6), .val (.int v9), .val (.ref b10)] [(.int (1 : Int32))])) (fun _ k => XS.goto X35.here hx rfl (pc0 := 115) (pc' := 119) rfl (hb hby at_115) (by decide) (by decide) k) ?_
          exact own_ret1 X35 hx Bd.returns (hb hby at_119) Bd.notSynchronized (by decide) (by decide) ⟨rfl, N35⟩
      by_cases hc38 : (p3 &&& (4 : Int32)) = (0 : Int32)
      · skip
        refine own_go (G := T5.setTop (mkF m 45 #[.val (.int p0), .val (.int p1), .val (.int p2), .val (.int p3), .val (.int v3), .val (.int v6), .unset, .unset] [(.int p2)])) (fun _ k => XS.ifYes X5.here hx rfl (pc0 := 38) (pc' := 45) rfl (hb hby at_38) rfl ((if0 _ _).trans (teq hc38).1) (by decide) (by decide) k) ?_
        refine own_go (G := T5.setTop (mkF m 46 #[.val (.int p0), .val (.int p1), .val (.int p2), .val (.int p3), .val (.int v3), .val (.int v6), .unset, .unset] [(.int (0 : Int32)), (.int p2)])) (fun _ k => XS.iconst X5.here hx rfl (hb hby at_45) k) ?_
        exact j46_7 _
      · skip
        refine own_go (G := T5.setTop (mkF m 41 #[.val (.int p0), .val (.int p1), .val (.int p2), .val (.int p3), .val (.int v3), .val (.int v6), .unset, .unset] [(.int p2)])) (fun _ k => XS.ifNo X5.here hx rfl (hb hby at_38) rfl ((if0 _ _).trans (feq hc38).1) k) ?_
        refine own_go (G := T5.setTop (mkF m 42 #[.val (.int p0), .val (.int p1), .val (.int p2), .val (.int p3), .val (.int v3), .val (.int v6), .unset, .unset] [(.int (1 : Int32)), (.int p2)])) (fun _ k => XS.iconst X5.here hx rfl (hb hby at_41) k) ?_
        refine own_go (G := T5.setTop (mkF m 46 #[.val (.int p0), .val (.int p1), .val (.int p2), .val (.int p3), .val (.int v3), .val (.int v6), .unset, .unset] [(.int (1 : Int32)), (.int p2)])) (fun _ k => XS.goto X5.here hx rfl (pc0 := 42) (pc' := 46) rfl (hb hby at_42) (by decide) (by decide) k) ?_
        exact j46_7 _
    by_cases hc21 : (p3 &&& (2 : Int32)) = (0 : Int32)
    · skip
      refine own_go (G := T2.setTop (mkF m 28 #[.val (.int p0), .val (.int p1), .val (.int p2), .val (.int p3), .val (.int v3), .unset, .unset, .unset] [(.int p1)])) (fun _ k => XS.ifYes X2.here hx rfl (pc0 := 21) (pc' := 28) rfl (hb hby at_21) rfl ((if0 _ _).trans (teq hc21).1) (by decide) (by decide) k) ?_
      refine own_go (G := T2.setTop (mkF m 29 #[.val (.int p0), .val (.int p1), .val (.int p2), .val (.int p3), .val (.int v3), .unset, .unset, .unset] [(.int (0 : Int32)), (.int p1)])) (fun _ k => XS.iconst X2.here hx rfl (hb hby at_28) k) ?_
      exact j29_4 _
    · skip
      refine own_go (G := T2.setTop (mkF m 24 #[.val (.int p0), .val (.int p1), .val (.int p2), .val (.int p3), .val (.int v3), .unset, .unset, .unset] [(.int p1)])) (fun _ k => XS.ifNo X2.here hx rfl (hb hby at_21) rfl ((if0 _ _).trans (feq hc21).1) k) ?_
      refine own_go (G := T2.setTop (mkF m 25 #[.val (.int p0), .val (.int p1), .val (.int p2), .val (.int p3), .val (.int v3), .unset, .unset, .unset] [(.int (1 : Int32)), (.int p1)])) (fun _ k => XS.iconst X2.here hx rfl (hb hby at_24) k) ?_
      refine own_go (G := T2.setTop (mkF m 29 #[.val (.int p0), .val (.int p1), .val (.int p2), .val (.int p3), .val (.int v3), .unset, .unset, .unset] [(.int (1 : Int32)), (.int p1)])) (fun _ k => XS.goto X2.here hx rfl (pc0 := 25) (pc' := 29) rfl (hb hby at_25) (by decide) (by decide) k) ?_
      exact j29_4 _
  by_cases hc4 : (p3 &&& (1 : Int32)) = (0 : Int32)
  · skip
    refine own_go (G := s₁.setTop (mkF m 11 #[.val (.int p0), .val (.int p1), .val (.int p2), .val (.int p3), .unset, .unset, .unset, .unset] [(.int p0)])) (fun _ k => XS.ifYes X0.here hx rfl (pc0 := 4) (pc' := 11) rfl (hb hby at_4) rfl ((if0 _ _).trans (teq hc4).1) (by decide) (by decide) k) ?_
    refine own_go (G := s₁.setTop (mkF m 12 #[.val (.int p0), .val (.int p1), .val (.int p2), .val (.int p3), .unset, .unset, .unset, .unset] [(.int (0 : Int32)), (.int p0)])) (fun _ k => XS.iconst X0.here hx rfl (hb hby at_11) k) ?_
    exact j12_1 _
  · skip
    refine own_go (G := s₁.setTop (mkF m 7 #[.val (.int p0), .val (.int p1), .val (.int p2), .val (.int p3), .unset, .unset, .unset, .unset] [(.int p0)])) (fun _ k => XS.ifNo X0.here hx rfl (hb hby at_4) rfl ((if0 _ _).trans (feq hc4).1) k) ?_
    refine own_go (G := s₁.setTop (mkF m 8 #[.val (.int p0), .val (.int p1), .val (.int p2), .val (.int p3), .unset, .unset, .unset, .unset] [(.int (1 : Int32)), (.int p0)])) (fun _ k => XS.iconst X0.here hx rfl (hb hby at_7) k) ?_
    refine own_go (G := s₁.setTop (mkF m 12 #[.val (.int p0), .val (.int p1), .val (.int p2), .val (.int p3), .unset, .unset, .unset, .unset] [(.int (1 : Int32)), (.int p0)])) (fun _ k => XS.goto X0.here hx rfl (pc0 := 8) (pc' := 12) rfl (hb hby at_8) (by decide) (by decide) k) ?_
    exact j12_1 _
set_option maxRecDepth 65536 in
set_option maxHeartbeats 40000000 in
theorem comes_1 {Post : Tables → Env → Array Value → State → Outcome → State → Prop} (hpost : ∀ tb e args s v u, (limb_1_1.after args s (.returned v) u = true ∧ limb_1_2.after args s (.returned v) u = true ∧ True) → FrameEnd s (.returned v) u (Jvm.fieldLocs frame_1_writes args s ++ Jvm.arrayLocs frame_1_arrays args s ++ Jvm.staticLocs frame_1_statics s) 24 384 → Post tb e args s (.returned v) u) :
    ArmFor flags0 classFile x code maxLocals ret World_1 tables_1 room_1 Calls_1 rest_1 Pre_1 Post := by
  intro l hfl _ _ p e ha hc hk s m args below hf hA hF happ hP
  obtain ⟨hcalls, hrest, hpre⟩ := hP
  obtain ⟨-, -, -, hnamed, -, -, -, hat⟩ := (Spec.applies_iff hf).mp happ
  obtain ⟨hg, hn⟩ := and_e (Cond.before_iff.mp (show (Jvm.Cond.and given_1 narrow_1).before args s = true from hpre))
  obtain ⟨gc, g0⟩ := and_e hg
  obtain ⟨ga0, g1⟩ := and_e g0
  obtain ⟨ga1, g2⟩ := and_e g1
  obtain ⟨ga2, g3⟩ := and_e g2
  obtain ⟨w0, w1, w2, w3, rfl⟩ : ∃ w0 w1 w2 w3 : Value, args = #[w0, w1, w2, w3] := by
    have hs : args.size = 4 := by simpa [Cond.value, given_1] using gc
    obtain ⟨L⟩ := args
    match L, hs with
    | [w0, w1, w2, w3], _ => exact ⟨w0, w1, w2, w3, rfl⟩
  have hw := fun d (hd : d ∈ tables_1) => atoms_spec (ws := Jvm.Cond.code x code maxLocals ret :: tables_1) hat d (List.mem_cons_of_mem _ hd)
  obtain ⟨i0, ei0⟩ := is_v ga0
  obtain rfl : w0 = (.int i0) := Option.some.inj ei0
  obtain ⟨i1, ei1⟩ := is_v ga1
  obtain rfl : w1 = (.int i1) := Option.some.inj ei1
  obtain ⟨i2, ei2⟩ := is_v ga2
  obtain rfl : w2 = (.int i2) := Option.some.inj ei2
  obtain ⟨i3, ei3⟩ := is_v g3
  obtain rfl : w3 = (.int i3) := Option.some.inj ei3
  obtain ⟨n, o, h1, h2, h3, _, L, rfl, ⟨rfl, N⟩, hq⟩ := rm0 l s _ hw tables_1 i0 i1 i2 i3 s.heap s.heap.size (Nat.le_refl _) p e ha hc hk s m _ below hf ((Spec.applies_iff_loose hf).mp happ).1 ⟨rfl, State.Warmed39.refl s, rfl⟩ trivial
  refine ⟨n, _, h1, h2, h3, hpost _ _ _ _ _ _ ⟨Cond.after_iff.mpr rfl, Cond.after_iff.mpr (eq_i res_at (Term.int_eval (1)) rfl), trivial⟩ ⟨hq.1, hq.2.1, (hq.2.2.sift fun y hy => Or.inr (N y hy)).mono (by decide) (by decide)⟩⟩
theorem main_1_1 : Claimed_1_1 := comes_1 fun _ _ _ _ _ _ h hF => ⟨h.1, hF⟩
theorem main_1_2 : Claimed_1_2 := comes_1 fun _ _ _ _ _ _ h hF => ⟨h.2.1, hF⟩
end Jvm.Pilot.@@N@@
namespace Jvm.Pilot.@@N@@
open Jvm Jvm.ClassFile Sem Op Lib Jvm.Free Jvm.Stand Jvm.Pilot.@@N@@.Jvm.D
/-! MADE BY PROGRAM (witnessworld.py) out of the Statement's table words and the real class files: 11 classes; the members and pool entries that the words name. The judged class is class 1, her method 2. -/
namespace start1
open Jvm.ClassFile
def u (s : String) : CpInfo := .utf8 (stringToUtf16 s)
/-- a pool by its gaps: so many unusable entries, then the entry; so many at the end -/
def gap : Nat → List CpInfo → List CpInfo
  | 0, r => r
  | n + 1, r => .unusable :: gap n r
def poolList (es : List (Nat × CpInfo)) (last : Nat) : List CpInfo := es.foldr (fun e r => gap e.1 (e.2 :: r)) (gap last [])
def pool (es : List (Nat × CpInfo)) (last : Nat) : Array CpInfo := ⟨poolList es last⟩
def fileOf (pool : Array CpInfo) (this : Nat) (attrs : Array Attribute := #[]) (ms : Array MethodInfo := #[]) (fl : Nat := 33) (sup : Nat := 0) (ifs : Array Nat := #[]) (fds : Array FieldInfo := #[]) : ClassFile where
  minorVersion := 0
  majorVersion := 65
  constantPool := pool
  accessFlags := fl
  thisClass := this
  superClass := sup
  interfaces := ifs
  fields := fds
  methods := ms
  attributes := attrs
def plain (name : String) (sup : Option ClassId) : Class where
  name := name
  kind := .ordinary
  loader := none
  accessFlags := 33
  super := sup
  interfaces := #[]
  cf := none
  fields := #[]
  methods := #[]
  instanceTypes := #[]
  staticTypes := #[]
  resolved := #[]
  callSites := []
  init := .initialized
  statics := none
  mirror := none

def pool0 : Array CpInfo := pool [(5, u "<init>"), (0, u "()V"), (1, .class_ 10), (1, u "java/lang/Object")] 113

def k0c0 : Code := { maxStack := 0, maxLocals := 1, code := object_method_1_code, exceptionTable := #[], attributes := #[] }
def k0m0 : Method := { name := "<init>", desc := "()V", sig := { parameters := [], returnType := none }, accessFlags := 1, code := some k0c0 }
/-- java/lang/Object -/
def k0 : Class := { plain "java/lang/Object" none with
  accessFlags := 33
  interfaces := #[]
  cf := some (fileOf pool0 8 #[] #[{ accessFlags := 1, nameIndex := 5, descriptorIndex := 6, attributes := #[] }] 33 0 #[] #[])
  fields := #[]
  methods := #[k0m0]
  instanceTypes := #[]
  staticTypes := #[]
  resolved := Array.replicate 124 none
  statics := none }

def pool1 : Array CpInfo := pool [(2, .class_ 4), (0, .nameAndType 5 6), (0, u "java/lang/Object"), (0, u "<init>"), (0, u "()V"), (0, .integer 65535), (0, .methodref 9 10), (0, .class_ 11), (0, .nameAndType 12 13), (0, u "com/example/xrefloom/xrefloom/tree/CompactTextCharAtPinLaw"), (0, u "draw"), (0, u "(IZ)C"), (0, .class_ 15), (0, u "com/example/xrefloom/xrefloom/tree/CompactText"), (0, .methodref 14 3), (0, .methodref 14 18), (0, .nameAndType 19 20), (0, u "append"), (0, u "(C)V"), (0, .methodref 14 22), (0, .nameAndType 23 24), (0, u "charAt"), (0, u "(I)C"), (3, u "law"), (0, u "(IIII)Z")] 2

def k1m0 : Method := { name := "<init>", desc := "()V", sig := { parameters := [], returnType := none }, accessFlags := 1, code := none }
def k1c1 : Code := { maxStack := 2, maxLocals := 2, code := method_2_code, exceptionTable := #[], attributes := #[] }
def k1m1 : Method := { name := "draw", desc := "(IZ)C", sig := { parameters := [.int, .boolean], returnType := some .char }, accessFlags := 10, code := some k1c1 }
def k1c2 : Code := { maxStack := 3, maxLocals := 8, code := code, exceptionTable := #[], attributes := #[] }
def k1m2 : Method := { name := "law", desc := "(IIII)Z", sig := { parameters := [.int, .int, .int, .int], returnType := some .boolean }, accessFlags := 9, code := some k1c2 }
/-- com/example/xrefloom/xrefloom/tree/CompactTextCharAtPinLaw -/
def k1 : Class := { plain "com/example/xrefloom/xrefloom/tree/CompactTextCharAtPinLaw" (some 0) with
  accessFlags := 49
  interfaces := #[]
  cf := some (fileOf pool1 9 #[] #[{ accessFlags := 1, nameIndex := 5, descriptorIndex := 6, attributes := #[] }, { accessFlags := 10, nameIndex := 12, descriptorIndex := 13, attributes := #[] }, { accessFlags := 9, nameIndex := 28, descriptorIndex := 29, attributes := #[] }] 49 2 #[] #[])
  fields := #[]
  methods := #[k1m0, k1m1, k1m2]
  instanceTypes := #[]
  staticTypes := #[]
  resolved := Array.replicate 32 none
  statics := none }

def pool2 : Array CpInfo := pool [(1, .class_ 2), (0, u "com/example/xrefloom/xrefloom/tree/CompactText"), (0, .methodref 4 5), (0, .class_ 6), (0, .nameAndType 7 8), (0, u "java/lang/Object"), (0, u "<init>"), (0, u "()V"), (0, .class_ 10), (0, u "[B"), (0, .fieldref 1 12), (0, .nameAndType 13 14), (0, u "narrow"), (0, u "[[B"), (0, .class_ 16), (0, u "[C"), (0, .fieldref 1 18), (0, .nameAndType 19 20), (0, u "wide"), (0, u "[[C"), (0, .fieldref 1 22), (0, .nameAndType 23 24), (0, u "length"), (0, u "I"), (0, .integer 65535), (9, u "charAt"), (0, u "(I)C"), (2, u "append"), (19, .methodref 1 60), (0, .nameAndType 61 62), (0, u "makeRoom"), (0, u "(II)V"), (0, .methodref 1 64), (0, .nameAndType 65 66), (0, u "widen"), (0, u "(I)[C"), (2, u "(C)V"), (12, .integer 65536), (6, u "PIECE_BITS"), (2, u "PIECE_SIZE"), (0, u "OFFSET_MASK"), (0, u "FIRST_PIECE_SIZE")] 10

def k2c0 : Code := { maxStack := 5, maxLocals := 1, code := prog_30_method_1_code, exceptionTable := #[], attributes := #[] }
def k2m0 : Method := { name := "<init>", desc := "()V", sig := { parameters := [], returnType := none }, accessFlags := 0, code := some k2c0 }
def k2c1 : Code := { maxStack := 2, maxLocals := 5, code := prog_30_method_3_code, exceptionTable := #[], attributes := #[] }
def k2m1 : Method := { name := "charAt", desc := "(I)C", sig := { parameters := [.int], returnType := some .char }, accessFlags := 0, code := some k2c1 }
def k2c2 : Code := { maxStack := 3, maxLocals := 5, code := prog_30_method_5_code, exceptionTable := #[], attributes := #[] }
def k2m2 : Method := { name := "append", desc := "(C)V", sig := { parameters := [.char], returnType := none }, accessFlags := 0, code := some k2c2 }
def k2c3 : Code := { maxStack := 5, maxLocals := 3, code := prog_30_method_9_code, exceptionTable := #[], attributes := #[] }
def k2m3 : Method := { name := "makeRoom", desc := "(II)V", sig := { parameters := [.int, .int], returnType := none }, accessFlags := 2, code := some k2c3 }
def k2c4 : Code := { maxStack := 4, maxLocals := 5, code := prog_30_method_10_code, exceptionTable := #[], attributes := #[] }
def k2m4 : Method := { name := "widen", desc := "(I)[C", sig := { parameters := [.int], returnType := some (.array .char) }, accessFlags := 2, code := some k2c4 }
/-- com/example/xrefloom/xrefloom/tree/CompactText -/
def k2 : Class := { plain "com/example/xrefloom/xrefloom/tree/CompactText" (some 0) with
  accessFlags := 48
  interfaces := #[]
  cf := some (fileOf pool2 1 #[] #[{ accessFlags := 0, nameIndex := 7, descriptorIndex := 8, attributes := #[] }, { accessFlags := 0, nameIndex := 35, descriptorIndex := 36, attributes := #[] }, { accessFlags := 0, nameIndex := 39, descriptorIndex := 69, attributes := #[] }, { accessFlags := 2, nameIndex := 61, descriptorIndex := 62, attributes := #[] }, { accessFlags := 2, nameIndex := 65, descriptorIndex := 66, attributes := #[] }] 48 4 #[] #[{ accessFlags := 26, nameIndex := 89, descriptorIndex := 24, attributes := #[] }, { accessFlags := 26, nameIndex := 92, descriptorIndex := 24, attributes := #[] }, { accessFlags := 26, nameIndex := 93, descriptorIndex := 24, attributes := #[] }, { accessFlags := 26, nameIndex := 94, descriptorIndex := 24, attributes := #[] }, { accessFlags := 2, nameIndex := 13, descriptorIndex := 14, attributes := #[] }, { accessFlags := 2, nameIndex := 19, descriptorIndex := 20, attributes := #[] }, { accessFlags := 2, nameIndex := 23, descriptorIndex := 24, attributes := #[] }])
  fields := #[{ name := "PIECE_BITS", type := .int, accessFlags := 26, slot := 0, constantValue := 0 }, { name := "PIECE_SIZE", type := .int, accessFlags := 26, slot := 1, constantValue := 0 }, { name := "OFFSET_MASK", type := .int, accessFlags := 26, slot := 2, constantValue := 0 }, { name := "FIRST_PIECE_SIZE", type := .int, accessFlags := 26, slot := 3, constantValue := 0 }, { name := "narrow", type := (.array (.array .byte)), accessFlags := 2, slot := 0, constantValue := 0 }, { name := "wide", type := (.array (.array .char)), accessFlags := 2, slot := 1, constantValue := 0 }, { name := "length", type := .int, accessFlags := 2, slot := 2, constantValue := 0 }]
  methods := #[k2m0, k2m1, k2m2, k2m3, k2m4]
  instanceTypes := #[(.array (.array .byte)), (.array (.array .char)), .int]
  staticTypes := #[.int, .int, .int, .int]
  resolved := Array.replicate 105 none
  statics := none }

def pool3 : Array CpInfo := pool [(1, u "java/lang/Cloneable"), (0, .class_ 1), (0, u "java/lang/Object"), (0, .class_ 3)] 3

/-- java/lang/Cloneable -/
def k3 : Class := { plain "java/lang/Cloneable" (some 0) with
  accessFlags := 1537
  interfaces := #[]
  cf := some (fileOf pool3 2 #[] #[] 1537 4 #[] #[])
  fields := #[]
  methods := #[]
  instanceTypes := #[]
  staticTypes := #[]
  resolved := Array.replicate 8 none
  statics := none }

def pool4 : Array CpInfo := pool [(1, u "java/io/Serializable"), (0, .class_ 1), (0, u "java/lang/Object"), (0, .class_ 3)] 3

/-- java/io/Serializable -/
def k4 : Class := { plain "java/io/Serializable" (some 0) with
  accessFlags := 1537
  interfaces := #[]
  cf := some (fileOf pool4 2 #[] #[] 1537 4 #[] #[])
  fields := #[]
  methods := #[]
  instanceTypes := #[]
  staticTypes := #[]
  resolved := Array.replicate 8 none
  statics := none }

/-- the primitive byte -/
def k5 : Class := { plain "byte" none with kind := .primitive 'B', accessFlags := 0x411 }
/-- [B -/
def k6 : Class := { plain "[B" (some 0) with kind := .array 5 .byte, interfaces := #[3, 4], accessFlags := 1041 }

/-- the primitive char -/
def k7 : Class := { plain "char" none with kind := .primitive 'C', accessFlags := 0x411 }
/-- [C -/
def k8 : Class := { plain "[C" (some 0) with kind := .array 7 .char, interfaces := #[3, 4], accessFlags := 1041 }

/-- the primitive int -/
def k9 : Class := { plain "int" none with kind := .primitive 'I', accessFlags := 0x411 }
/-- [I -/
def k10 : Class := { plain "[I" (some 0) with kind := .array 9 .int, interfaces := #[3, 4], accessFlags := 1041 }

/-- [[B -/
def k11 : Class := { plain "[[B" (some 0) with kind := .array 6 (.array .byte), interfaces := #[3, 4], accessFlags := 1041 }
/-- [[C -/
def k12 : Class := { plain "[[C" (some 0) with kind := .array 8 (.array .char), interfaces := #[3, 4], accessFlags := 1041 }
def heap : Heap := #[]
def classes : Array Class := #[k0, k1, k2, k3, k4, k5, k6, k7, k8, k9, k10, k11, k12]
def interned : List (Array UInt16 × Addr) := []
def slotsUsed : Nat := 0
def theMethod : MethodId := ⟨1, 2⟩
def args0 : Array Value := #[.int 5, .int 5, .int 5, .int 5]
def aboutOver (below : List Frame) : State where
  vm := { classes := classes, interned := interned.toArray }
  heap := heap
  slotsUsed := slotsUsed
  threads := #[{ frames := .invoking theMethod args0 :: below }]
def below0 : List Frame := [.native { method := ⟨0, 0⟩, args := #[] }]
def about1 : State := aboutOver below0
def p0 : Program := .bare "" "" ""
def e0 : Env := launch0.env 0 0 0
theorem w_frames : about1.frames = Frame.invoking theMethod args0 :: below0 := rfl
set_option maxRecDepth 65536 in
theorem w_args : argsFit about1.vm theMethod args0 = true := by decide +kernel
set_option maxRecDepth 65536 in
theorem w_heap : heapFits about1 = true := by decide +kernel
set_option maxRecDepth 65536 in
theorem w_runnable : about1.curStatus? = some .runnable := by decide +kernel
set_option maxRecDepth 65536 in
theorem w_alone : about1.alone = true := by decide +kernel
set_option maxRecDepth 65536 in
theorem w_named : about1.methodNamed? x = some theMethod := by decide +kernel
set_option maxRecDepth 65536 in
theorem w_hears : about1.hears theMethod below0 = true := by decide +kernel
set_option maxRecDepth 65536 in
theorem w_ripe : about1.ripe theMethod args0 below0 = true := by decide +kernel
theorem w_running : about1.status = .running := rfl
set_option maxRecDepth 65536 in
theorem w_room : about1.hasRoom e0.platform room_1 = true :=
  launch0.hasRoom_least _ room_1 (by decide +kernel) (by decide +kernel) (by decide +kernel) (by decide +kernel) (by decide +kernel) (by decide +kernel)
theorem allAtoms_all (ts : List Jvm.Cond) (a : Array Jvm.Value) (st : Jvm.State) : (allAtoms ts).before a st = ts.all (fun c => c.before a st) := by
  induction ts with
  | nil => rfl
  | cons c t ih =>
    show (Jvm.Cond.and c (allAtoms t)).before a st = _
    rw [Jvm.Cond.before_and, ih, List.all_cons]
def words1 : List Jvm.Cond := Jvm.Cond.code x code maxLocals ret :: tables_1
/-- a 'code' word, met by the world's own term for the bytes: nothing is compared byte by byte -/
theorem code_word {y : MethodName} {bytes : ByteArray} {mx : Nat} {rt : Option FieldType} {a : Array Value} {s : State} {m : MethodId} {meth : Method} {c : Code} (h1 : s.methodNamed? y = some m) (h2 : s.vm.method? m = some meth) (h3 : meth.code = some c) (h4 : c.code = bytes)
    (h5 : (c.maxLocals == mx && c.exceptionTable.isEmpty && decide (c.maxStack ≤ mostOperands) && decide (meth.sig.returnType = rt) && !meth.locks && decide (parseMethodDescriptor y.desc = some meth.sig)) = true) : (Jvm.Cond.code y bytes mx rt).before a s = true := by
  simp only [Bool.and_eq_true, beq_iff_eq, Bool.not_eq_true', decide_eq_true_eq] at h5
  obtain ⟨⟨⟨⟨⟨g1, g2⟩, g3⟩, g4⟩, g5⟩, g6⟩ := h5
  simp [Cond.before, Cond.holds, Cond.value, h1, h2, h3, h4, g1, g2, g3, g4, g5, g6]
def isCode : Jvm.Cond → Bool
  | .code _ _ _ _ => true
  | _ => false
theorem all_split {L : List Jvm.Cond} {P : Jvm.Cond → Bool} (h1 : L.all (fun c => isCode c || P c) = true) (h2 : ∀ c ∈ L.filter isCode, P c = true) : L.all P = true := by
  refine List.all_eq_true.mpr fun c hc => ?_
  have h := List.all_eq_true.mp h1 c hc
  rcases Bool.eq_false_or_eq_true (isCode c) with hi | hi
  · exact h2 c (List.mem_filter.mpr ⟨hc, hi⟩)
  · simpa [hi] using h
set_option maxRecDepth 65536 in
theorem w_c0 : (Jvm.Cond.code x code maxLocals ret).before args0 about1 = true := code_word (m := ⟨1, 2⟩) (meth := k1m2) (c := k1c2) (by decide +kernel) rfl rfl rfl (by decide +kernel)
set_option maxRecDepth 65536 in
theorem w_c1 : (Jvm.Cond.code ({ cls := "com/example/xrefloom/xrefloom/tree/CompactTextCharAtPinLaw", name := "draw", desc := "(IZ)C" } : Jvm.MethodName) method_2_code (2 : Nat) (Option.some Jvm.ClassFile.FieldType.char)).before args0 about1 = true := code_word (m := ⟨1, 1⟩) (meth := k1m1) (c := k1c1) (by decide +kernel) rfl rfl rfl (by decide +kernel)
set_option maxRecDepth 65536 in
theorem w_c2 : (Jvm.Cond.code ({ cls := "com/example/xrefloom/xrefloom/tree/CompactText", name := "<init>", desc := "()V" } : Jvm.MethodName) prog_30_method_1_code (1 : Nat) (Option.none : Option Jvm.ClassFile.FieldType)).before args0 about1 = true := code_word (m := ⟨2, 0⟩) (meth := k2m0) (c := k2c0) (by decide +kernel) rfl rfl rfl (by decide +kernel)
set_option maxRecDepth 65536 in
theorem w_c3 : (Jvm.Cond.code ({ cls := "java/lang/Object", name := "<init>", desc := "()V" } : Jvm.MethodName) object_method_1_code (1 : Nat) (Option.none : Option Jvm.ClassFile.FieldType)).before args0 about1 = true := code_word (m := ⟨0, 0⟩) (meth := k0m0) (c := k0c0) (by decide +kernel) rfl rfl rfl (by decide +kernel)
set_option maxRecDepth 65536 in
theorem w_c4 : (Jvm.Cond.code ({ cls := "com/example/xrefloom/xrefloom/tree/CompactText", name := "append", desc := "(C)V" } : Jvm.MethodName) prog_30_method_5_code (5 : Nat) (Option.none : Option Jvm.ClassFile.FieldType)).before args0 about1 = true := code_word (m := ⟨2, 2⟩) (meth := k2m2) (c := k2c2) (by decide +kernel) rfl rfl rfl (by decide +kernel)
set_option maxRecDepth 65536 in
theorem w_c5 : (Jvm.Cond.code ({ cls := "com/example/xrefloom/xrefloom/tree/CompactText", name := "makeRoom", desc := "(II)V" } : Jvm.MethodName) prog_30_method_9_code (3 : Nat) (Option.none : Option Jvm.ClassFile.FieldType)).before args0 about1 = true := code_word (m := ⟨2, 3⟩) (meth := k2m3) (c := k2c3) (by decide +kernel) rfl rfl rfl (by decide +kernel)
set_option maxRecDepth 65536 in
theorem w_c6 : (Jvm.Cond.code ({ cls := "com/example/xrefloom/xrefloom/tree/CompactText", name := "charAt", desc := "(I)C" } : Jvm.MethodName) prog_30_method_3_code (5 : Nat) (Option.some Jvm.ClassFile.FieldType.char)).before args0 about1 = true := code_word (m := ⟨2, 1⟩) (meth := k2m1) (c := k2c1) (by decide +kernel) rfl rfl rfl (by decide +kernel)
set_option maxRecDepth 65536 in
theorem w_c7 : (Jvm.Cond.code ({ cls := "com/example/xrefloom/xrefloom/tree/CompactText", name := "widen", desc := "(I)[C" } : Jvm.MethodName) prog_30_method_10_code (5 : Nat) (Option.some (Jvm.ClassFile.FieldType.array Jvm.ClassFile.FieldType.char))).before args0 about1 = true := code_word (m := ⟨2, 4⟩) (meth := k2m4) (c := k2c4) (by decide +kernel) rfl rfl rfl (by decide +kernel)
def codes1 : List Jvm.Cond := [Jvm.Cond.code x code maxLocals ret, Jvm.Cond.code ({ cls := "com/example/xrefloom/xrefloom/tree/CompactTextCharAtPinLaw", name := "draw", desc := "(IZ)C" } : Jvm.MethodName) method_2_code (2 : Nat) (Option.some Jvm.ClassFile.FieldType.char), Jvm.Cond.code ({ cls := "com/example/xrefloom/xrefloom/tree/CompactText", name := "<init>", desc := "()V" } : Jvm.MethodName) prog_30_method_1_code (1 : Nat) (Option.none : Option Jvm.ClassFile.FieldType), Jvm.Cond.code ({ cls := "java/lang/Object", name := "<init>", desc := "()V" } : Jvm.MethodName) object_method_1_code (1 : Nat) (Option.none : Option Jvm.ClassFile.FieldType), Jvm.Cond.code ({ cls := "com/example/xrefloom/xrefloom/tree/CompactText", name := "append", desc := "(C)V" } : Jvm.MethodName) prog_30_method_5_code (5 : Nat) (Option.none : Option Jvm.ClassFile.FieldType), Jvm.Cond.code ({ cls := "com/example/xrefloom/xrefloom/tree/CompactText", name := "makeRoom", desc := "(II)V" } : Jvm.MethodName) prog_30_method_9_code (3 : Nat) (Option.none : Option Jvm.ClassFile.FieldType), Jvm.Cond.code ({ cls := "com/example/xrefloom/xrefloom/tree/CompactText", name := "charAt", desc := "(I)C" } : Jvm.MethodName) prog_30_method_3_code (5 : Nat) (Option.some Jvm.ClassFile.FieldType.char), Jvm.Cond.code ({ cls := "com/example/xrefloom/xrefloom/tree/CompactText", name := "widen", desc := "(I)[C" } : Jvm.MethodName) prog_30_method_10_code (5 : Nat) (Option.some (Jvm.ClassFile.FieldType.array Jvm.ClassFile.FieldType.char))]
set_option maxRecDepth 65536 in
theorem codes_eq : words1.filter isCode = codes1 := rfl
theorem w_codes : ∀ c ∈ words1.filter isCode, c.before args0 about1 = true := by
  rw [codes_eq]
  intro c hc
  simp only [codes1, List.mem_cons, List.not_mem_nil, or_false] at hc
  rcases hc with rfl | rfl | rfl | rfl | rfl | rfl | rfl | rfl
  · exact w_c0
  · exact w_c1
  · exact w_c2
  · exact w_c3
  · exact w_c4
  · exact w_c5
  · exact w_c6
  · exact w_c7
set_option maxRecDepth 65536 in
theorem w_t1 : (words1.take 24).all (fun c => isCode c || c.before args0 about1) = true := by decide +kernel
set_option maxRecDepth 65536 in
theorem w_t2 : ((words1.drop 24).take 24).all (fun c => isCode c || c.before args0 about1) = true := by decide +kernel
set_option maxRecDepth 65536 in
theorem w_t3 : ((words1.drop 24).drop 24).all (fun c => isCode c || c.before args0 about1) = true := by decide +kernel
theorem w_tables : (allAtoms (Jvm.Cond.code x code maxLocals ret :: tables_1)).before args0 about1 = true := by
  rw [allAtoms_all]
  show words1.all (fun c => c.before args0 about1) = true
  refine all_split ?_ w_codes
  rw [← List.take_append_drop 24 words1, List.all_append, w_t1, ← List.take_append_drop 24 (words1.drop 24), List.all_append, w_t2, w_t3]
  rfl
set_option maxRecDepth 65536 in
theorem w_case : (Jvm.Cond.and given_1 narrow_1).before args0 about1 = true := by decide +kernel
theorem w_applies : (headSpec (Jvm.Cond.code x code maxLocals ret :: tables_1) room_1).applies x e0.platform about1 = true :=
  (Spec.applies_iff w_frames).mpr ⟨w_running, w_runnable, w_alone, w_named, w_hears, w_ripe, w_room, w_tables⟩
theorem atStart : AtStart classFile x code maxLocals ret World_1 tables_1 room_1 Calls_1 rest_1 Pre_1 launch0 p0 e0 about1 theMethod args0 below0 :=
  ⟨lists_1, trivial, launch0.admits_env _ _ _, launch0.least_env, fairChoices_fair.cas, fairChoices_fair.clock, w_frames, w_args, w_heap, w_applies, trivial, trivial, w_case⟩
end start1
theorem witness_1 : WitnessClaimed_1 := ⟨start1.p0, start1.e0, start1.about1, start1.theMethod, start1.args0, start1.below0, start1.atStart⟩
end Jvm.Pilot.@@N@@
