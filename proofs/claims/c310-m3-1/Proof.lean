import JvmDerived
import JvmDerived.Pilot.@@N@@Statement
import JvmDerived.Pilot.@@N@@Code
set_option linter.unusedVariables false
set_option linter.unusedSimpArgs false
namespace Jvm.Pilot.@@N@@
open Jvm Jvm.ClassFile Sem Op Lib Jvm.Free Jvm.Stand Jvm.LawKit Jvm.RoadKit Bundle Jvm.Pilot.@@N@@.Jvm.D
/-- the run from F ends, with an outcome and a state that Φ takes -/
def own_Goes (p : Program) (e : Env) (below : List Frame) (Φ : Outcome → State → Prop) (F : State) : Prop :=
  ∃ s₂ o, Steps p.tables e below F s₂ ∧ s₂.status = .running ∧ Ended s₂ below o ∧ Φ o s₂
theorem own_go {p : Program} {e : Env} {below : List Frame} {Φ : Outcome → State → Prop} {F G : State}
    (k : ∀ t, Steps p.tables e below G t → Steps p.tables e below F t) (h : own_Goes p e below Φ G) : own_Goes p e below Φ F := by
  obtain ⟨s₂, o, h1, h2⟩ := h
  exact ⟨s₂, o, k _ h1, h2⟩
/-- what a contract says of the end -/
def own_End (s : State) (Q : Option Value → Heap → List Loc → Prop) (k n : Nat) (o : Outcome) (U' : State) : Prop :=
  ∃ v L, o = .returned v ∧ Q v U'.heap L ∧ FrameEnd s o U' L k n
/-- a value is returned, the heap is as it was -/
def own_Same (w : Value) (h0 : Heap) (n0 : Nat) (v : Option Value) (h : Heap) (L : List Loc) : Prop := v = some w ∧ Fr n0 L ∧ h = h0
/-- nothing is returned, the heap is as it was -/
def own_SameV (h0 : Heap) (n0 : Nat) (v : Option Value) (h : Heap) (L : List Loc) : Prop := v = none ∧ Fr n0 L ∧ h = h0
section Own
variable {p : Program} {l : Launch} {e : Env} {R : Room} {s : State} {m : MethodId} {args : Array Value} {below : List Frame} {meth : Method} {c : Code} {T : State} {locs : List Loc} {cells slots : Nat}
theorem own_ret (X : Stand p l e R s m args below meth c T locs cells slots) (hx : p.tables.exec = Jvm.exec) {pc : Nat} {Ls : Array Slot} {w : Value} {t : FieldType} {i : Instr} {rest : List Value} (hret : meth.sig.returnType = some t) (hn : narrow t w = w)
    (hi : (i = .ireturn ∧ (t = .int ∨ t = .boolean ∨ t = .byte ∨ t = .char ∨ t = .short) ∧ ∃ z, w = .int z) ∨ (i = .lreturn ∧ t = .long ∧ ∃ z, w = .long z) ∨ (i = .dreturn ∧ t = .double ∧ ∃ z, w = .double z) ∨ (i = .freturn ∧ t = .float ∧ ∃ z, w = .float z) ∨ (i = .areturn ∧ t.isReference = true ∧ w.isRef = true))
    (hd : decode c.code pc = .ok (i, 1)) (hlk : meth.locks = false) {Q : Option Value → Heap → List Loc → Prop} {k n : Nat} (h1 : cells ≤ k) (h2 : slots ≤ n) (hQ : Q (some w) T.heap locs) :
    own_Goes p e below (own_End s Q k n) (T.setTop (mkF m pc Ls (w :: rest))) := by
  obtain ⟨fs, hr, hrun, hended, hW, hsame⟩ := X.leave (v := some w) (fun h => by rw [hret] at h; cases h) hlk
  exact ⟨_, _, retOut X hx hret hn hi hd hr, hrun, hended, _, _, rfl, hQ, ⟨_, rfl⟩, hW, hsame.mono h1 h2⟩
theorem own_retI (X : Stand p l e R s m args below meth c T locs cells slots) (hx : p.tables.exec = Jvm.exec) {pc : Nat} {Ls : Array Slot} {z : Int32} {rest : List Value} (hret : meth.sig.returnType = some .int)
    (hd : decode c.code pc = .ok (.ireturn, 1)) (hlk : meth.locks = false) {Q : Option Value → Heap → List Loc → Prop} {k n : Nat} (h1 : cells ≤ k) (h2 : slots ≤ n) (hQ : Q (some (.int z)) T.heap locs) :
    own_Goes p e below (own_End s Q k n) (T.setTop (mkF m pc Ls (.int z :: rest))) := own_ret X hx hret rfl (Or.inl ⟨rfl, Or.inl rfl, z, rfl⟩) hd hlk h1 h2 hQ
theorem own_retJ (X : Stand p l e R s m args below meth c T locs cells slots) (hx : p.tables.exec = Jvm.exec) {pc : Nat} {Ls : Array Slot} {z : Int64} {rest : List Value} (hret : meth.sig.returnType = some .long)
    (hd : decode c.code pc = .ok (.lreturn, 1)) (hlk : meth.locks = false) {Q : Option Value → Heap → List Loc → Prop} {k n : Nat} (h1 : cells ≤ k) (h2 : slots ≤ n) (hQ : Q (some (.long z)) T.heap locs) :
    own_Goes p e below (own_End s Q k n) (T.setTop (mkF m pc Ls (.long z :: rest))) := own_ret X hx hret rfl (Or.inr (Or.inl ⟨rfl, rfl, z, rfl⟩)) hd hlk h1 h2 hQ
theorem own_retB (X : Stand p l e R s m args below meth c T locs cells slots) (hx : p.tables.exec = Jvm.exec) {pc : Nat} {Ls : Array Slot} {z : Int32} {rest : List Value} (hret : meth.sig.returnType = some .boolean) (hz : z = 0 ∨ z = 1)
    (hd : decode c.code pc = .ok (.ireturn, 1)) (hlk : meth.locks = false) {Q : Option Value → Heap → List Loc → Prop} {k n : Nat} (h1 : cells ≤ k) (h2 : slots ≤ n) (hQ : Q (some (.int z)) T.heap locs) :
    own_Goes p e below (own_End s Q k n) (T.setTop (mkF m pc Ls (.int z :: rest))) := own_ret X hx hret (by rcases hz with rfl | rfl <;> rfl) (Or.inl ⟨rfl, Or.inr (Or.inl rfl), z, rfl⟩) hd hlk h1 h2 hQ
theorem own_ret1 (X : Stand p l e R s m args below meth c T locs cells slots) (hx : p.tables.exec = Jvm.exec) {pc : Nat} {Ls : Array Slot} {rest : List Value} (hret : meth.sig.returnType = some .boolean)
    (hd : decode c.code pc = .ok (.ireturn, 1)) (hlk : meth.locks = false) {Q : Option Value → Heap → List Loc → Prop} {k n : Nat} (h1 : cells ≤ k) (h2 : slots ≤ n) (hQ : Q (some (.int 1)) T.heap locs) :
    own_Goes p e below (own_End s Q k n) (T.setTop (mkF m pc Ls (.int 1 :: rest))) := own_retB X hx hret (Or.inr rfl) hd hlk h1 h2 hQ
theorem own_ret0 (X : Stand p l e R s m args below meth c T locs cells slots) (hx : p.tables.exec = Jvm.exec) {pc : Nat} {Ls : Array Slot} {rest : List Value} (hret : meth.sig.returnType = some .boolean)
    (hd : decode c.code pc = .ok (.ireturn, 1)) (hlk : meth.locks = false) {Q : Option Value → Heap → List Loc → Prop} {k n : Nat} (h1 : cells ≤ k) (h2 : slots ≤ n) (hQ : Q (some (.int 0)) T.heap locs) :
    own_Goes p e below (own_End s Q k n) (T.setTop (mkF m pc Ls (.int 0 :: rest))) := own_retB X hx hret (Or.inl rfl) hd hlk h1 h2 hQ
theorem own_retN (X : Stand p l e R s m args below meth c T locs cells slots) (hx : p.tables.exec = Jvm.exec) {pc : Nat} {Ls : Array Slot} {z : Int32} {t : FieldType} {rest : List Value} (hret : meth.sig.returnType = some t) (ht : t = .boolean ∨ t = .byte ∨ t = .char ∨ t = .short)
    (hd : decode c.code pc = .ok (.ireturn, 1)) (hlk : meth.locks = false) {Q : Option Value → Heap → List Loc → Prop} {k n : Nat} (h1 : cells ≤ k) (h2 : slots ≤ n) (hQ : Q (some (.int (nar t z))) T.heap locs) :
    own_Goes p e below (own_End s Q k n) (T.setTop (mkF m pc Ls (.int z :: rest))) := by
  obtain ⟨fs, hr, hrun, hended, hW, hsame⟩ := X.leave (v := some (.int (nar t z))) (fun h => by rw [hret] at h; cases h) hlk
  exact ⟨_, _, retN X hx hret ht hd hr, hrun, hended, _, _, rfl, hQ, ⟨_, rfl⟩, hW, hsame.mono h1 h2⟩
theorem own_retA (X : Stand p l e R s m args below meth c T locs cells slots) (hx : p.tables.exec = Jvm.exec) {pc : Nat} {Ls : Array Slot} {w : Value} {t : FieldType} {rest : List Value} (hret : meth.sig.returnType = some t) (ht : t.isReference = true) (hw : w.isRef = true)
    (hd : decode c.code pc = .ok (.areturn, 1)) (hlk : meth.locks = false) {Q : Option Value → Heap → List Loc → Prop} {k n : Nat} (h1 : cells ≤ k) (h2 : slots ≤ n) (hQ : Q (some w) T.heap locs) :
    own_Goes p e below (own_End s Q k n) (T.setTop (mkF m pc Ls (w :: rest))) := own_ret X hx hret (by cases t <;> first | rfl | cases ht) (Or.inr (Or.inr (Or.inr (Or.inr ⟨rfl, ht, hw⟩)))) hd hlk h1 h2 hQ
theorem own_retV (X : Stand p l e R s m args below meth c T locs cells slots) (hx : p.tables.exec = Jvm.exec) {pc : Nat} {Ls : Array Slot} (hret : meth.sig.returnType = none)
    (hd : decode c.code pc = .ok (.return_, 1)) (hlk : meth.locks = false) {Q : Option Value → Heap → List Loc → Prop} {k n : Nat} (h1 : cells ≤ k) (h2 : slots ≤ n) (hQ : Q none T.heap locs) :
    own_Goes p e below (own_End s Q k n) (T.setTop (mkF m pc Ls [])) := by
  obtain ⟨fs, hr, hrun, hended, hW, hsame⟩ := X.leave (v := none) (fun _ => rfl) hlk
  exact ⟨_, _, X.returnOut hx hret hd hr, hrun, hended, _, _, rfl, hQ, ⟨_, rfl⟩, hW, hsame.mono h1 h2⟩
end Own
/-- the law says true; nothing old is written -/
def own_True (n0 : Nat) (v : Option Value) (h : Heap) (L : List Loc) : Prop := v = some (.int 1) ∧ Fr n0 L
theorem own_i (x y : Int32) : (x = y ↔ x.toInt = y.toInt) ∧ (x < y ↔ x.toInt < y.toInt) ∧ (x ≤ y ↔ x.toInt ≤ y.toInt) := ⟨Int32.toInt_inj.symm, Int32.lt_iff_toInt_lt, Int32.le_iff_toInt_le⟩
theorem own_ie (x y : Int32) : x = y ↔ x.toInt = y.toInt := Int32.toInt_inj.symm
theorem own_le (x y : Int64) : x = y ↔ x.toInt = y.toInt := Int64.toInt_inj.symm
/-- an array of which the kind and the length alone are told -/
def own_A (Z : State) (h : Heap) (a : Addr) (ty : FieldType) (n : Int32) : Prop := ∃ c : Cell, Arr Z h a c ty ∧ c.slots.size = n.toNatClampNeg ∧ ¬ n < 0
section OwnA
variable {Z : State} {h h' : Heap} {a b : Addr} {ty : FieldType} {n : Int32} {sl : Nat} {v : Value} {ws : List Addr}
theorem own_A.lt (F : own_A Z h a ty n) : a < h.size := by obtain ⟨c, A, -⟩ := F; exact A.lt
theorem own_A.ext (F : own_A Z h a ty n) (E : Ext h h') : own_A Z h' a ty n := by obtain ⟨c, A, r⟩ := F; exact ⟨c, A.ext E, r⟩
theorem own_A.other (F : own_A Z h b ty n) (W : Wr h h' a sl v) (q : b ≠ a) : own_A Z h' b ty n := by obtain ⟨c, A, r⟩ := F; exact ⟨c, A.other W q, r⟩
theorem own_A.same (F : own_A Z h a ty n) (W : Wr h h' a sl v) : own_A Z h' a ty n := by
  obtain ⟨c, A, r1, r2⟩ := F
  exact ⟨_, A.same W, by rw [← r1]; simp [Cell.setSlot], r2⟩
theorem own_A.keep (F : own_A Z h a ty n) (K : Keep h h' ws) (q : a ∉ ws) : own_A Z h' a ty n := by obtain ⟨c, A, r⟩ := F; exact ⟨c, ⟨K.2.1 a c A.1 q, A.2⟩, r⟩
theorem own_A.of {k : ClassId} {vs : List Value} {d : Value} (F : Arv Z h a k ty n vs d) : own_A Z h a ty n := by obtain ⟨c, A, -, r1, r2, -⟩ := F; exact ⟨c, A, r1, r2⟩
end OwnA
theorem own_staKeep {Z : State} {h h' : Heap} {C n d : String} {v : Value} (F : Sta Z h C n d v) (K : Keep h h' []) : Sta Z h' C n d v := by
  obtain ⟨cf, i, k, f, st, cell, h1, h2, h3, h4, h5, r⟩ := F
  exact ⟨cf, i, k, f, st, cell, h1, h2, h3, h4, K.2.1 _ _ h5 nin0, r⟩
section OwnD
variable {tb : Tables} [Ours tb] {e : Env} {below : List Frame} {T target : State} {m : MethodId} {c : Code} {g : JFrame}
theorem own_dloadN (h : At T m c below) (hx : tb.exec = Jvm.exec) (hg : g.method = m) {k : Fin 4} {v : UInt64} (hd : decode c.code g.pc = .ok (.dload_n k, 1)) (hl : g.locals[k.val]? = some (.val (.double v)))
    (hr : Steps tb e below (T.setTop { g with pc := g.pc + 1, stack := .double v :: g.stack }) target) : Steps tb e below (T.setTop g) target := by
  subst hg
  jvm_step h [h.top, hx, hd, hl]
  exact hr
theorem own_dstoreN (h : At T m c below) (hx : tb.exec = Jvm.exec) (hg : g.method = m) {k : Fin 4} {x : UInt64} {rest : List Value} {l' : Array Slot} (hd : decode c.code g.pc = .ok (.dstore_n k, 1)) (hs : g.stack = .double x :: rest) (hl : storeLocals g.locals k.val (.double x) = some l')
    (hr : Steps tb e below (T.setTop { g with pc := g.pc + 1, locals := l', stack := rest }) target) : Steps tb e below (T.setTop g) target := by
  subst hg
  jvm_step h [h.top, hx, hd, hs, hl]
  exact hr
theorem own_d2i (h : At T m c below) (hx : tb.exec = Jvm.exec) (hg : g.method = m) {x : UInt64} {rest : List Value} (hd : decode c.code g.pc = .ok (.d2i, 1)) (hs : g.stack = .double x :: rest)
    (hr : Steps tb e below (T.setTop { g with pc := g.pc + 1, stack := .int (FP.d2i x) :: rest }) target) : Steps tb e below (T.setTop g) target := by
  subst hg
  jvm_step h [h.top, hx, hd, hs]
  exact hr
theorem own_i2d (h : At T m c below) (hx : tb.exec = Jvm.exec) (hg : g.method = m) {x : Int32} {rest : List Value} (hd : decode c.code g.pc = .ok (.i2d, 1)) (hs : g.stack = .int x :: rest)
    (hr : Steps tb e below (T.setTop { g with pc := g.pc + 1, stack := .double (FP.i2d x) :: rest }) target) : Steps tb e below (T.setTop g) target := by
  subst hg
  jvm_step h [h.top, hx, hd, hs]
  exact hr
theorem own_dcmp (h : At T m c below) (hx : tb.exec = Jvm.exec) (hg : g.method = m) {op : CmpOp} {x y : UInt64} {rest : List Value} (hd : decode c.code g.pc = .ok (.dcmp op, 1)) (hs : g.stack = .double y :: .double x :: rest)
    (hr : Steps tb e below (T.setTop { g with pc := g.pc + 1, stack := .int (cmpValue (FP.dcmp x y) op) :: rest }) target) : Steps tb e below (T.setTop g) target := by
  subst hg
  jvm_step h [h.top, hx, hd, dcmp.wp_sem, hs]
  exact hr
end OwnD
section OwnD2
variable {p : Program} {l : Launch} {e : Env} {R : Room} {s : State} {m : MethodId} {args : Array Value} {below : List Frame} {meth : Method} {c : Code} {T : State} {locs : List Loc} {cells slots : Nat}
theorem own_retD (X : Stand p l e R s m args below meth c T locs cells slots) (hx : p.tables.exec = Jvm.exec) {pc : Nat} {Ls : Array Slot} {z : UInt64} {rest : List Value} (hret : meth.sig.returnType = some .double)
    (hd : decode c.code pc = .ok (.dreturn, 1)) (hlk : meth.locks = false) {Q : Option Value → Heap → List Loc → Prop} {k n : Nat} (h1 : cells ≤ k) (h2 : slots ≤ n) (hQ : Q (some (.double z)) T.heap locs) :
    own_Goes p e below (own_End s Q k n) (T.setTop (mkF m pc Ls (.double z :: rest))) := own_ret X hx hret rfl (Or.inr (Or.inr (Or.inl ⟨rfl, rfl, z, rfl⟩))) hd hlk h1 h2 hQ
end OwnD2

theorem d1_0 : decode method_2_code 0 = .ok (.iload_n 0, 1) := by decide +kernel
theorem d1_1 : decode method_2_code 1 = .ok (.ifCond .ne 7, 3) := by decide +kernel
theorem d1_4 : decode method_2_code 4 = .ok (.getstatic 7, 3) := by decide +kernel
theorem d1_7 : decode method_2_code 7 = .ok (.areturn, 1) := by decide +kernel
theorem d1_8 : decode method_2_code 8 = .ok (.iload_n 0, 1) := by decide +kernel
theorem d1_9 : decode method_2_code 9 = .ok (.iconst 1, 1) := by decide +kernel
theorem d1_10 : decode method_2_code 10 = .ok (.if_icmp .ne 7, 3) := by decide +kernel
theorem d1_13 : decode method_2_code 13 = .ok (.getstatic 13, 3) := by decide +kernel
theorem d1_16 : decode method_2_code 16 = .ok (.areturn, 1) := by decide +kernel
theorem d1_17 : decode method_2_code 17 = .ok (.iload_n 0, 1) := by decide +kernel
theorem d1_18 : decode method_2_code 18 = .ok (.iconst 2, 1) := by decide +kernel
theorem d1_19 : decode method_2_code 19 = .ok (.if_icmp .ne 7, 3) := by decide +kernel
theorem d1_22 : decode method_2_code 22 = .ok (.getstatic 16, 3) := by decide +kernel
theorem d1_25 : decode method_2_code 25 = .ok (.areturn, 1) := by decide +kernel
theorem d1_26 : decode method_2_code 26 = .ok (.iload_n 0, 1) := by decide +kernel
theorem d1_27 : decode method_2_code 27 = .ok (.iconst 3, 1) := by decide +kernel
theorem d1_28 : decode method_2_code 28 = .ok (.if_icmp .ne 7, 3) := by decide +kernel
theorem d1_31 : decode method_2_code 31 = .ok (.getstatic 19, 3) := by decide +kernel
theorem d1_34 : decode method_2_code 34 = .ok (.areturn, 1) := by decide +kernel
theorem d1_35 : decode method_2_code 35 = .ok (.iload_n 0, 1) := by decide +kernel
theorem d1_36 : decode method_2_code 36 = .ok (.iconst 4, 1) := by decide +kernel
theorem d1_37 : decode method_2_code 37 = .ok (.if_icmp .ne 7, 3) := by decide +kernel
theorem d1_40 : decode method_2_code 40 = .ok (.getstatic 22, 3) := by decide +kernel
theorem d1_43 : decode method_2_code 43 = .ok (.areturn, 1) := by decide +kernel
theorem d1_44 : decode method_2_code 44 = .ok (.getstatic 25, 3) := by decide +kernel
theorem d1_47 : decode method_2_code 47 = .ok (.areturn, 1) := by decide +kernel
theorem pn1 : plainName "com/example/mave/mave/lang/TypeIsIntegralPinLaw" = true := by first | (simp [plainName, overriddenIn]; done) | decide +kernel
theorem ef_rm1 (m : MethodId) (p0 : Int32) : entryFrame m #[(.int p0)] 1 = mkF m 0 #[.val (.int p0)] [] := by first | (simp [entryFrame, mkF, argsToLocals, Value.category]; done) | rfl
def F1 (p0 : Int32) (s_BOOLEAN : Addr) (s_BYTE : Addr) (s_SHORT : Addr) (s_INT : Addr) (s_FLOAT : Addr) (s_REBEC : Addr) : Addr := (if p0 = (0 : Int32) then s_BOOLEAN else (if p0 = (1 : Int32) then s_BYTE else (if p0 = (2 : Int32) then s_SHORT else (if p0 = (3 : Int32) then s_INT else (if p0 = (4 : Int32) then s_FLOAT else s_REBEC)))))
set_option maxRecDepth 65536 in
set_option maxHeartbeats 40000000 in
theorem rm1 (l : Launch) (Z : State) (a0 : Array Value) (hw : ∀ d ∈ tables_1, d.before a0 Z = true) (ws : List Jvm.Cond) (p0 : Int32) (s_BOOLEAN : Addr) (s_BYTE : Addr) (s_SHORT : Addr) (s_INT : Addr) (s_FLOAT : Addr) (s_REBEC : Addr) (h0 : Heap) (n0 : Nat) (Z0 : n0 ≤ h0.size) (S_BOOLEAN : Sta Z h0 "com/example/mave/mave/lang/Type" "BOOLEAN" "Lcom/example/mave/mave/lang/Type;" (.ref s_BOOLEAN)) (S_BYTE : Sta Z h0 "com/example/mave/mave/lang/Type" "BYTE" "Lcom/example/mave/mave/lang/Type;" (.ref s_BYTE)) (S_SHORT : Sta Z h0 "com/example/mave/mave/lang/Type" "SHORT" "Lcom/example/mave/mave/lang/Type;" (.ref s_SHORT)) (S_INT : Sta Z h0 "com/example/mave/mave/lang/Type" "INT" "Lcom/example/mave/mave/lang/Type;" (.ref s_INT)) (S_FLOAT : Sta Z h0 "com/example/mave/mave/lang/Type" "FLOAT" "Lcom/example/mave/mave/lang/Type;" (.ref s_FLOAT)) (S_REBEC : Sta Z h0 "com/example/mave/mave/lang/Type" "REBEC" "Lcom/example/mave/mave/lang/Type;" (.ref s_REBEC)) :
    MetFree l (⟨"com/example/mave/mave/lang/TypeIsIntegralPinLaw", "pick", "(I)Lcom/example/mave/mave/lang/Type;"⟩ : MethodName) (head1 (Jvm.Cond.code (⟨"com/example/mave/mave/lang/TypeIsIntegralPinLaw", "pick", "(I)Lcom/example/mave/mave/lang/Type;"⟩ : MethodName) method_2_code 1 (some (.object "com/example/mave/mave/lang/Type")) :: ws) ({ frames := 0, cells := 0, slots := 0, locals := 0 } : Room)) (fun a U => a = #[(.int p0)] ∧ Z.Warmed39 U.vm ∧ U.heap = h0) (fun _ _ _ _ _ => True) (fun _ U o U' => ∃ v L, o = .returned v ∧ (own_Same (.ref (F1 p0 s_BOOLEAN s_BYTE s_SHORT s_INT s_FLOAT s_REBEC)) h0 n0) v U'.heap L ∧ FrameEnd U o U' L 0 0) := by
  refine MetFree.of_bodySF (plainFor_of_name pn1) hisR ?_
  intro p e s m args below meth c s₁ Bd hml0 hP hK
  obtain ⟨rfl, hZ, hh⟩ := hP
  have hx := Bd.exec
  have hby := Bd.bytes
  have hml : c.maxLocals = 1 := hml0
  have hown : s.vm.findClass "com/example/mave/mave/lang/TypeIsIntegralPinLaw" = some m.cls := findClass_of_methodNamed Bd.named
  have hnm := (name_of_methodNamed Bd.named Bd.method).1
  have X0 : Stand p l e ({ frames := 0, cells := 0, slots := 0, locals := 0 } : Room) s m #[(.int p0)] below meth c s₁ [] 0 0 := Stand.of_body Bd
  have e0 : s₁.heap = h0 := by rw [← hh, Bd.state]; rfl
  have N0 := Fr.nil n0
  show own_Goes p e below (own_End s (own_Same (.ref (F1 p0 s_BOOLEAN s_BYTE s_SHORT s_INT s_FLOAT s_REBEC)) h0 n0) 0 0) _
  refine own_go (G := s₁.setTop (mkF m 0 #[.val (.int p0)] [])) (fun t k => castTop (ef_rm1 m p0) k) ?_
  refine own_go (G := s₁.setTop (mkF m 1 #[.val (.int p0)] [(.int p0)])) (fun _ k => XS.iloadN X0.here hx rfl (hb hby d1_0) rfl k) ?_
  show own_Goes p e below (own_End s (own_Same (.ref (if p0 = (0 : Int32) then s_BOOLEAN else (if p0 = (1 : Int32) then s_BYTE else (if p0 = (2 : Int32) then s_SHORT else (if p0 = (3 : Int32) then s_INT else (if p0 = (4 : Int32) then s_FLOAT else s_REBEC)))))) h0 n0) 0 0) _
  by_cases hc1 : p0 = (0 : Int32)
  · rw [if_pos hc1]
    refine own_go (G := s₁.setTop (mkF m 4 #[.val (.int p0)] [])) (fun _ k => XS.ifNo X0.here hx rfl (hb hby d1_1) rfl ((if0 _ _).trans (teq hc1).2) k) ?_
    obtain ⟨T19, X19, e19, st19⟩ := getS2 X0 hx hZ hown (host := "") (Or.inl (hw _ (List.mem_of_getElem? (i := 5) rfl))) Via.refl e0 S_BOOLEAN (g := (mkF m 4 #[.val (.int p0)] [])) rfl (hb hby d1_4)
    refine own_go (G := T19.setTop (mkF m 7 #[.val (.int p0)] [(.ref s_BOOLEAN)])) (st19) ?_
    exact own_retA X19 hx Bd.returns rfl rfl (hb hby d1_7) Bd.notSynchronized (by decide) (by decide) ⟨rfl, N0, e19⟩
  · rw [if_neg hc1]
    refine own_go (G := s₁.setTop (mkF m 8 #[.val (.int p0)] [])) (fun _ k => XS.ifYes X0.here hx rfl (pc0 := 1) (pc' := 8) rfl (hb hby d1_1) rfl ((if0 _ _).trans (feq hc1).2) (by decide) (by decide) k) ?_
    refine own_go (G := s₁.setTop (mkF m 9 #[.val (.int p0)] [(.int p0)])) (fun _ k => XS.iloadN X0.here hx rfl (hb hby d1_8) rfl k) ?_
    refine own_go (G := s₁.setTop (mkF m 10 #[.val (.int p0)] [(.int (1 : Int32)), (.int p0)])) (fun _ k => XS.iconst X0.here hx rfl (hb hby d1_9) k) ?_
    show own_Goes p e below (own_End s (own_Same (.ref (if p0 = (1 : Int32) then s_BYTE else (if p0 = (2 : Int32) then s_SHORT else (if p0 = (3 : Int32) then s_INT else (if p0 = (4 : Int32) then s_FLOAT else s_REBEC))))) h0 n0) 0 0) _
    by_cases hc10 : p0 = (1 : Int32)
    · rw [if_pos hc10]
      refine own_go (G := s₁.setTop (mkF m 13 #[.val (.int p0)] [])) (fun _ k => XS.icmpNo X0.here hx rfl (hb hby d1_10) rfl (teq hc10).2 k) ?_
      obtain ⟨T25, X25, e25, st25⟩ := getS2 X0 hx hZ hown (host := "") (Or.inl (hw _ (List.mem_of_getElem? (i := 37) rfl))) Via.refl e0 S_BYTE (g := (mkF m 13 #[.val (.int p0)] [])) rfl (hb hby d1_13)
      refine own_go (G := T25.setTop (mkF m 16 #[.val (.int p0)] [(.ref s_BYTE)])) (st25) ?_
      exact own_retA X25 hx Bd.returns rfl rfl (hb hby d1_16) Bd.notSynchronized (by decide) (by decide) ⟨rfl, N0, e25⟩
    · rw [if_neg hc10]
      refine own_go (G := s₁.setTop (mkF m 17 #[.val (.int p0)] [])) (fun _ k => XS.icmpYes X0.here hx rfl (pc0 := 10) (pc' := 17) rfl (hb hby d1_10) rfl (feq hc10).2 (by decide) (by decide) k) ?_
      refine own_go (G := s₁.setTop (mkF m 18 #[.val (.int p0)] [(.int p0)])) (fun _ k => XS.iloadN X0.here hx rfl (hb hby d1_17) rfl k) ?_
      refine own_go (G := s₁.setTop (mkF m 19 #[.val (.int p0)] [(.int (2 : Int32)), (.int p0)])) (fun _ k => XS.iconst X0.here hx rfl (hb hby d1_18) k) ?_
      show own_Goes p e below (own_End s (own_Same (.ref (if p0 = (2 : Int32) then s_SHORT else (if p0 = (3 : Int32) then s_INT else (if p0 = (4 : Int32) then s_FLOAT else s_REBEC)))) h0 n0) 0 0) _
      by_cases hc19 : p0 = (2 : Int32)
      · rw [if_pos hc19]
        refine own_go (G := s₁.setTop (mkF m 22 #[.val (.int p0)] [])) (fun _ k => XS.icmpNo X0.here hx rfl (hb hby d1_19) rfl (teq hc19).2 k) ?_
        obtain ⟨T30, X30, e30, st30⟩ := getS2 X0 hx hZ hown (host := "") (Or.inl (hw _ (List.mem_of_getElem? (i := 36) rfl))) Via.refl e0 S_SHORT (g := (mkF m 22 #[.val (.int p0)] [])) rfl (hb hby d1_22)
        refine own_go (G := T30.setTop (mkF m 25 #[.val (.int p0)] [(.ref s_SHORT)])) (st30) ?_
        exact own_retA X30 hx Bd.returns rfl rfl (hb hby d1_25) Bd.notSynchronized (by decide) (by decide) ⟨rfl, N0, e30⟩
      · rw [if_neg hc19]
        refine own_go (G := s₁.setTop (mkF m 26 #[.val (.int p0)] [])) (fun _ k => XS.icmpYes X0.here hx rfl (pc0 := 19) (pc' := 26) rfl (hb hby d1_19) rfl (feq hc19).2 (by decide) (by decide) k) ?_
        refine own_go (G := s₁.setTop (mkF m 27 #[.val (.int p0)] [(.int p0)])) (fun _ k => XS.iloadN X0.here hx rfl (hb hby d1_26) rfl k) ?_
        refine own_go (G := s₁.setTop (mkF m 28 #[.val (.int p0)] [(.int (3 : Int32)), (.int p0)])) (fun _ k => XS.iconst X0.here hx rfl (hb hby d1_27) k) ?_
        show own_Goes p e below (own_End s (own_Same (.ref (if p0 = (3 : Int32) then s_INT else (if p0 = (4 : Int32) then s_FLOAT else s_REBEC))) h0 n0) 0 0) _
        by_cases hc28 : p0 = (3 : Int32)
        · rw [if_pos hc28]
          refine own_go (G := s₁.setTop (mkF m 31 #[.val (.int p0)] [])) (fun _ k => XS.icmpNo X0.here hx rfl (hb hby d1_28) rfl (teq hc28).2 k) ?_
          obtain ⟨T34, X34, e34, st34⟩ := getS2 X0 hx hZ hown (host := "") (Or.inl (hw _ (List.mem_of_getElem? (i := 19) rfl))) Via.refl e0 S_INT (g := (mkF m 31 #[.val (.int p0)] [])) rfl (hb hby d1_31)
          refine own_go (G := T34.setTop (mkF m 34 #[.val (.int p0)] [(.ref s_INT)])) (st34) ?_
          exact own_retA X34 hx Bd.returns rfl rfl (hb hby d1_34) Bd.notSynchronized (by decide) (by decide) ⟨rfl, N0, e34⟩
        · rw [if_neg hc28]
          refine own_go (G := s₁.setTop (mkF m 35 #[.val (.int p0)] [])) (fun _ k => XS.icmpYes X0.here hx rfl (pc0 := 28) (pc' := 35) rfl (hb hby d1_28) rfl (feq hc28).2 (by decide) (by decide) k) ?_
          refine own_go (G := s₁.setTop (mkF m 36 #[.val (.int p0)] [(.int p0)])) (fun _ k => XS.iloadN X0.here hx rfl (hb hby d1_35) rfl k) ?_
          refine own_go (G := s₁.setTop (mkF m 37 #[.val (.int p0)] [(.int (4 : Int32)), (.int p0)])) (fun _ k => XS.iconst X0.here hx rfl (hb hby d1_36) k) ?_
          show own_Goes p e below (own_End s (own_Same (.ref (if p0 = (4 : Int32) then s_FLOAT else s_REBEC)) h0 n0) 0 0) _
          by_cases hc37 : p0 = (4 : Int32)
          · rw [if_pos hc37]
            refine own_go (G := s₁.setTop (mkF m 40 #[.val (.int p0)] [])) (fun _ k => XS.icmpNo X0.here hx rfl (hb hby d1_37) rfl (teq hc37).2 k) ?_
            obtain ⟨T37, X37, e37, st37⟩ := getS2 X0 hx hZ hown (host := "") (Or.inl (hw _ (List.mem_of_getElem? (i := 40) rfl))) Via.refl e0 S_FLOAT (g := (mkF m 40 #[.val (.int p0)] [])) rfl (hb hby d1_40)
            refine own_go (G := T37.setTop (mkF m 43 #[.val (.int p0)] [(.ref s_FLOAT)])) (st37) ?_
            exact own_retA X37 hx Bd.returns rfl rfl (hb hby d1_43) Bd.notSynchronized (by decide) (by decide) ⟨rfl, N0, e37⟩
          · rw [if_neg hc37]
            refine own_go (G := s₁.setTop (mkF m 44 #[.val (.int p0)] [])) (fun _ k => XS.icmpYes X0.here hx rfl (pc0 := 37) (pc' := 44) rfl (hb hby d1_37) rfl (feq hc37).2 (by decide) (by decide) k) ?_
            obtain ⟨T38, X38, e38, st38⟩ := getS2 X0 hx hZ hown (host := "") (Or.inl (hw _ (List.mem_of_getElem? (i := 38) rfl))) Via.refl e0 S_REBEC (g := (mkF m 44 #[.val (.int p0)] [])) rfl (hb hby d1_44)
            refine own_go (G := T38.setTop (mkF m 47 #[.val (.int p0)] [(.ref s_REBEC)])) (st38) ?_
            exact own_retA X38 hx Bd.returns rfl rfl (hb hby d1_47) Bd.notSynchronized (by decide) (by decide) ⟨rfl, N0, e38⟩
theorem d2_0 : decode prog_169_method_6_code 0 = .ok (.aload_n 0, 1) := by decide +kernel
theorem d2_1 : decode prog_169_method_6_code 1 = .ok (.getstatic 7, 3) := by decide +kernel
theorem d2_4 : decode prog_169_method_6_code 4 = .ok (.if_acmp .eq 17, 3) := by decide +kernel
theorem d2_7 : decode prog_169_method_6_code 7 = .ok (.aload_n 0, 1) := by decide +kernel
theorem d2_8 : decode prog_169_method_6_code 8 = .ok (.getstatic 10, 3) := by decide +kernel
theorem d2_11 : decode prog_169_method_6_code 11 = .ok (.if_acmp .eq 10, 3) := by decide +kernel
theorem d2_14 : decode prog_169_method_6_code 14 = .ok (.aload_n 0, 1) := by decide +kernel
theorem d2_15 : decode prog_169_method_6_code 15 = .ok (.getstatic 13, 3) := by decide +kernel
theorem d2_18 : decode prog_169_method_6_code 18 = .ok (.if_acmp .ne 7, 3) := by decide +kernel
theorem d2_25 : decode prog_169_method_6_code 25 = .ok (.iconst 0, 1) := by decide +kernel
theorem d2_26 : decode prog_169_method_6_code 26 = .ok (.ireturn, 1) := by decide +kernel
theorem pn2 : plainName "com/example/mave/mave/lang/Type" = true := by first | (simp [plainName, overriddenIn]; done) | decide +kernel
theorem ef_ii_BOOLEAN (m : MethodId) (s_BOOLEAN : Addr) : entryFrame m #[(.ref s_BOOLEAN)] 1 = mkF m 0 #[.val (.ref s_BOOLEAN)] [] := by first | (simp [entryFrame, mkF, argsToLocals, Value.category]; done) | rfl
set_option maxRecDepth 65536 in
set_option maxHeartbeats 40000000 in
theorem ii_BOOLEAN (l : Launch) (Z : State) (a0 : Array Value) (hw : ∀ d ∈ tables_1, d.before a0 Z = true) (ws : List Jvm.Cond) (s_BOOLEAN : Addr) (s_BYTE : Addr) (s_SHORT : Addr) (s_INT : Addr) (h0 : Heap) (n0 : Nat) (Z0 : n0 ≤ h0.size) (S_BYTE : Sta Z h0 "com/example/mave/mave/lang/Type" "BYTE" "Lcom/example/mave/mave/lang/Type;" (.ref s_BYTE)) (S_SHORT : Sta Z h0 "com/example/mave/mave/lang/Type" "SHORT" "Lcom/example/mave/mave/lang/Type;" (.ref s_SHORT)) (S_INT : Sta Z h0 "com/example/mave/mave/lang/Type" "INT" "Lcom/example/mave/mave/lang/Type;" (.ref s_INT)) (n_BOOLEAN_BYTE : s_BOOLEAN ≠ s_BYTE) (n_BOOLEAN_SHORT : s_BOOLEAN ≠ s_SHORT) (n_BOOLEAN_INT : s_BOOLEAN ≠ s_INT) :
    MetFree l (⟨"com/example/mave/mave/lang/Type", "isIntegral", "()Z"⟩ : MethodName) (head1 (Jvm.Cond.code (⟨"com/example/mave/mave/lang/Type", "isIntegral", "()Z"⟩ : MethodName) prog_169_method_6_code 1 (some .boolean) :: ws) ({ frames := 0, cells := 0, slots := 0, locals := 0 } : Room)) (fun a U => a = #[(.ref s_BOOLEAN)] ∧ Z.Warmed39 U.vm ∧ U.heap = h0) (fun _ _ _ _ _ => True) (fun _ U o U' => ∃ v L, o = .returned v ∧ (own_Same (.int (0 : Int32)) h0 n0) v U'.heap L ∧ FrameEnd U o U' L 0 0) := by
  refine MetFree.of_bodySF (plainFor_of_name pn2) hisR ?_
  intro p e s m args below meth c s₁ Bd hml0 hP hK
  obtain ⟨rfl, hZ, hh⟩ := hP
  have hx := Bd.exec
  have hby := Bd.bytes
  have hml : c.maxLocals = 1 := hml0
  have hown : s.vm.findClass "com/example/mave/mave/lang/Type" = some m.cls := findClass_of_methodNamed Bd.named
  have hnm := (name_of_methodNamed Bd.named Bd.method).1
  have X0 : Stand p l e ({ frames := 0, cells := 0, slots := 0, locals := 0 } : Room) s m #[(.ref s_BOOLEAN)] below meth c s₁ [] 0 0 := Stand.of_body Bd
  have e0 : s₁.heap = h0 := by rw [← hh, Bd.state]; rfl
  have N0 := Fr.nil n0
  show own_Goes p e below (own_End s (own_Same (.int (0 : Int32)) h0 n0) 0 0) _
  refine own_go (G := s₁.setTop (mkF m 0 #[.val (.ref s_BOOLEAN)] [])) (fun t k => castTop (ef_ii_BOOLEAN m s_BOOLEAN) k) ?_
  refine own_go (G := s₁.setTop (mkF m 1 #[.val (.ref s_BOOLEAN)] [(.ref s_BOOLEAN)])) (fun _ k => XS.aloadN X0.here hx rfl (hb hby d2_0) rfl rfl k) ?_
  obtain ⟨T1, X1, e1, st1⟩ := getS2 X0 hx hZ hown (host := "") (Or.inl (hw _ (List.mem_of_getElem? (i := 13) rfl))) Via.refl e0 S_BYTE (g := (mkF m 1 #[.val (.ref s_BOOLEAN)] [(.ref s_BOOLEAN)])) rfl (hb hby d2_1)
  refine own_go (G := T1.setTop (mkF m 4 #[.val (.ref s_BOOLEAN)] [(.ref s_BYTE), (.ref s_BOOLEAN)])) (st1) ?_
  refine own_go (G := T1.setTop (mkF m 7 #[.val (.ref s_BOOLEAN)] [])) (fun _ k => Jvm.RoadKit.acmp (g := (mkF m 4 #[.val (.ref s_BOOLEAN)] [(.ref s_BYTE), (.ref s_BOOLEAN)])) X1 hx rfl rfl rfl (pc0 := 4) (pc' := 7) (same := false) rfl (hb hby d2_4) rfl (decide_eq_false fun q => n_BOOLEAN_BYTE (Value.ref.inj q)) (by decide) (by decide) k) ?_
  refine own_go (G := T1.setTop (mkF m 8 #[.val (.ref s_BOOLEAN)] [(.ref s_BOOLEAN)])) (fun _ k => XS.aloadN X1.here hx rfl (hb hby d2_7) rfl rfl k) ?_
  obtain ⟨T2, X2, e2, st2⟩ := getS2 X1 hx hZ hown (host := "") (Or.inl (hw _ (List.mem_of_getElem? (i := 15) rfl))) Via.refl e1 S_SHORT (g := (mkF m 8 #[.val (.ref s_BOOLEAN)] [(.ref s_BOOLEAN)])) rfl (hb hby d2_8)
  refine own_go (G := T2.setTop (mkF m 11 #[.val (.ref s_BOOLEAN)] [(.ref s_SHORT), (.ref s_BOOLEAN)])) (st2) ?_
  refine own_go (G := T2.setTop (mkF m 14 #[.val (.ref s_BOOLEAN)] [])) (fun _ k => Jvm.RoadKit.acmp (g := (mkF m 11 #[.val (.ref s_BOOLEAN)] [(.ref s_SHORT), (.ref s_BOOLEAN)])) X2 hx rfl rfl rfl (pc0 := 11) (pc' := 14) (same := false) rfl (hb hby d2_11) rfl (decide_eq_false fun q => n_BOOLEAN_SHORT (Value.ref.inj q)) (by decide) (by decide) k) ?_
  refine own_go (G := T2.setTop (mkF m 15 #[.val (.ref s_BOOLEAN)] [(.ref s_BOOLEAN)])) (fun _ k => XS.aloadN X2.here hx rfl (hb hby d2_14) rfl rfl k) ?_
  obtain ⟨T3, X3, e3, st3⟩ := getS2 X2 hx hZ hown (host := "") (Or.inl (hw _ (List.mem_of_getElem? (i := 17) rfl))) Via.refl e2 S_INT (g := (mkF m 15 #[.val (.ref s_BOOLEAN)] [(.ref s_BOOLEAN)])) rfl (hb hby d2_15)
  refine own_go (G := T3.setTop (mkF m 18 #[.val (.ref s_BOOLEAN)] [(.ref s_INT), (.ref s_BOOLEAN)])) (st3) ?_
  refine own_go (G := T3.setTop (mkF m 25 #[.val (.ref s_BOOLEAN)] [])) (fun _ k => Jvm.RoadKit.acmp (g := (mkF m 18 #[.val (.ref s_BOOLEAN)] [(.ref s_INT), (.ref s_BOOLEAN)])) X3 hx rfl rfl rfl (pc0 := 18) (pc' := 25) (same := false) rfl (hb hby d2_18) rfl (decide_eq_false fun q => n_BOOLEAN_INT (Value.ref.inj q)) (by decide) (by decide) k) ?_
  refine own_go (G := T3.setTop (mkF m 26 #[.val (.ref s_BOOLEAN)] [(.int (0 : Int32))])) (fun _ k => XS.iconst X3.here hx rfl (hb hby d2_25) k) ?_
  exact own_ret0 X3 hx Bd.returns (hb hby d2_26) Bd.notSynchronized (by decide) (by decide) ⟨rfl, N0, e3⟩
theorem d2_21 : decode prog_169_method_6_code 21 = .ok (.iconst 1, 1) := by decide +kernel
theorem d2_22 : decode prog_169_method_6_code 22 = .ok (.goto 4, 3) := by decide +kernel
theorem ef_ii_BYTE (m : MethodId) (s_BYTE : Addr) : entryFrame m #[(.ref s_BYTE)] 1 = mkF m 0 #[.val (.ref s_BYTE)] [] := by first | (simp [entryFrame, mkF, argsToLocals, Value.category]; done) | rfl
set_option maxRecDepth 65536 in
set_option maxHeartbeats 40000000 in
theorem ii_BYTE (l : Launch) (Z : State) (a0 : Array Value) (hw : ∀ d ∈ tables_1, d.before a0 Z = true) (ws : List Jvm.Cond) (s_BYTE : Addr) (s_SHORT : Addr) (s_INT : Addr) (h0 : Heap) (n0 : Nat) (Z0 : n0 ≤ h0.size) (S_BYTE : Sta Z h0 "com/example/mave/mave/lang/Type" "BYTE" "Lcom/example/mave/mave/lang/Type;" (.ref s_BYTE)) (S_SHORT : Sta Z h0 "com/example/mave/mave/lang/Type" "SHORT" "Lcom/example/mave/mave/lang/Type;" (.ref s_SHORT)) (S_INT : Sta Z h0 "com/example/mave/mave/lang/Type" "INT" "Lcom/example/mave/mave/lang/Type;" (.ref s_INT)) (n_BYTE_SHORT : s_BYTE ≠ s_SHORT) (n_BYTE_INT : s_BYTE ≠ s_INT) :
    MetFree l (⟨"com/example/mave/mave/lang/Type", "isIntegral", "()Z"⟩ : MethodName) (head1 (Jvm.Cond.code (⟨"com/example/mave/mave/lang/Type", "isIntegral", "()Z"⟩ : MethodName) prog_169_method_6_code 1 (some .boolean) :: ws) ({ frames := 0, cells := 0, slots := 0, locals := 0 } : Room)) (fun a U => a = #[(.ref s_BYTE)] ∧ Z.Warmed39 U.vm ∧ U.heap = h0) (fun _ _ _ _ _ => True) (fun _ U o U' => ∃ v L, o = .returned v ∧ (own_Same (.int (1 : Int32)) h0 n0) v U'.heap L ∧ FrameEnd U o U' L 0 0) := by
  refine MetFree.of_bodySF (plainFor_of_name pn2) hisR ?_
  intro p e s m args below meth c s₁ Bd hml0 hP hK
  obtain ⟨rfl, hZ, hh⟩ := hP
  have hx := Bd.exec
  have hby := Bd.bytes
  have hml : c.maxLocals = 1 := hml0
  have hown : s.vm.findClass "com/example/mave/mave/lang/Type" = some m.cls := findClass_of_methodNamed Bd.named
  have hnm := (name_of_methodNamed Bd.named Bd.method).1
  have X0 : Stand p l e ({ frames := 0, cells := 0, slots := 0, locals := 0 } : Room) s m #[(.ref s_BYTE)] below meth c s₁ [] 0 0 := Stand.of_body Bd
  have e0 : s₁.heap = h0 := by rw [← hh, Bd.state]; rfl
  have N0 := Fr.nil n0
  show own_Goes p e below (own_End s (own_Same (.int (1 : Int32)) h0 n0) 0 0) _
  refine own_go (G := s₁.setTop (mkF m 0 #[.val (.ref s_BYTE)] [])) (fun t k => castTop (ef_ii_BYTE m s_BYTE) k) ?_
  refine own_go (G := s₁.setTop (mkF m 1 #[.val (.ref s_BYTE)] [(.ref s_BYTE)])) (fun _ k => XS.aloadN X0.here hx rfl (hb hby d2_0) rfl rfl k) ?_
  obtain ⟨T1, X1, e1, st1⟩ := getS2 X0 hx hZ hown (host := "") (Or.inl (hw _ (List.mem_of_getElem? (i := 13) rfl))) Via.refl e0 S_BYTE (g := (mkF m 1 #[.val (.ref s_BYTE)] [(.ref s_BYTE)])) rfl (hb hby d2_1)
  refine own_go (G := T1.setTop (mkF m 4 #[.val (.ref s_BYTE)] [(.ref s_BYTE), (.ref s_BYTE)])) (st1) ?_
  refine own_go (G := T1.setTop (mkF m 21 #[.val (.ref s_BYTE)] [])) (fun _ k => Jvm.RoadKit.acmp (g := (mkF m 4 #[.val (.ref s_BYTE)] [(.ref s_BYTE), (.ref s_BYTE)])) X1 hx rfl rfl rfl (pc0 := 4) (pc' := 21) (same := true) rfl (hb hby d2_4) rfl (decide_eq_true rfl) (by decide) (by decide) k) ?_
  refine own_go (G := T1.setTop (mkF m 22 #[.val (.ref s_BYTE)] [(.int (1 : Int32))])) (fun _ k => XS.iconst X1.here hx rfl (hb hby d2_21) k) ?_
  refine own_go (G := T1.setTop (mkF m 26 #[.val (.ref s_BYTE)] [(.int (1 : Int32))])) (fun _ k => XS.goto X1.here hx rfl (pc0 := 22) (pc' := 26) rfl (hb hby d2_22) (by decide) (by decide) k) ?_
  exact own_ret1 X1 hx Bd.returns (hb hby d2_26) Bd.notSynchronized (by decide) (by decide) ⟨rfl, N0, e1⟩
theorem ef_ii_SHORT (m : MethodId) (s_SHORT : Addr) : entryFrame m #[(.ref s_SHORT)] 1 = mkF m 0 #[.val (.ref s_SHORT)] [] := by first | (simp [entryFrame, mkF, argsToLocals, Value.category]; done) | rfl
set_option maxRecDepth 65536 in
set_option maxHeartbeats 40000000 in
theorem ii_SHORT (l : Launch) (Z : State) (a0 : Array Value) (hw : ∀ d ∈ tables_1, d.before a0 Z = true) (ws : List Jvm.Cond) (s_SHORT : Addr) (s_BYTE : Addr) (s_INT : Addr) (h0 : Heap) (n0 : Nat) (Z0 : n0 ≤ h0.size) (S_BYTE : Sta Z h0 "com/example/mave/mave/lang/Type" "BYTE" "Lcom/example/mave/mave/lang/Type;" (.ref s_BYTE)) (S_SHORT : Sta Z h0 "com/example/mave/mave/lang/Type" "SHORT" "Lcom/example/mave/mave/lang/Type;" (.ref s_SHORT)) (S_INT : Sta Z h0 "com/example/mave/mave/lang/Type" "INT" "Lcom/example/mave/mave/lang/Type;" (.ref s_INT)) (n_BYTE_SHORT : s_BYTE ≠ s_SHORT) (n_SHORT_INT : s_SHORT ≠ s_INT) :
    MetFree l (⟨"com/example/mave/mave/lang/Type", "isIntegral", "()Z"⟩ : MethodName) (head1 (Jvm.Cond.code (⟨"com/example/mave/mave/lang/Type", "isIntegral", "()Z"⟩ : MethodName) prog_169_method_6_code 1 (some .boolean) :: ws) ({ frames := 0, cells := 0, slots := 0, locals := 0 } : Room)) (fun a U => a = #[(.ref s_SHORT)] ∧ Z.Warmed39 U.vm ∧ U.heap = h0) (fun _ _ _ _ _ => True) (fun _ U o U' => ∃ v L, o = .returned v ∧ (own_Same (.int (1 : Int32)) h0 n0) v U'.heap L ∧ FrameEnd U o U' L 0 0) := by
  refine MetFree.of_bodySF (plainFor_of_name pn2) hisR ?_
  intro p e s m args below meth c s₁ Bd hml0 hP hK
  obtain ⟨rfl, hZ, hh⟩ := hP
  have hx := Bd.exec
  have hby := Bd.bytes
  have hml : c.maxLocals = 1 := hml0
  have hown : s.vm.findClass "com/example/mave/mave/lang/Type" = some m.cls := findClass_of_methodNamed Bd.named
  have hnm := (name_of_methodNamed Bd.named Bd.method).1
  have X0 : Stand p l e ({ frames := 0, cells := 0, slots := 0, locals := 0 } : Room) s m #[(.ref s_SHORT)] below meth c s₁ [] 0 0 := Stand.of_body Bd
  have e0 : s₁.heap = h0 := by rw [← hh, Bd.state]; rfl
  have N0 := Fr.nil n0
  show own_Goes p e below (own_End s (own_Same (.int (1 : Int32)) h0 n0) 0 0) _
  refine own_go (G := s₁.setTop (mkF m 0 #[.val (.ref s_SHORT)] [])) (fun t k => castTop (ef_ii_SHORT m s_SHORT) k) ?_
  refine own_go (G := s₁.setTop (mkF m 1 #[.val (.ref s_SHORT)] [(.ref s_SHORT)])) (fun _ k => XS.aloadN X0.here hx rfl (hb hby d2_0) rfl rfl k) ?_
  obtain ⟨T1, X1, e1, st1⟩ := getS2 X0 hx hZ hown (host := "") (Or.inl (hw _ (List.mem_of_getElem? (i := 13) rfl))) Via.refl e0 S_BYTE (g := (mkF m 1 #[.val (.ref s_SHORT)] [(.ref s_SHORT)])) rfl (hb hby d2_1)
  refine own_go (G := T1.setTop (mkF m 4 #[.val (.ref s_SHORT)] [(.ref s_BYTE), (.ref s_SHORT)])) (st1) ?_
  refine own_go (G := T1.setTop (mkF m 7 #[.val (.ref s_SHORT)] [])) (fun _ k => Jvm.RoadKit.acmp (g := (mkF m 4 #[.val (.ref s_SHORT)] [(.ref s_BYTE), (.ref s_SHORT)])) X1 hx rfl rfl rfl (pc0 := 4) (pc' := 7) (same := false) rfl (hb hby d2_4) rfl (decide_eq_false fun q => (Ne.symm n_BYTE_SHORT) (Value.ref.inj q)) (by decide) (by decide) k) ?_
  refine own_go (G := T1.setTop (mkF m 8 #[.val (.ref s_SHORT)] [(.ref s_SHORT)])) (fun _ k => XS.aloadN X1.here hx rfl (hb hby d2_7) rfl rfl k) ?_
  obtain ⟨T2, X2, e2, st2⟩ := getS2 X1 hx hZ hown (host := "") (Or.inl (hw _ (List.mem_of_getElem? (i := 15) rfl))) Via.refl e1 S_SHORT (g := (mkF m 8 #[.val (.ref s_SHORT)] [(.ref s_SHORT)])) rfl (hb hby d2_8)
  refine own_go (G := T2.setTop (mkF m 11 #[.val (.ref s_SHORT)] [(.ref s_SHORT), (.ref s_SHORT)])) (st2) ?_
  refine own_go (G := T2.setTop (mkF m 21 #[.val (.ref s_SHORT)] [])) (fun _ k => Jvm.RoadKit.acmp (g := (mkF m 11 #[.val (.ref s_SHORT)] [(.ref s_SHORT), (.ref s_SHORT)])) X2 hx rfl rfl rfl (pc0 := 11) (pc' := 21) (same := true) rfl (hb hby d2_11) rfl (decide_eq_true rfl) (by decide) (by decide) k) ?_
  refine own_go (G := T2.setTop (mkF m 22 #[.val (.ref s_SHORT)] [(.int (1 : Int32))])) (fun _ k => XS.iconst X2.here hx rfl (hb hby d2_21) k) ?_
  refine own_go (G := T2.setTop (mkF m 26 #[.val (.ref s_SHORT)] [(.int (1 : Int32))])) (fun _ k => XS.goto X2.here hx rfl (pc0 := 22) (pc' := 26) rfl (hb hby d2_22) (by decide) (by decide) k) ?_
  exact own_ret1 X2 hx Bd.returns (hb hby d2_26) Bd.notSynchronized (by decide) (by decide) ⟨rfl, N0, e2⟩
theorem ef_ii_INT (m : MethodId) (s_INT : Addr) : entryFrame m #[(.ref s_INT)] 1 = mkF m 0 #[.val (.ref s_INT)] [] := by first | (simp [entryFrame, mkF, argsToLocals, Value.category]; done) | rfl
set_option maxRecDepth 65536 in
set_option maxHeartbeats 40000000 in
theorem ii_INT (l : Launch) (Z : State) (a0 : Array Value) (hw : ∀ d ∈ tables_1, d.before a0 Z = true) (ws : List Jvm.Cond) (s_INT : Addr) (s_BYTE : Addr) (s_SHORT : Addr) (h0 : Heap) (n0 : Nat) (Z0 : n0 ≤ h0.size) (S_BYTE : Sta Z h0 "com/example/mave/mave/lang/Type" "BYTE" "Lcom/example/mave/mave/lang/Type;" (.ref s_BYTE)) (S_SHORT : Sta Z h0 "com/example/mave/mave/lang/Type" "SHORT" "Lcom/example/mave/mave/lang/Type;" (.ref s_SHORT)) (S_INT : Sta Z h0 "com/example/mave/mave/lang/Type" "INT" "Lcom/example/mave/mave/lang/Type;" (.ref s_INT)) (n_BYTE_INT : s_BYTE ≠ s_INT) (n_SHORT_INT : s_SHORT ≠ s_INT) :
    MetFree l (⟨"com/example/mave/mave/lang/Type", "isIntegral", "()Z"⟩ : MethodName) (head1 (Jvm.Cond.code (⟨"com/example/mave/mave/lang/Type", "isIntegral", "()Z"⟩ : MethodName) prog_169_method_6_code 1 (some .boolean) :: ws) ({ frames := 0, cells := 0, slots := 0, locals := 0 } : Room)) (fun a U => a = #[(.ref s_INT)] ∧ Z.Warmed39 U.vm ∧ U.heap = h0) (fun _ _ _ _ _ => True) (fun _ U o U' => ∃ v L, o = .returned v ∧ (own_Same (.int (1 : Int32)) h0 n0) v U'.heap L ∧ FrameEnd U o U' L 0 0) := by
  refine MetFree.of_bodySF (plainFor_of_name pn2) hisR ?_
  intro p e s m args below meth c s₁ Bd hml0 hP hK
  obtain ⟨rfl, hZ, hh⟩ := hP
  have hx := Bd.exec
  have hby := Bd.bytes
  have hml : c.maxLocals = 1 := hml0
  have hown : s.vm.findClass "com/example/mave/mave/lang/Type" = some m.cls := findClass_of_methodNamed Bd.named
  have hnm := (name_of_methodNamed Bd.named Bd.method).1
  have X0 : Stand p l e ({ frames := 0, cells := 0, slots := 0, locals := 0 } : Room) s m #[(.ref s_INT)] below meth c s₁ [] 0 0 := Stand.of_body Bd
  have e0 : s₁.heap = h0 := by rw [← hh, Bd.state]; rfl
  have N0 := Fr.nil n0
  show own_Goes p e below (own_End s (own_Same (.int (1 : Int32)) h0 n0) 0 0) _
  refine own_go (G := s₁.setTop (mkF m 0 #[.val (.ref s_INT)] [])) (fun t k => castTop (ef_ii_INT m s_INT) k) ?_
  refine own_go (G := s₁.setTop (mkF m 1 #[.val (.ref s_INT)] [(.ref s_INT)])) (fun _ k => XS.aloadN X0.here hx rfl (hb hby d2_0) rfl rfl k) ?_
  obtain ⟨T1, X1, e1, st1⟩ := getS2 X0 hx hZ hown (host := "") (Or.inl (hw _ (List.mem_of_getElem? (i := 13) rfl))) Via.refl e0 S_BYTE (g := (mkF m 1 #[.val (.ref s_INT)] [(.ref s_INT)])) rfl (hb hby d2_1)
  refine own_go (G := T1.setTop (mkF m 4 #[.val (.ref s_INT)] [(.ref s_BYTE), (.ref s_INT)])) (st1) ?_
  refine own_go (G := T1.setTop (mkF m 7 #[.val (.ref s_INT)] [])) (fun _ k => Jvm.RoadKit.acmp (g := (mkF m 4 #[.val (.ref s_INT)] [(.ref s_BYTE), (.ref s_INT)])) X1 hx rfl rfl rfl (pc0 := 4) (pc' := 7) (same := false) rfl (hb hby d2_4) rfl (decide_eq_false fun q => (Ne.symm n_BYTE_INT) (Value.ref.inj q)) (by decide) (by decide) k) ?_
  refine own_go (G := T1.setTop (mkF m 8 #[.val (.ref s_INT)] [(.ref s_INT)])) (fun _ k => XS.aloadN X1.here hx rfl (hb hby d2_7) rfl rfl k) ?_
  obtain ⟨T2, X2, e2, st2⟩ := getS2 X1 hx hZ hown (host := "") (Or.inl (hw _ (List.mem_of_getElem? (i := 15) rfl))) Via.refl e1 S_SHORT (g := (mkF m 8 #[.val (.ref s_INT)] [(.ref s_INT)])) rfl (hb hby d2_8)
  refine own_go (G := T2.setTop (mkF m 11 #[.val (.ref s_INT)] [(.ref s_SHORT), (.ref s_INT)])) (st2) ?_
  refine own_go (G := T2.setTop (mkF m 14 #[.val (.ref s_INT)] [])) (fun _ k => Jvm.RoadKit.acmp (g := (mkF m 11 #[.val (.ref s_INT)] [(.ref s_SHORT), (.ref s_INT)])) X2 hx rfl rfl rfl (pc0 := 11) (pc' := 14) (same := false) rfl (hb hby d2_11) rfl (decide_eq_false fun q => (Ne.symm n_SHORT_INT) (Value.ref.inj q)) (by decide) (by decide) k) ?_
  refine own_go (G := T2.setTop (mkF m 15 #[.val (.ref s_INT)] [(.ref s_INT)])) (fun _ k => XS.aloadN X2.here hx rfl (hb hby d2_14) rfl rfl k) ?_
  obtain ⟨T3, X3, e3, st3⟩ := getS2 X2 hx hZ hown (host := "") (Or.inl (hw _ (List.mem_of_getElem? (i := 17) rfl))) Via.refl e2 S_INT (g := (mkF m 15 #[.val (.ref s_INT)] [(.ref s_INT)])) rfl (hb hby d2_15)
  refine own_go (G := T3.setTop (mkF m 18 #[.val (.ref s_INT)] [(.ref s_INT), (.ref s_INT)])) (st3) ?_
  refine own_go (G := T3.setTop (mkF m 21 #[.val (.ref s_INT)] [])) (fun _ k => Jvm.RoadKit.acmp (g := (mkF m 18 #[.val (.ref s_INT)] [(.ref s_INT), (.ref s_INT)])) X3 hx rfl rfl rfl (pc0 := 18) (pc' := 21) (same := true) rfl (hb hby d2_18) rfl (decide_eq_true rfl) (by decide) (by decide) k) ?_
  refine own_go (G := T3.setTop (mkF m 22 #[.val (.ref s_INT)] [(.int (1 : Int32))])) (fun _ k => XS.iconst X3.here hx rfl (hb hby d2_21) k) ?_
  refine own_go (G := T3.setTop (mkF m 26 #[.val (.ref s_INT)] [(.int (1 : Int32))])) (fun _ k => XS.goto X3.here hx rfl (pc0 := 22) (pc' := 26) rfl (hb hby d2_22) (by decide) (by decide) k) ?_
  exact own_ret1 X3 hx Bd.returns (hb hby d2_26) Bd.notSynchronized (by decide) (by decide) ⟨rfl, N0, e3⟩
theorem ef_ii_FLOAT (m : MethodId) (s_FLOAT : Addr) : entryFrame m #[(.ref s_FLOAT)] 1 = mkF m 0 #[.val (.ref s_FLOAT)] [] := by first | (simp [entryFrame, mkF, argsToLocals, Value.category]; done) | rfl
set_option maxRecDepth 65536 in
set_option maxHeartbeats 40000000 in
theorem ii_FLOAT (l : Launch) (Z : State) (a0 : Array Value) (hw : ∀ d ∈ tables_1, d.before a0 Z = true) (ws : List Jvm.Cond) (s_FLOAT : Addr) (s_BYTE : Addr) (s_SHORT : Addr) (s_INT : Addr) (h0 : Heap) (n0 : Nat) (Z0 : n0 ≤ h0.size) (S_BYTE : Sta Z h0 "com/example/mave/mave/lang/Type" "BYTE" "Lcom/example/mave/mave/lang/Type;" (.ref s_BYTE)) (S_SHORT : Sta Z h0 "com/example/mave/mave/lang/Type" "SHORT" "Lcom/example/mave/mave/lang/Type;" (.ref s_SHORT)) (S_INT : Sta Z h0 "com/example/mave/mave/lang/Type" "INT" "Lcom/example/mave/mave/lang/Type;" (.ref s_INT)) (n_BYTE_FLOAT : s_BYTE ≠ s_FLOAT) (n_SHORT_FLOAT : s_SHORT ≠ s_FLOAT) (n_INT_FLOAT : s_INT ≠ s_FLOAT) :
    MetFree l (⟨"com/example/mave/mave/lang/Type", "isIntegral", "()Z"⟩ : MethodName) (head1 (Jvm.Cond.code (⟨"com/example/mave/mave/lang/Type", "isIntegral", "()Z"⟩ : MethodName) prog_169_method_6_code 1 (some .boolean) :: ws) ({ frames := 0, cells := 0, slots := 0, locals := 0 } : Room)) (fun a U => a = #[(.ref s_FLOAT)] ∧ Z.Warmed39 U.vm ∧ U.heap = h0) (fun _ _ _ _ _ => True) (fun _ U o U' => ∃ v L, o = .returned v ∧ (own_Same (.int (0 : Int32)) h0 n0) v U'.heap L ∧ FrameEnd U o U' L 0 0) := by
  refine MetFree.of_bodySF (plainFor_of_name pn2) hisR ?_
  intro p e s m args below meth c s₁ Bd hml0 hP hK
  obtain ⟨rfl, hZ, hh⟩ := hP
  have hx := Bd.exec
  have hby := Bd.bytes
  have hml : c.maxLocals = 1 := hml0
  have hown : s.vm.findClass "com/example/mave/mave/lang/Type" = some m.cls := findClass_of_methodNamed Bd.named
  have hnm := (name_of_methodNamed Bd.named Bd.method).1
  have X0 : Stand p l e ({ frames := 0, cells := 0, slots := 0, locals := 0 } : Room) s m #[(.ref s_FLOAT)] below meth c s₁ [] 0 0 := Stand.of_body Bd
  have e0 : s₁.heap = h0 := by rw [← hh, Bd.state]; rfl
  have N0 := Fr.nil n0
  show own_Goes p e below (own_End s (own_Same (.int (0 : Int32)) h0 n0) 0 0) _
  refine own_go (G := s₁.setTop (mkF m 0 #[.val (.ref s_FLOAT)] [])) (fun t k => castTop (ef_ii_FLOAT m s_FLOAT) k) ?_
  refine own_go (G := s₁.setTop (mkF m 1 #[.val (.ref s_FLOAT)] [(.ref s_FLOAT)])) (fun _ k => XS.aloadN X0.here hx rfl (hb hby d2_0) rfl rfl k) ?_
  obtain ⟨T1, X1, e1, st1⟩ := getS2 X0 hx hZ hown (host := "") (Or.inl (hw _ (List.mem_of_getElem? (i := 13) rfl))) Via.refl e0 S_BYTE (g := (mkF m 1 #[.val (.ref s_FLOAT)] [(.ref s_FLOAT)])) rfl (hb hby d2_1)
  refine own_go (G := T1.setTop (mkF m 4 #[.val (.ref s_FLOAT)] [(.ref s_BYTE), (.ref s_FLOAT)])) (st1) ?_
  refine own_go (G := T1.setTop (mkF m 7 #[.val (.ref s_FLOAT)] [])) (fun _ k => Jvm.RoadKit.acmp (g := (mkF m 4 #[.val (.ref s_FLOAT)] [(.ref s_BYTE), (.ref s_FLOAT)])) X1 hx rfl rfl rfl (pc0 := 4) (pc' := 7) (same := false) rfl (hb hby d2_4) rfl (decide_eq_false fun q => (Ne.symm n_BYTE_FLOAT) (Value.ref.inj q)) (by decide) (by decide) k) ?_
  refine own_go (G := T1.setTop (mkF m 8 #[.val (.ref s_FLOAT)] [(.ref s_FLOAT)])) (fun _ k => XS.aloadN X1.here hx rfl (hb hby d2_7) rfl rfl k) ?_
  obtain ⟨T2, X2, e2, st2⟩ := getS2 X1 hx hZ hown (host := "") (Or.inl (hw _ (List.mem_of_getElem? (i := 15) rfl))) Via.refl e1 S_SHORT (g := (mkF m 8 #[.val (.ref s_FLOAT)] [(.ref s_FLOAT)])) rfl (hb hby d2_8)
  refine own_go (G := T2.setTop (mkF m 11 #[.val (.ref s_FLOAT)] [(.ref s_SHORT), (.ref s_FLOAT)])) (st2) ?_
  refine own_go (G := T2.setTop (mkF m 14 #[.val (.ref s_FLOAT)] [])) (fun _ k => Jvm.RoadKit.acmp (g := (mkF m 11 #[.val (.ref s_FLOAT)] [(.ref s_SHORT), (.ref s_FLOAT)])) X2 hx rfl rfl rfl (pc0 := 11) (pc' := 14) (same := false) rfl (hb hby d2_11) rfl (decide_eq_false fun q => (Ne.symm n_SHORT_FLOAT) (Value.ref.inj q)) (by decide) (by decide) k) ?_
  refine own_go (G := T2.setTop (mkF m 15 #[.val (.ref s_FLOAT)] [(.ref s_FLOAT)])) (fun _ k => XS.aloadN X2.here hx rfl (hb hby d2_14) rfl rfl k) ?_
  obtain ⟨T3, X3, e3, st3⟩ := getS2 X2 hx hZ hown (host := "") (Or.inl (hw _ (List.mem_of_getElem? (i := 17) rfl))) Via.refl e2 S_INT (g := (mkF m 15 #[.val (.ref s_FLOAT)] [(.ref s_FLOAT)])) rfl (hb hby d2_15)
  refine own_go (G := T3.setTop (mkF m 18 #[.val (.ref s_FLOAT)] [(.ref s_INT), (.ref s_FLOAT)])) (st3) ?_
  refine own_go (G := T3.setTop (mkF m 25 #[.val (.ref s_FLOAT)] [])) (fun _ k => Jvm.RoadKit.acmp (g := (mkF m 18 #[.val (.ref s_FLOAT)] [(.ref s_INT), (.ref s_FLOAT)])) X3 hx rfl rfl rfl (pc0 := 18) (pc' := 25) (same := false) rfl (hb hby d2_18) rfl (decide_eq_false fun q => (Ne.symm n_INT_FLOAT) (Value.ref.inj q)) (by decide) (by decide) k) ?_
  refine own_go (G := T3.setTop (mkF m 26 #[.val (.ref s_FLOAT)] [(.int (0 : Int32))])) (fun _ k => XS.iconst X3.here hx rfl (hb hby d2_25) k) ?_
  exact own_ret0 X3 hx Bd.returns (hb hby d2_26) Bd.notSynchronized (by decide) (by decide) ⟨rfl, N0, e3⟩
theorem ef_ii_REBEC (m : MethodId) (s_REBEC : Addr) : entryFrame m #[(.ref s_REBEC)] 1 = mkF m 0 #[.val (.ref s_REBEC)] [] := by first | (simp [entryFrame, mkF, argsToLocals, Value.category]; done) | rfl
set_option maxRecDepth 65536 in
set_option maxHeartbeats 40000000 in
theorem ii_REBEC (l : Launch) (Z : State) (a0 : Array Value) (hw : ∀ d ∈ tables_1, d.before a0 Z = true) (ws : List Jvm.Cond) (s_REBEC : Addr) (s_BYTE : Addr) (s_SHORT : Addr) (s_INT : Addr) (h0 : Heap) (n0 : Nat) (Z0 : n0 ≤ h0.size) (S_BYTE : Sta Z h0 "com/example/mave/mave/lang/Type" "BYTE" "Lcom/example/mave/mave/lang/Type;" (.ref s_BYTE)) (S_SHORT : Sta Z h0 "com/example/mave/mave/lang/Type" "SHORT" "Lcom/example/mave/mave/lang/Type;" (.ref s_SHORT)) (S_INT : Sta Z h0 "com/example/mave/mave/lang/Type" "INT" "Lcom/example/mave/mave/lang/Type;" (.ref s_INT)) (n_BYTE_REBEC : s_BYTE ≠ s_REBEC) (n_SHORT_REBEC : s_SHORT ≠ s_REBEC) (n_INT_REBEC : s_INT ≠ s_REBEC) :
    MetFree l (⟨"com/example/mave/mave/lang/Type", "isIntegral", "()Z"⟩ : MethodName) (head1 (Jvm.Cond.code (⟨"com/example/mave/mave/lang/Type", "isIntegral", "()Z"⟩ : MethodName) prog_169_method_6_code 1 (some .boolean) :: ws) ({ frames := 0, cells := 0, slots := 0, locals := 0 } : Room)) (fun a U => a = #[(.ref s_REBEC)] ∧ Z.Warmed39 U.vm ∧ U.heap = h0) (fun _ _ _ _ _ => True) (fun _ U o U' => ∃ v L, o = .returned v ∧ (own_Same (.int (0 : Int32)) h0 n0) v U'.heap L ∧ FrameEnd U o U' L 0 0) := by
  refine MetFree.of_bodySF (plainFor_of_name pn2) hisR ?_
  intro p e s m args below meth c s₁ Bd hml0 hP hK
  obtain ⟨rfl, hZ, hh⟩ := hP
  have hx := Bd.exec
  have hby := Bd.bytes
  have hml : c.maxLocals = 1 := hml0
  have hown : s.vm.findClass "com/example/mave/mave/lang/Type" = some m.cls := findClass_of_methodNamed Bd.named
  have hnm := (name_of_methodNamed Bd.named Bd.method).1
  have X0 : Stand p l e ({ frames := 0, cells := 0, slots := 0, locals := 0 } : Room) s m #[(.ref s_REBEC)] below meth c s₁ [] 0 0 := Stand.of_body Bd
  have e0 : s₁.heap = h0 := by rw [← hh, Bd.state]; rfl
  have N0 := Fr.nil n0
  show own_Goes p e below (own_End s (own_Same (.int (0 : Int32)) h0 n0) 0 0) _
  refine own_go (G := s₁.setTop (mkF m 0 #[.val (.ref s_REBEC)] [])) (fun t k => castTop (ef_ii_REBEC m s_REBEC) k) ?_
  refine own_go (G := s₁.setTop (mkF m 1 #[.val (.ref s_REBEC)] [(.ref s_REBEC)])) (fun _ k => XS.aloadN X0.here hx rfl (hb hby d2_0) rfl rfl k) ?_
  obtain ⟨T1, X1, e1, st1⟩ := getS2 X0 hx hZ hown (host := "") (Or.inl (hw _ (List.mem_of_getElem? (i := 13) rfl))) Via.refl e0 S_BYTE (g := (mkF m 1 #[.val (.ref s_REBEC)] [(.ref s_REBEC)])) rfl (hb hby d2_1)
  refine own_go (G := T1.setTop (mkF m 4 #[.val (.ref s_REBEC)] [(.ref s_BYTE), (.ref s_REBEC)])) (st1) ?_
  refine own_go (G := T1.setTop (mkF m 7 #[.val (.ref s_REBEC)] [])) (fun _ k => Jvm.RoadKit.acmp (g := (mkF m 4 #[.val (.ref s_REBEC)] [(.ref s_BYTE), (.ref s_REBEC)])) X1 hx rfl rfl rfl (pc0 := 4) (pc' := 7) (same := false) rfl (hb hby d2_4) rfl (decide_eq_false fun q => (Ne.symm n_BYTE_REBEC) (Value.ref.inj q)) (by decide) (by decide) k) ?_
  refine own_go (G := T1.setTop (mkF m 8 #[.val (.ref s_REBEC)] [(.ref s_REBEC)])) (fun _ k => XS.aloadN X1.here hx rfl (hb hby d2_7) rfl rfl k) ?_
  obtain ⟨T2, X2, e2, st2⟩ := getS2 X1 hx hZ hown (host := "") (Or.inl (hw _ (List.mem_of_getElem? (i := 15) rfl))) Via.refl e1 S_SHORT (g := (mkF m 8 #[.val (.ref s_REBEC)] [(.ref s_REBEC)])) rfl (hb hby d2_8)
  refine own_go (G := T2.setTop (mkF m 11 #[.val (.ref s_REBEC)] [(.ref s_SHORT), (.ref s_REBEC)])) (st2) ?_
  refine own_go (G := T2.setTop (mkF m 14 #[.val (.ref s_REBEC)] [])) (fun _ k => Jvm.RoadKit.acmp (g := (mkF m 11 #[.val (.ref s_REBEC)] [(.ref s_SHORT), (.ref s_REBEC)])) X2 hx rfl rfl rfl (pc0 := 11) (pc' := 14) (same := false) rfl (hb hby d2_11) rfl (decide_eq_false fun q => (Ne.symm n_SHORT_REBEC) (Value.ref.inj q)) (by decide) (by decide) k) ?_
  refine own_go (G := T2.setTop (mkF m 15 #[.val (.ref s_REBEC)] [(.ref s_REBEC)])) (fun _ k => XS.aloadN X2.here hx rfl (hb hby d2_14) rfl rfl k) ?_
  obtain ⟨T3, X3, e3, st3⟩ := getS2 X2 hx hZ hown (host := "") (Or.inl (hw _ (List.mem_of_getElem? (i := 17) rfl))) Via.refl e2 S_INT (g := (mkF m 15 #[.val (.ref s_REBEC)] [(.ref s_REBEC)])) rfl (hb hby d2_15)
  refine own_go (G := T3.setTop (mkF m 18 #[.val (.ref s_REBEC)] [(.ref s_INT), (.ref s_REBEC)])) (st3) ?_
  refine own_go (G := T3.setTop (mkF m 25 #[.val (.ref s_REBEC)] [])) (fun _ k => Jvm.RoadKit.acmp (g := (mkF m 18 #[.val (.ref s_REBEC)] [(.ref s_INT), (.ref s_REBEC)])) X3 hx rfl rfl rfl (pc0 := 18) (pc' := 25) (same := false) rfl (hb hby d2_18) rfl (decide_eq_false fun q => (Ne.symm n_INT_REBEC) (Value.ref.inj q)) (by decide) (by decide) k) ?_
  refine own_go (G := T3.setTop (mkF m 26 #[.val (.ref s_REBEC)] [(.int (0 : Int32))])) (fun _ k => XS.iconst X3.here hx rfl (hb hby d2_25) k) ?_
  exact own_ret0 X3 hx Bd.returns (hb hby d2_26) Bd.notSynchronized (by decide) (by decide) ⟨rfl, N0, e3⟩
theorem d4_0 : decode jdk_37_method_2_code 0 = .ok (.aload_n 0, 1) := by decide +kernel
theorem d4_1 : decode jdk_37_method_2_code 1 = .ok (.getfield 7, 3) := by decide +kernel
theorem d4_4 : decode jdk_37_method_2_code 4 = .ok (.ireturn, 1) := by decide +kernel
theorem pn4 : plainName "java/lang/Enum" = true := by first | (simp [plainName, overriddenIn]; done) | decide +kernel
theorem ef_rm4 (m : MethodId) (r0 : Addr) : entryFrame m #[(.ref r0)] 1 = mkF m 0 #[.val (.ref r0)] [] := by first | (simp [entryFrame, mkF, argsToLocals, Value.category]; done) | rfl
def F4 (r0 : Addr) (w_ordinal_r0 : Int32) : Int32 := w_ordinal_r0
set_option maxRecDepth 65536 in
set_option maxHeartbeats 40000000 in
theorem rm4 (l : Launch) (Z : State) (a0 : Array Value) (hw : ∀ d ∈ tables_1, d.before a0 Z = true) (ws : List Jvm.Cond) (r0 : Addr) (w_ordinal_r0 : Int32) (h0 : Heap) (n0 : Nat) (Z0 : n0 ≤ h0.size) (F_ordinal_r0 : Fld Z h0 r0 "java/lang/Enum" "ordinal" "I" (.int w_ordinal_r0)) :
    MetFree l (⟨"java/lang/Enum", "ordinal", "()I"⟩ : MethodName) (head1 (Jvm.Cond.code (⟨"java/lang/Enum", "ordinal", "()I"⟩ : MethodName) jdk_37_method_2_code 1 (some .int) :: ws) ({ frames := 0, cells := 0, slots := 0, locals := 0 } : Room)) (fun a U => a = #[(.ref r0)] ∧ Z.Warmed39 U.vm ∧ U.heap = h0) (fun _ _ _ _ _ => True) (fun _ U o U' => ∃ v L, o = .returned v ∧ (own_Same (.int (F4 r0 w_ordinal_r0)) h0 n0) v U'.heap L ∧ FrameEnd U o U' L 0 0) := by
  refine MetFree.of_bodySF (plainFor_of_name pn4) hisR ?_
  intro p e s m args below meth c s₁ Bd hml0 hP hK
  obtain ⟨rfl, hZ, hh⟩ := hP
  have hx := Bd.exec
  have hby := Bd.bytes
  have hml : c.maxLocals = 1 := hml0
  have hown : s.vm.findClass "java/lang/Enum" = some m.cls := findClass_of_methodNamed Bd.named
  have hnm := (name_of_methodNamed Bd.named Bd.method).1
  have X0 : Stand p l e ({ frames := 0, cells := 0, slots := 0, locals := 0 } : Room) s m #[(.ref r0)] below meth c s₁ [] 0 0 := Stand.of_body Bd
  have e0 : s₁.heap = h0 := by rw [← hh, Bd.state]; rfl
  have N0 := Fr.nil n0
  show own_Goes p e below (own_End s (own_Same (.int (F4 r0 w_ordinal_r0)) h0 n0) 0 0) _
  refine own_go (G := s₁.setTop (mkF m 0 #[.val (.ref r0)] [])) (fun t k => castTop (ef_rm4 m r0) k) ?_
  refine own_go (G := s₁.setTop (mkF m 1 #[.val (.ref r0)] [(.ref r0)])) (fun _ k => XS.aloadN X0.here hx rfl (hb hby d4_0) rfl rfl k) ?_
  obtain ⟨T3, X3, e3, st3⟩ := getF X0 hx hZ hown (host := "") (Or.inl (hw _ (List.mem_of_getElem? (i := 33) rfl))) Via.refl e0 F_ordinal_r0 (g := (mkF m 1 #[.val (.ref r0)] [(.ref r0)])) rfl rfl (hb hby d4_1)
  refine own_go (G := T3.setTop (mkF m 4 #[.val (.ref r0)] [(.int w_ordinal_r0)])) (st3) ?_
  exact own_retI X3 hx Bd.returns (hb hby d4_4) Bd.notSynchronized (by decide) (by decide) ⟨rfl, N0, e3⟩
theorem d3_0 : decode prog_169_method_9_code 0 = .ok (.aload_n 0, 1) := by decide +kernel
theorem d3_1 : decode prog_169_method_9_code 1 = .ok (.invokevirtual 52, 3) := by decide +kernel
theorem d3_4 : decode prog_169_method_9_code 4 = .ok (.tableswitch 60 1 4 #[32, 40, 48, 55], 32) := by decide +kernel
theorem d3_36 : decode prog_169_method_9_code 36 = .ok (.dload_n 1, 1) := by decide +kernel
theorem d3_37 : decode prog_169_method_9_code 37 = .ok (.d2i, 1) := by decide +kernel
theorem d3_38 : decode prog_169_method_9_code 38 = .ok (.i2b, 1) := by decide +kernel
theorem d3_39 : decode prog_169_method_9_code 39 = .ok (.i2d, 1) := by decide +kernel
theorem d3_40 : decode prog_169_method_9_code 40 = .ok (.dstore_n 3, 1) := by decide +kernel
theorem d3_41 : decode prog_169_method_9_code 41 = .ok (.goto 40, 3) := by decide +kernel
theorem d3_81 : decode prog_169_method_9_code 81 = .ok (.dload_n 3, 1) := by decide +kernel
theorem d3_82 : decode prog_169_method_9_code 82 = .ok (.dreturn, 1) := by decide +kernel
theorem pn3 : plainName "com/example/mave/mave/lang/Type" = true := by first | (simp [plainName, overriddenIn]; done) | decide +kernel
theorem pd0 : parseMethodDescriptor "()I" = some ⟨[], some .int⟩ := by decide +kernel
theorem ef_cv_BYTE (m : MethodId) (s_BYTE : Addr) (x1 : UInt64) : entryFrame m #[(.ref s_BYTE), (.double x1)] 5 = mkF m 0 #[.val (.ref s_BYTE), .val (.double x1), .second, .unset, .unset] [] := by first | (simp [entryFrame, mkF, argsToLocals, Value.category]; done) | rfl
set_option maxRecDepth 65536 in
set_option maxHeartbeats 40000000 in
theorem cv_BYTE (l : Launch) (Z : State) (a0 : Array Value) (hw : ∀ d ∈ tables_1, d.before a0 Z = true) (ws : List Jvm.Cond) (s_BYTE : Addr) (x1 : UInt64) (h0 : Heap) (n0 : Nat) (Z0 : n0 ≤ h0.size) (F_ord : Fld Z h0 s_BYTE "java/lang/Enum" "ordinal" "I" (.int (1 : Int32))) (E_me : Exa Z h0 s_BYTE "com/example/mave/mave/lang/Type") :
    MetFree l (⟨"com/example/mave/mave/lang/Type", "convert", "(D)D"⟩ : MethodName) (head1 (Jvm.Cond.code (⟨"com/example/mave/mave/lang/Type", "convert", "(D)D"⟩ : MethodName) prog_169_method_9_code 5 (some .double) :: ws) ({ frames := 1, cells := 0, slots := 0, locals := 12 } : Room)) (fun a U => a = #[(.ref s_BYTE), (.double x1)] ∧ Z.Warmed39 U.vm ∧ U.heap = h0) (fun _ _ _ _ _ => True) (fun _ U o U' => ∃ v L, o = .returned v ∧ (own_Same (.double (FP.i2d (((FP.d2i x1)).toInt8.toInt32))) h0 n0) v U'.heap L ∧ FrameEnd U o U' L 0 0) := by
  refine MetFree.of_bodySF (plainFor_of_name pn3) hisR ?_
  intro p e s m args below meth c s₁ Bd hml0 hP hK
  obtain ⟨rfl, hZ, hh⟩ := hP
  have hx := Bd.exec
  have hby := Bd.bytes
  have hml : c.maxLocals = 5 := hml0
  have hown : s.vm.findClass "com/example/mave/mave/lang/Type" = some m.cls := findClass_of_methodNamed Bd.named
  have hnm := (name_of_methodNamed Bd.named Bd.method).1
  have X0 : Stand p l e ({ frames := 1, cells := 0, slots := 0, locals := 12 } : Room) s m #[(.ref s_BYTE), (.double x1)] below meth c s₁ [] 0 0 := Stand.of_body Bd
  have e0 : s₁.heap = h0 := by rw [← hh, Bd.state]; rfl
  have N0 := Fr.nil n0
  show own_Goes p e below (own_End s (own_Same (.double (FP.i2d (((FP.d2i x1)).toInt8.toInt32))) h0 n0) 0 0) _
  refine own_go (G := s₁.setTop (mkF m 0 #[.val (.ref s_BYTE), .val (.double x1), .second, .unset, .unset] [])) (fun t k => castTop (ef_cv_BYTE m s_BYTE x1) k) ?_
  refine own_go (G := s₁.setTop (mkF m 1 #[.val (.ref s_BYTE), .val (.double x1), .second, .unset, .unset] [(.ref s_BYTE)])) (fun _ k => XS.aloadN X0.here hx rfl (hb hby d3_0) rfl rfl k) ?_
  obtain ⟨cq1, kq1, q1a, q1b, q1c⟩ := isOf hZ e0 E_me
  obtain ⟨_, _, ⟨T1, L1, k1, n1⟩, -, X1, ⟨Lc1, hQ1, l1, y1, z1⟩, st1⟩ := X0.virtualBackUp hx (x := (⟨"com/example/mave/mave/lang/Type", "ordinal", "()I"⟩ : MethodName)) (y := (⟨"java/lang/Enum", "ordinal", "()I"⟩ : MethodName)) (owner := "java/lang/Enum") hown (mvT hZ (hw _ (List.mem_of_getElem? (i := 26) rfl))) (mvT hZ (hw _ (List.mem_of_getElem? (i := 27) rfl))) (mvT hZ (hw _ (List.mem_of_getElem? (i := 28) rfl))) (by decide) (mvT hZ (hw _ (List.mem_of_getElem? (i := 30) rfl))) (mvT hZ (hw _ (List.mem_of_getElem? (i := 29) rfl))) (backOf (W := 0) (rm4 l Z a0 hw [] s_BYTE (1 : Int32) h0 n0 Z0 F_ord) hZ (hw _ (List.mem_of_getElem? (i := 32) rfl)) (hw _ (List.mem_of_getElem? (i := 31) rfl)) (by decide) (by decide)) q1a q1c (g := (mkF m 1 #[.val (.ref s_BYTE), .val (.double x1), .second, .unset, .unset] [(.ref s_BYTE)])) rfl (by rw [hml]; rfl) (Steps.refl _) (argsL := []) (rest := []) (lenOf pd0 rfl) rfl (by show 2 * 0 + _ ≤ _; exact Nat.le_of_eq rfl) (hb hby d3_1) (fun _ _ => ⟨rfl, e0, (by decide : 0 + 0 ≤ _), (by decide : 0 + 0 ≤ _)⟩)
  dsimp only [Pt.U, Pt.locs, Pt.cells, Pt.slots] at X1 l1 y1 z1 st1 hQ1
  subst l1 y1 z1
  obtain ⟨rfl, Nq1, e1⟩ := hQ1
  have N1 := Fr.app N0 Nq1
  have hr1 : F4 s_BYTE (1 : Int32) = (1 : Int32) := rfl
  rw [hr1] at st1
  refine own_go (G := T1.setTop (mkF m 4 #[.val (.ref s_BYTE), .val (.double x1), .second, .unset, .unset] [(.int (1 : Int32))])) (fun _ k => st1.trans k) ?_
  refine own_go (G := T1.setTop (mkF m 36 #[.val (.ref s_BYTE), .val (.double x1), .second, .unset, .unset] [])) (fun _ k => XS.tswIn X1.here hx rfl (pc0 := 4) (pc' := 36) (o := 32) rfl (hb hby d3_4) rfl (by decide) rfl (by decide) (by decide) k) ?_
  refine own_go (G := T1.setTop (mkF m 37 #[.val (.ref s_BYTE), .val (.double x1), .second, .unset, .unset] [(.double x1)])) (fun _ k => own_dloadN X1.here hx rfl (hb hby d3_36) rfl k) ?_
  refine own_go (G := T1.setTop (mkF m 38 #[.val (.ref s_BYTE), .val (.double x1), .second, .unset, .unset] [(.int (FP.d2i x1))])) (fun _ k => own_d2i X1.here hx rfl (hb hby d3_37) rfl k) ?_
  refine own_go (G := T1.setTop (mkF m 39 #[.val (.ref s_BYTE), .val (.double x1), .second, .unset, .unset] [(.int ((FP.d2i x1).toInt8.toInt32))])) (fun _ k => XS.i2b X1.here hx rfl (hb hby d3_38) rfl k) ?_
  refine own_go (G := T1.setTop (mkF m 40 #[.val (.ref s_BYTE), .val (.double x1), .second, .unset, .unset] [(.double (FP.i2d ((FP.d2i x1).toInt8.toInt32)))])) (fun _ k => own_i2d X1.here hx rfl (hb hby d3_39) rfl k) ?_
  refine own_go (G := T1.setTop (mkF m 41 #[.val (.ref s_BYTE), .val (.double x1), .second, .val (.double (FP.i2d ((FP.d2i x1).toInt8.toInt32))), .second] [])) (fun _ k => own_dstoreN X1.here hx rfl (hb hby d3_40) rfl (l' := #[.val (.ref s_BYTE), .val (.double x1), .second, .val (.double (FP.i2d ((FP.d2i x1).toInt8.toInt32))), .second]) rfl k) ?_
  refine own_go (G := T1.setTop (mkF m 81 #[.val (.ref s_BYTE), .val (.double x1), .second, .val (.double (FP.i2d ((FP.d2i x1).toInt8.toInt32))), .second] [])) (fun _ k => XS.goto X1.here hx rfl (pc0 := 41) (pc' := 81) rfl (hb hby d3_41) (by decide) (by decide) k) ?_
  refine own_go (G := T1.setTop (mkF m 82 #[.val (.ref s_BYTE), .val (.double x1), .second, .val (.double (FP.i2d ((FP.d2i x1).toInt8.toInt32))), .second] [(.double (FP.i2d ((FP.d2i x1).toInt8.toInt32)))])) (fun _ k => own_dloadN X1.here hx rfl (hb hby d3_81) rfl k) ?_
  exact own_retD X1 hx Bd.returns (hb hby d3_82) Bd.notSynchronized (by decide) (by decide) ⟨rfl, N1, e1⟩
theorem d3_44 : decode prog_169_method_9_code 44 = .ok (.dload_n 1, 1) := by decide +kernel
theorem d3_45 : decode prog_169_method_9_code 45 = .ok (.d2i, 1) := by decide +kernel
theorem d3_46 : decode prog_169_method_9_code 46 = .ok (.i2s, 1) := by decide +kernel
theorem d3_47 : decode prog_169_method_9_code 47 = .ok (.i2d, 1) := by decide +kernel
theorem d3_48 : decode prog_169_method_9_code 48 = .ok (.dstore_n 3, 1) := by decide +kernel
theorem d3_49 : decode prog_169_method_9_code 49 = .ok (.goto 32, 3) := by decide +kernel
theorem ef_cv_SHORT (m : MethodId) (s_SHORT : Addr) (x1 : UInt64) : entryFrame m #[(.ref s_SHORT), (.double x1)] 5 = mkF m 0 #[.val (.ref s_SHORT), .val (.double x1), .second, .unset, .unset] [] := by first | (simp [entryFrame, mkF, argsToLocals, Value.category]; done) | rfl
set_option maxRecDepth 65536 in
set_option maxHeartbeats 40000000 in
theorem cv_SHORT (l : Launch) (Z : State) (a0 : Array Value) (hw : ∀ d ∈ tables_1, d.before a0 Z = true) (ws : List Jvm.Cond) (s_SHORT : Addr) (x1 : UInt64) (h0 : Heap) (n0 : Nat) (Z0 : n0 ≤ h0.size) (F_ord : Fld Z h0 s_SHORT "java/lang/Enum" "ordinal" "I" (.int (2 : Int32))) (E_me : Exa Z h0 s_SHORT "com/example/mave/mave/lang/Type") :
    MetFree l (⟨"com/example/mave/mave/lang/Type", "convert", "(D)D"⟩ : MethodName) (head1 (Jvm.Cond.code (⟨"com/example/mave/mave/lang/Type", "convert", "(D)D"⟩ : MethodName) prog_169_method_9_code 5 (some .double) :: ws) ({ frames := 1, cells := 0, slots := 0, locals := 12 } : Room)) (fun a U => a = #[(.ref s_SHORT), (.double x1)] ∧ Z.Warmed39 U.vm ∧ U.heap = h0) (fun _ _ _ _ _ => True) (fun _ U o U' => ∃ v L, o = .returned v ∧ (own_Same (.double (FP.i2d (((FP.d2i x1)).toInt16.toInt32))) h0 n0) v U'.heap L ∧ FrameEnd U o U' L 0 0) := by
  refine MetFree.of_bodySF (plainFor_of_name pn3) hisR ?_
  intro p e s m args below meth c s₁ Bd hml0 hP hK
  obtain ⟨rfl, hZ, hh⟩ := hP
  have hx := Bd.exec
  have hby := Bd.bytes
  have hml : c.maxLocals = 5 := hml0
  have hown : s.vm.findClass "com/example/mave/mave/lang/Type" = some m.cls := findClass_of_methodNamed Bd.named
  have hnm := (name_of_methodNamed Bd.named Bd.method).1
  have X0 : Stand p l e ({ frames := 1, cells := 0, slots := 0, locals := 12 } : Room) s m #[(.ref s_SHORT), (.double x1)] below meth c s₁ [] 0 0 := Stand.of_body Bd
  have e0 : s₁.heap = h0 := by rw [← hh, Bd.state]; rfl
  have N0 := Fr.nil n0
  show own_Goes p e below (own_End s (own_Same (.double (FP.i2d (((FP.d2i x1)).toInt16.toInt32))) h0 n0) 0 0) _
  refine own_go (G := s₁.setTop (mkF m 0 #[.val (.ref s_SHORT), .val (.double x1), .second, .unset, .unset] [])) (fun t k => castTop (ef_cv_SHORT m s_SHORT x1) k) ?_
  refine own_go (G := s₁.setTop (mkF m 1 #[.val (.ref s_SHORT), .val (.double x1), .second, .unset, .unset] [(.ref s_SHORT)])) (fun _ k => XS.aloadN X0.here hx rfl (hb hby d3_0) rfl rfl k) ?_
  obtain ⟨cq1, kq1, q1a, q1b, q1c⟩ := isOf hZ e0 E_me
  obtain ⟨_, _, ⟨T1, L1, k1, n1⟩, -, X1, ⟨Lc1, hQ1, l1, y1, z1⟩, st1⟩ := X0.virtualBackUp hx (x := (⟨"com/example/mave/mave/lang/Type", "ordinal", "()I"⟩ : MethodName)) (y := (⟨"java/lang/Enum", "ordinal", "()I"⟩ : MethodName)) (owner := "java/lang/Enum") hown (mvT hZ (hw _ (List.mem_of_getElem? (i := 26) rfl))) (mvT hZ (hw _ (List.mem_of_getElem? (i := 27) rfl))) (mvT hZ (hw _ (List.mem_of_getElem? (i := 28) rfl))) (by decide) (mvT hZ (hw _ (List.mem_of_getElem? (i := 30) rfl))) (mvT hZ (hw _ (List.mem_of_getElem? (i := 29) rfl))) (backOf (W := 0) (rm4 l Z a0 hw [] s_SHORT (2 : Int32) h0 n0 Z0 F_ord) hZ (hw _ (List.mem_of_getElem? (i := 32) rfl)) (hw _ (List.mem_of_getElem? (i := 31) rfl)) (by decide) (by decide)) q1a q1c (g := (mkF m 1 #[.val (.ref s_SHORT), .val (.double x1), .second, .unset, .unset] [(.ref s_SHORT)])) rfl (by rw [hml]; rfl) (Steps.refl _) (argsL := []) (rest := []) (lenOf pd0 rfl) rfl (by show 2 * 0 + _ ≤ _; exact Nat.le_of_eq rfl) (hb hby d3_1) (fun _ _ => ⟨rfl, e0, (by decide : 0 + 0 ≤ _), (by decide : 0 + 0 ≤ _)⟩)
  dsimp only [Pt.U, Pt.locs, Pt.cells, Pt.slots] at X1 l1 y1 z1 st1 hQ1
  subst l1 y1 z1
  obtain ⟨rfl, Nq1, e1⟩ := hQ1
  have N1 := Fr.app N0 Nq1
  have hr1 : F4 s_SHORT (2 : Int32) = (2 : Int32) := rfl
  rw [hr1] at st1
  refine own_go (G := T1.setTop (mkF m 4 #[.val (.ref s_SHORT), .val (.double x1), .second, .unset, .unset] [(.int (2 : Int32))])) (fun _ k => st1.trans k) ?_
  refine own_go (G := T1.setTop (mkF m 44 #[.val (.ref s_SHORT), .val (.double x1), .second, .unset, .unset] [])) (fun _ k => XS.tswIn X1.here hx rfl (pc0 := 4) (pc' := 44) (o := 40) rfl (hb hby d3_4) rfl (by decide) rfl (by decide) (by decide) k) ?_
  refine own_go (G := T1.setTop (mkF m 45 #[.val (.ref s_SHORT), .val (.double x1), .second, .unset, .unset] [(.double x1)])) (fun _ k => own_dloadN X1.here hx rfl (hb hby d3_44) rfl k) ?_
  refine own_go (G := T1.setTop (mkF m 46 #[.val (.ref s_SHORT), .val (.double x1), .second, .unset, .unset] [(.int (FP.d2i x1))])) (fun _ k => own_d2i X1.here hx rfl (hb hby d3_45) rfl k) ?_
  refine own_go (G := T1.setTop (mkF m 47 #[.val (.ref s_SHORT), .val (.double x1), .second, .unset, .unset] [(.int ((FP.d2i x1).toInt16.toInt32))])) (fun _ k => XS.i2s X1.here hx rfl (hb hby d3_46) rfl k) ?_
  refine own_go (G := T1.setTop (mkF m 48 #[.val (.ref s_SHORT), .val (.double x1), .second, .unset, .unset] [(.double (FP.i2d ((FP.d2i x1).toInt16.toInt32)))])) (fun _ k => own_i2d X1.here hx rfl (hb hby d3_47) rfl k) ?_
  refine own_go (G := T1.setTop (mkF m 49 #[.val (.ref s_SHORT), .val (.double x1), .second, .val (.double (FP.i2d ((FP.d2i x1).toInt16.toInt32))), .second] [])) (fun _ k => own_dstoreN X1.here hx rfl (hb hby d3_48) rfl (l' := #[.val (.ref s_SHORT), .val (.double x1), .second, .val (.double (FP.i2d ((FP.d2i x1).toInt16.toInt32))), .second]) rfl k) ?_
  refine own_go (G := T1.setTop (mkF m 81 #[.val (.ref s_SHORT), .val (.double x1), .second, .val (.double (FP.i2d ((FP.d2i x1).toInt16.toInt32))), .second] [])) (fun _ k => XS.goto X1.here hx rfl (pc0 := 49) (pc' := 81) rfl (hb hby d3_49) (by decide) (by decide) k) ?_
  refine own_go (G := T1.setTop (mkF m 82 #[.val (.ref s_SHORT), .val (.double x1), .second, .val (.double (FP.i2d ((FP.d2i x1).toInt16.toInt32))), .second] [(.double (FP.i2d ((FP.d2i x1).toInt16.toInt32)))])) (fun _ k => own_dloadN X1.here hx rfl (hb hby d3_81) rfl k) ?_
  exact own_retD X1 hx Bd.returns (hb hby d3_82) Bd.notSynchronized (by decide) (by decide) ⟨rfl, N1, e1⟩
theorem d3_52 : decode prog_169_method_9_code 52 = .ok (.dload_n 1, 1) := by decide +kernel
theorem d3_53 : decode prog_169_method_9_code 53 = .ok (.d2i, 1) := by decide +kernel
theorem d3_54 : decode prog_169_method_9_code 54 = .ok (.i2d, 1) := by decide +kernel
theorem d3_55 : decode prog_169_method_9_code 55 = .ok (.dstore_n 3, 1) := by decide +kernel
theorem d3_56 : decode prog_169_method_9_code 56 = .ok (.goto 25, 3) := by decide +kernel
theorem ef_cv_INT (m : MethodId) (s_INT : Addr) (x1 : UInt64) : entryFrame m #[(.ref s_INT), (.double x1)] 5 = mkF m 0 #[.val (.ref s_INT), .val (.double x1), .second, .unset, .unset] [] := by first | (simp [entryFrame, mkF, argsToLocals, Value.category]; done) | rfl
set_option maxRecDepth 65536 in
set_option maxHeartbeats 40000000 in
theorem cv_INT (l : Launch) (Z : State) (a0 : Array Value) (hw : ∀ d ∈ tables_1, d.before a0 Z = true) (ws : List Jvm.Cond) (s_INT : Addr) (x1 : UInt64) (h0 : Heap) (n0 : Nat) (Z0 : n0 ≤ h0.size) (F_ord : Fld Z h0 s_INT "java/lang/Enum" "ordinal" "I" (.int (3 : Int32))) (E_me : Exa Z h0 s_INT "com/example/mave/mave/lang/Type") :
    MetFree l (⟨"com/example/mave/mave/lang/Type", "convert", "(D)D"⟩ : MethodName) (head1 (Jvm.Cond.code (⟨"com/example/mave/mave/lang/Type", "convert", "(D)D"⟩ : MethodName) prog_169_method_9_code 5 (some .double) :: ws) ({ frames := 1, cells := 0, slots := 0, locals := 12 } : Room)) (fun a U => a = #[(.ref s_INT), (.double x1)] ∧ Z.Warmed39 U.vm ∧ U.heap = h0) (fun _ _ _ _ _ => True) (fun _ U o U' => ∃ v L, o = .returned v ∧ (own_Same (.double (FP.i2d (FP.d2i x1))) h0 n0) v U'.heap L ∧ FrameEnd U o U' L 0 0) := by
  refine MetFree.of_bodySF (plainFor_of_name pn3) hisR ?_
  intro p e s m args below meth c s₁ Bd hml0 hP hK
  obtain ⟨rfl, hZ, hh⟩ := hP
  have hx := Bd.exec
  have hby := Bd.bytes
  have hml : c.maxLocals = 5 := hml0
  have hown : s.vm.findClass "com/example/mave/mave/lang/Type" = some m.cls := findClass_of_methodNamed Bd.named
  have hnm := (name_of_methodNamed Bd.named Bd.method).1
  have X0 : Stand p l e ({ frames := 1, cells := 0, slots := 0, locals := 12 } : Room) s m #[(.ref s_INT), (.double x1)] below meth c s₁ [] 0 0 := Stand.of_body Bd
  have e0 : s₁.heap = h0 := by rw [← hh, Bd.state]; rfl
  have N0 := Fr.nil n0
  show own_Goes p e below (own_End s (own_Same (.double (FP.i2d (FP.d2i x1))) h0 n0) 0 0) _
  refine own_go (G := s₁.setTop (mkF m 0 #[.val (.ref s_INT), .val (.double x1), .second, .unset, .unset] [])) (fun t k => castTop (ef_cv_INT m s_INT x1) k) ?_
  refine own_go (G := s₁.setTop (mkF m 1 #[.val (.ref s_INT), .val (.double x1), .second, .unset, .unset] [(.ref s_INT)])) (fun _ k => XS.aloadN X0.here hx rfl (hb hby d3_0) rfl rfl k) ?_
  obtain ⟨cq1, kq1, q1a, q1b, q1c⟩ := isOf hZ e0 E_me
  obtain ⟨_, _, ⟨T1, L1, k1, n1⟩, -, X1, ⟨Lc1, hQ1, l1, y1, z1⟩, st1⟩ := X0.virtualBackUp hx (x := (⟨"com/example/mave/mave/lang/Type", "ordinal", "()I"⟩ : MethodName)) (y := (⟨"java/lang/Enum", "ordinal", "()I"⟩ : MethodName)) (owner := "java/lang/Enum") hown (mvT hZ (hw _ (List.mem_of_getElem? (i := 26) rfl))) (mvT hZ (hw _ (List.mem_of_getElem? (i := 27) rfl))) (mvT hZ (hw _ (List.mem_of_getElem? (i := 28) rfl))) (by decide) (mvT hZ (hw _ (List.mem_of_getElem? (i := 30) rfl))) (mvT hZ (hw _ (List.mem_of_getElem? (i := 29) rfl))) (backOf (W := 0) (rm4 l Z a0 hw [] s_INT (3 : Int32) h0 n0 Z0 F_ord) hZ (hw _ (List.mem_of_getElem? (i := 32) rfl)) (hw _ (List.mem_of_getElem? (i := 31) rfl)) (by decide) (by decide)) q1a q1c (g := (mkF m 1 #[.val (.ref s_INT), .val (.double x1), .second, .unset, .unset] [(.ref s_INT)])) rfl (by rw [hml]; rfl) (Steps.refl _) (argsL := []) (rest := []) (lenOf pd0 rfl) rfl (by show 2 * 0 + _ ≤ _; exact Nat.le_of_eq rfl) (hb hby d3_1) (fun _ _ => ⟨rfl, e0, (by decide : 0 + 0 ≤ _), (by decide : 0 + 0 ≤ _)⟩)
  dsimp only [Pt.U, Pt.locs, Pt.cells, Pt.slots] at X1 l1 y1 z1 st1 hQ1
  subst l1 y1 z1
  obtain ⟨rfl, Nq1, e1⟩ := hQ1
  have N1 := Fr.app N0 Nq1
  have hr1 : F4 s_INT (3 : Int32) = (3 : Int32) := rfl
  rw [hr1] at st1
  refine own_go (G := T1.setTop (mkF m 4 #[.val (.ref s_INT), .val (.double x1), .second, .unset, .unset] [(.int (3 : Int32))])) (fun _ k => st1.trans k) ?_
  refine own_go (G := T1.setTop (mkF m 52 #[.val (.ref s_INT), .val (.double x1), .second, .unset, .unset] [])) (fun _ k => XS.tswIn X1.here hx rfl (pc0 := 4) (pc' := 52) (o := 48) rfl (hb hby d3_4) rfl (by decide) rfl (by decide) (by decide) k) ?_
  refine own_go (G := T1.setTop (mkF m 53 #[.val (.ref s_INT), .val (.double x1), .second, .unset, .unset] [(.double x1)])) (fun _ k => own_dloadN X1.here hx rfl (hb hby d3_52) rfl k) ?_
  refine own_go (G := T1.setTop (mkF m 54 #[.val (.ref s_INT), .val (.double x1), .second, .unset, .unset] [(.int (FP.d2i x1))])) (fun _ k => own_d2i X1.here hx rfl (hb hby d3_53) rfl k) ?_
  refine own_go (G := T1.setTop (mkF m 55 #[.val (.ref s_INT), .val (.double x1), .second, .unset, .unset] [(.double (FP.i2d (FP.d2i x1)))])) (fun _ k => own_i2d X1.here hx rfl (hb hby d3_54) rfl k) ?_
  refine own_go (G := T1.setTop (mkF m 56 #[.val (.ref s_INT), .val (.double x1), .second, .val (.double (FP.i2d (FP.d2i x1))), .second] [])) (fun _ k => own_dstoreN X1.here hx rfl (hb hby d3_55) rfl (l' := #[.val (.ref s_INT), .val (.double x1), .second, .val (.double (FP.i2d (FP.d2i x1))), .second]) rfl k) ?_
  refine own_go (G := T1.setTop (mkF m 81 #[.val (.ref s_INT), .val (.double x1), .second, .val (.double (FP.i2d (FP.d2i x1))), .second] [])) (fun _ k => XS.goto X1.here hx rfl (pc0 := 56) (pc' := 81) rfl (hb hby d3_56) (by decide) (by decide) k) ?_
  refine own_go (G := T1.setTop (mkF m 82 #[.val (.ref s_INT), .val (.double x1), .second, .val (.double (FP.i2d (FP.d2i x1))), .second] [(.double (FP.i2d (FP.d2i x1)))])) (fun _ k => own_dloadN X1.here hx rfl (hb hby d3_81) rfl k) ?_
  exact own_retD X1 hx Bd.returns (hb hby d3_82) Bd.notSynchronized (by decide) (by decide) ⟨rfl, N1, e1⟩
theorem d3_59 : decode prog_169_method_9_code 59 = .ok (.dload_n 1, 1) := by decide +kernel
theorem d3_60 : decode prog_169_method_9_code 60 = .ok (.dstore_n 3, 1) := by decide +kernel
theorem d3_61 : decode prog_169_method_9_code 61 = .ok (.goto 20, 3) := by decide +kernel
theorem ef_cv_FLOAT (m : MethodId) (s_FLOAT : Addr) (x1 : UInt64) : entryFrame m #[(.ref s_FLOAT), (.double x1)] 5 = mkF m 0 #[.val (.ref s_FLOAT), .val (.double x1), .second, .unset, .unset] [] := by first | (simp [entryFrame, mkF, argsToLocals, Value.category]; done) | rfl
set_option maxRecDepth 65536 in
set_option maxHeartbeats 40000000 in
theorem cv_FLOAT (l : Launch) (Z : State) (a0 : Array Value) (hw : ∀ d ∈ tables_1, d.before a0 Z = true) (ws : List Jvm.Cond) (s_FLOAT : Addr) (x1 : UInt64) (h0 : Heap) (n0 : Nat) (Z0 : n0 ≤ h0.size) (F_ord : Fld Z h0 s_FLOAT "java/lang/Enum" "ordinal" "I" (.int (4 : Int32))) (E_me : Exa Z h0 s_FLOAT "com/example/mave/mave/lang/Type") :
    MetFree l (⟨"com/example/mave/mave/lang/Type", "convert", "(D)D"⟩ : MethodName) (head1 (Jvm.Cond.code (⟨"com/example/mave/mave/lang/Type", "convert", "(D)D"⟩ : MethodName) prog_169_method_9_code 5 (some .double) :: ws) ({ frames := 1, cells := 0, slots := 0, locals := 12 } : Room)) (fun a U => a = #[(.ref s_FLOAT), (.double x1)] ∧ Z.Warmed39 U.vm ∧ U.heap = h0) (fun _ _ _ _ _ => True) (fun _ U o U' => ∃ v L, o = .returned v ∧ (own_Same (.double x1) h0 n0) v U'.heap L ∧ FrameEnd U o U' L 0 0) := by
  refine MetFree.of_bodySF (plainFor_of_name pn3) hisR ?_
  intro p e s m args below meth c s₁ Bd hml0 hP hK
  obtain ⟨rfl, hZ, hh⟩ := hP
  have hx := Bd.exec
  have hby := Bd.bytes
  have hml : c.maxLocals = 5 := hml0
  have hown : s.vm.findClass "com/example/mave/mave/lang/Type" = some m.cls := findClass_of_methodNamed Bd.named
  have hnm := (name_of_methodNamed Bd.named Bd.method).1
  have X0 : Stand p l e ({ frames := 1, cells := 0, slots := 0, locals := 12 } : Room) s m #[(.ref s_FLOAT), (.double x1)] below meth c s₁ [] 0 0 := Stand.of_body Bd
  have e0 : s₁.heap = h0 := by rw [← hh, Bd.state]; rfl
  have N0 := Fr.nil n0
  show own_Goes p e below (own_End s (own_Same (.double x1) h0 n0) 0 0) _
  refine own_go (G := s₁.setTop (mkF m 0 #[.val (.ref s_FLOAT), .val (.double x1), .second, .unset, .unset] [])) (fun t k => castTop (ef_cv_FLOAT m s_FLOAT x1) k) ?_
  refine own_go (G := s₁.setTop (mkF m 1 #[.val (.ref s_FLOAT), .val (.double x1), .second, .unset, .unset] [(.ref s_FLOAT)])) (fun _ k => XS.aloadN X0.here hx rfl (hb hby d3_0) rfl rfl k) ?_
  obtain ⟨cq1, kq1, q1a, q1b, q1c⟩ := isOf hZ e0 E_me
  obtain ⟨_, _, ⟨T1, L1, k1, n1⟩, -, X1, ⟨Lc1, hQ1, l1, y1, z1⟩, st1⟩ := X0.virtualBackUp hx (x := (⟨"com/example/mave/mave/lang/Type", "ordinal", "()I"⟩ : MethodName)) (y := (⟨"java/lang/Enum", "ordinal", "()I"⟩ : MethodName)) (owner := "java/lang/Enum") hown (mvT hZ (hw _ (List.mem_of_getElem? (i := 26) rfl))) (mvT hZ (hw _ (List.mem_of_getElem? (i := 27) rfl))) (mvT hZ (hw _ (List.mem_of_getElem? (i := 28) rfl))) (by decide) (mvT hZ (hw _ (List.mem_of_getElem? (i := 30) rfl))) (mvT hZ (hw _ (List.mem_of_getElem? (i := 29) rfl))) (backOf (W := 0) (rm4 l Z a0 hw [] s_FLOAT (4 : Int32) h0 n0 Z0 F_ord) hZ (hw _ (List.mem_of_getElem? (i := 32) rfl)) (hw _ (List.mem_of_getElem? (i := 31) rfl)) (by decide) (by decide)) q1a q1c (g := (mkF m 1 #[.val (.ref s_FLOAT), .val (.double x1), .second, .unset, .unset] [(.ref s_FLOAT)])) rfl (by rw [hml]; rfl) (Steps.refl _) (argsL := []) (rest := []) (lenOf pd0 rfl) rfl (by show 2 * 0 + _ ≤ _; exact Nat.le_of_eq rfl) (hb hby d3_1) (fun _ _ => ⟨rfl, e0, (by decide : 0 + 0 ≤ _), (by decide : 0 + 0 ≤ _)⟩)
  dsimp only [Pt.U, Pt.locs, Pt.cells, Pt.slots] at X1 l1 y1 z1 st1 hQ1
  subst l1 y1 z1
  obtain ⟨rfl, Nq1, e1⟩ := hQ1
  have N1 := Fr.app N0 Nq1
  have hr1 : F4 s_FLOAT (4 : Int32) = (4 : Int32) := rfl
  rw [hr1] at st1
  refine own_go (G := T1.setTop (mkF m 4 #[.val (.ref s_FLOAT), .val (.double x1), .second, .unset, .unset] [(.int (4 : Int32))])) (fun _ k => st1.trans k) ?_
  refine own_go (G := T1.setTop (mkF m 59 #[.val (.ref s_FLOAT), .val (.double x1), .second, .unset, .unset] [])) (fun _ k => XS.tswIn X1.here hx rfl (pc0 := 4) (pc' := 59) (o := 55) rfl (hb hby d3_4) rfl (by decide) rfl (by decide) (by decide) k) ?_
  refine own_go (G := T1.setTop (mkF m 60 #[.val (.ref s_FLOAT), .val (.double x1), .second, .unset, .unset] [(.double x1)])) (fun _ k => own_dloadN X1.here hx rfl (hb hby d3_59) rfl k) ?_
  refine own_go (G := T1.setTop (mkF m 61 #[.val (.ref s_FLOAT), .val (.double x1), .second, .val (.double x1), .second] [])) (fun _ k => own_dstoreN X1.here hx rfl (hb hby d3_60) rfl (l' := #[.val (.ref s_FLOAT), .val (.double x1), .second, .val (.double x1), .second]) rfl k) ?_
  refine own_go (G := T1.setTop (mkF m 81 #[.val (.ref s_FLOAT), .val (.double x1), .second, .val (.double x1), .second] [])) (fun _ k => XS.goto X1.here hx rfl (pc0 := 61) (pc' := 81) rfl (hb hby d3_61) (by decide) (by decide) k) ?_
  refine own_go (G := T1.setTop (mkF m 82 #[.val (.ref s_FLOAT), .val (.double x1), .second, .val (.double x1), .second] [(.double x1)])) (fun _ k => own_dloadN X1.here hx rfl (hb hby d3_81) rfl k) ?_
  exact own_retD X1 hx Bd.returns (hb hby d3_82) Bd.notSynchronized (by decide) (by decide) ⟨rfl, N1, e1⟩
theorem own_ord {t : Term} {C n dd : String} {k : Int32} {args : Array Value} {s : State} {a : Addr} (h : (Cond.eq (.field t C n dd) (.int k)).value args s none s [] = some true) (ht : t.eval args s none [] s = some (.ref a)) : Fld s s.heap a C n dd (.int k) := by
  obtain ⟨x, y, h1, h2, -, k2⟩ := cmp_v (Or.inl h)
  have e2 : y = .int k := (Option.some.inj h2).symm
  subst e2
  obtain ⟨z, rfl⟩ := k2
  have e3 : (Cond.eq (.field t C n dd) (.int k)).value args s none s [] = some (decide (z = k)) := by simp [Cond.value, h1, h2]
  have e4 : z = k := gotT e3 h
  subst e4
  rw [fld_at ht] at h1
  exact Fld.start h1

theorem own_k {p v : Int32} (h : (p &&& (2147483647 : Int32)) % (6 : Int32) = v) : v = (0 : Int32) ∨ v = (1 : Int32) ∨ v = (2 : Int32) ∨ v = (3 : Int32) ∨ v = (4 : Int32) ∨ v = (5 : Int32) := by
  have a2 := c_mask p 2147483647 31 (by decide) (by decide)
  have a3 := (c_irem (p &&& 2147483647) 6 6 (by decide)).1 (by rw [a2]; omega)
  rw [h] at a3
  simp only [own_ie, show (0 : Int32).toInt = 0 from rfl, show (1 : Int32).toInt = 1 from rfl, show (2 : Int32).toInt = 2 from rfl, show (3 : Int32).toInt = 3 from rfl, show (4 : Int32).toInt = 4 from rfl, show (5 : Int32).toInt = 5 from rfl]
  omega
theorem own_d1 : cmpValue (FP.dcmp (FP.i2d (((FP.d2i (4612811918334230528 : UInt64))).toInt8.toInt32)) (4611686018427387904 : UInt64)) .l = (0 : Int32) := by decide +kernel
theorem own_d2 : cmpValue (FP.dcmp (FP.i2d (((FP.d2i (4612811918334230528 : UInt64))).toInt16.toInt32)) (4611686018427387904 : UInt64)) .l = (0 : Int32) := by decide +kernel
theorem own_d3 : cmpValue (FP.dcmp (FP.i2d (FP.d2i (4612811918334230528 : UInt64))) (4611686018427387904 : UInt64)) .l = (0 : Int32) := by decide +kernel
theorem own_d4 : ¬ (cmpValue (FP.dcmp (4612811918334230528 : UInt64) (4611686018427387904 : UInt64)) .l = (0 : Int32)) := by decide +kernel

theorem pn0 : plainName "com/example/mave/mave/lang/TypeIsIntegralPinLaw" = true := by first | (simp [plainName, overriddenIn]; done) | decide +kernel
theorem pd1 : parseMethodDescriptor "(I)Lcom/example/mave/mave/lang/Type;" = some ⟨[.int], some (.object "com/example/mave/mave/lang/Type")⟩ := by decide +kernel
theorem pd2 : parseMethodDescriptor "()Z" = some ⟨[], some .boolean⟩ := by decide +kernel
theorem pd3 : parseMethodDescriptor "(D)D" = some ⟨[.double], some .double⟩ := by decide +kernel
theorem ef_rm0 (m : MethodId) (p0 : Int32) : entryFrame m #[(.int p0)] maxLocals = mkF m 0 #[.val (.int p0), .unset, .unset, .unset, .unset, .unset] [] := by first | (simp [entryFrame, mkF, argsToLocals, Value.category, maxLocals]; done) | rfl
set_option maxRecDepth 65536 in
set_option maxHeartbeats 40000000 in
theorem rm0 (l : Launch) (Z : State) (a0 : Array Value) (hw : ∀ d ∈ tables_1, d.before a0 Z = true) (ws : List Jvm.Cond) (p0 : Int32) (s_BOOLEAN : Addr) (s_BYTE : Addr) (s_SHORT : Addr) (s_INT : Addr) (s_FLOAT : Addr) (s_REBEC : Addr) (h0 : Heap) (n0 : Nat) (Z0 : n0 ≤ h0.size) (S_BOOLEAN : Sta Z h0 "com/example/mave/mave/lang/Type" "BOOLEAN" "Lcom/example/mave/mave/lang/Type;" (.ref s_BOOLEAN)) (S_BYTE : Sta Z h0 "com/example/mave/mave/lang/Type" "BYTE" "Lcom/example/mave/mave/lang/Type;" (.ref s_BYTE)) (S_SHORT : Sta Z h0 "com/example/mave/mave/lang/Type" "SHORT" "Lcom/example/mave/mave/lang/Type;" (.ref s_SHORT)) (S_INT : Sta Z h0 "com/example/mave/mave/lang/Type" "INT" "Lcom/example/mave/mave/lang/Type;" (.ref s_INT)) (S_FLOAT : Sta Z h0 "com/example/mave/mave/lang/Type" "FLOAT" "Lcom/example/mave/mave/lang/Type;" (.ref s_FLOAT)) (S_REBEC : Sta Z h0 "com/example/mave/mave/lang/Type" "REBEC" "Lcom/example/mave/mave/lang/Type;" (.ref s_REBEC)) (Ex_BOOLEAN : Exa Z h0 s_BOOLEAN "com/example/mave/mave/lang/Type") (Or_BOOLEAN : Fld Z h0 s_BOOLEAN "java/lang/Enum" "ordinal" "I" (.int (0 : Int32))) (Ex_BYTE : Exa Z h0 s_BYTE "com/example/mave/mave/lang/Type") (Or_BYTE : Fld Z h0 s_BYTE "java/lang/Enum" "ordinal" "I" (.int (1 : Int32))) (Ex_SHORT : Exa Z h0 s_SHORT "com/example/mave/mave/lang/Type") (Or_SHORT : Fld Z h0 s_SHORT "java/lang/Enum" "ordinal" "I" (.int (2 : Int32))) (Ex_INT : Exa Z h0 s_INT "com/example/mave/mave/lang/Type") (Or_INT : Fld Z h0 s_INT "java/lang/Enum" "ordinal" "I" (.int (3 : Int32))) (Ex_FLOAT : Exa Z h0 s_FLOAT "com/example/mave/mave/lang/Type") (Or_FLOAT : Fld Z h0 s_FLOAT "java/lang/Enum" "ordinal" "I" (.int (4 : Int32))) (Ex_REBEC : Exa Z h0 s_REBEC "com/example/mave/mave/lang/Type") (Or_REBEC : Fld Z h0 s_REBEC "java/lang/Enum" "ordinal" "I" (.int (5 : Int32))) (n_BOOLEAN_BYTE : s_BOOLEAN ≠ s_BYTE) (n_BOOLEAN_SHORT : s_BOOLEAN ≠ s_SHORT) (n_BOOLEAN_INT : s_BOOLEAN ≠ s_INT) (n_BOOLEAN_FLOAT : s_BOOLEAN ≠ s_FLOAT) (n_BOOLEAN_REBEC : s_BOOLEAN ≠ s_REBEC) (n_BYTE_SHORT : s_BYTE ≠ s_SHORT) (n_BYTE_INT : s_BYTE ≠ s_INT) (n_BYTE_FLOAT : s_BYTE ≠ s_FLOAT) (n_BYTE_REBEC : s_BYTE ≠ s_REBEC) (n_SHORT_INT : s_SHORT ≠ s_INT) (n_SHORT_FLOAT : s_SHORT ≠ s_FLOAT) (n_SHORT_REBEC : s_SHORT ≠ s_REBEC) (n_INT_FLOAT : s_INT ≠ s_FLOAT) (n_INT_REBEC : s_INT ≠ s_REBEC) (n_FLOAT_REBEC : s_FLOAT ≠ s_REBEC) :
    MetFree l x (head1 (Jvm.Cond.code x code maxLocals ret :: ws) room_1) (fun a U => a = #[(.int p0)] ∧ Z.Warmed39 U.vm ∧ U.heap = h0) (fun _ _ _ _ _ => True) (fun _ U o U' => ∃ v L, o = .returned v ∧ (own_True n0) v U'.heap L ∧ FrameEnd U o U' L 0 0) := by
  refine MetFree.of_bodySF (plainFor_of_name pn0) hisR ?_
  intro p e s m args below meth c s₁ Bd hml0 hP hK
  obtain ⟨rfl, hZ, hh⟩ := hP
  have hx := Bd.exec
  have hby := Bd.bytes
  have hml : c.maxLocals = 6 := hml0
  have hown : s.vm.findClass "com/example/mave/mave/lang/TypeIsIntegralPinLaw" = some m.cls := findClass_of_methodNamed Bd.named
  have hnm := (name_of_methodNamed Bd.named Bd.method).1
  have X0 : Stand p l e room_1 s m #[(.int p0)] below meth c s₁ [] 0 0 := Stand.of_body Bd
  have e0 : s₁.heap = h0 := by rw [← hh, Bd.state]; rfl
  have N0 := Fr.nil n0
  show own_Goes p e below (own_End s (own_True n0) 0 0) _
  refine own_go (G := s₁.setTop (mkF m 0 #[.val (.int p0), .unset, .unset, .unset, .unset, .unset] [])) (fun t k => castTop (ef_rm0 m p0) k) ?_
  refine own_go (G := s₁.setTop (mkF m 1 #[.val (.int p0), .unset, .unset, .unset, .unset, .unset] [(.int p0)])) (fun _ k => XS.iloadN X0.here hx rfl (hb hby at_0) rfl k) ?_
  refine own_go (G := s₁.setTop (mkF m 3 #[.val (.int p0), .unset, .unset, .unset, .unset, .unset] [(.int (2147483647 : Int32)), (.int p0)])) (X0.ldcInt hx hown (mvT hZ (hw _ (List.mem_of_getElem? (i := 0) rfl))) (g := (mkF m 1 #[.val (.int p0), .unset, .unset, .unset, .unset, .unset] [(.int p0)])) rfl (hb hby at_1)) ?_
  refine own_go (G := s₁.setTop (mkF m 4 #[.val (.int p0), .unset, .unset, .unset, .unset, .unset] [(.int (p0 &&& (2147483647 : Int32)))])) (fun _ k => XS.iand X0.here hx rfl (hb hby at_3) rfl k) ?_
  refine own_go (G := s₁.setTop (mkF m 6 #[.val (.int p0), .unset, .unset, .unset, .unset, .unset] [(.int (6 : Int32)), (.int (p0 &&& (2147483647 : Int32)))])) (fun _ k => XS.bipush X0.here hx rfl (hb hby at_4) k) ?_
  refine own_go (G := s₁.setTop (mkF m 7 #[.val (.int p0), .unset, .unset, .unset, .unset, .unset] [(.int ((p0 &&& (2147483647 : Int32)) % (6 : Int32)))])) (fun _ k => iremM X0 hx rfl (hb hby at_6) rfl (by decide) k) ?_
  generalize hv1 : ((p0 &&& (2147483647 : Int32)) % (6 : Int32)) = v1
  refine own_go (G := s₁.setTop (mkF m 8 #[.val (.int p0), .val (.int v1), .unset, .unset, .unset, .unset] [])) (fun _ k => XS.istoreN X0.here hx rfl (hb hby at_7) rfl (l' := #[.val (.int p0), .val (.int v1), .unset, .unset, .unset, .unset]) rfl k) ?_
  rcases own_k hv1 with hb_ | hb_ | hb_ | hb_ | hb_ | hb_
  · subst hb_
    refine own_go (G := s₁.setTop (mkF m 9 #[.val (.int p0), .val (.int (0 : Int32)), .unset, .unset, .unset, .unset] [(.int (0 : Int32))])) (fun _ k => XS.iloadN X0.here hx rfl (hb hby at_8) rfl k) ?_
    obtain ⟨_, _, ⟨T2, L2, k2, n2⟩, -, X2, ⟨Lc2, hQ2, l2, y2, z2⟩, st2⟩ := Jvm.LawKit.callS X0 hx (y := (⟨"com/example/mave/mave/lang/TypeIsIntegralPinLaw", "pick", "(I)Lcom/example/mave/mave/lang/Type;"⟩ : MethodName)) hown (mvT hZ (hw _ (List.mem_of_getElem? (i := 1) rfl))) (mvT hZ (hw _ (List.mem_of_getElem? (i := 2) rfl))) (mvT hZ (hw _ (List.mem_of_getElem? (i := 3) rfl))) (mvT hZ (hw _ (List.mem_of_getElem? (i := 4) rfl))) (by decide) (backOf (W := 0) (rm1 l Z a0 hw [] (0 : Int32) s_BOOLEAN s_BYTE s_SHORT s_INT s_FLOAT s_REBEC h0 n0 Z0 S_BOOLEAN S_BYTE S_SHORT S_INT S_FLOAT S_REBEC) hZ (hw _ (List.mem_of_getElem? (i := 4) rfl)) (hw _ (List.mem_of_getElem? (i := 3) rfl)) (by decide) (by decide)) (g := (mkF m 9 #[.val (.int p0), .val (.int (0 : Int32)), .unset, .unset, .unset, .unset] [(.int (0 : Int32))])) rfl (by rw [hml]; rfl) (argsL := [(.int (0 : Int32))]) (rest := []) (lenOf pd1 rfl) rfl (by show 2 * 0 + _ ≤ _; exact Nat.le_of_eq rfl) (hb hby at_9) (fun _ _ => ⟨rfl, e0, (by decide : 0 + 0 ≤ _), (by decide : 0 + 0 ≤ _)⟩)
    dsimp only [Pt.U, Pt.locs, Pt.cells, Pt.slots] at X2 l2 y2 z2 st2 hQ2
    subst l2 y2 z2
    obtain ⟨rfl, Nq2, e2⟩ := hQ2
    have N2 := Fr.app N0 Nq2
    have hr2 : F1 (0 : Int32) s_BOOLEAN s_BYTE s_SHORT s_INT s_FLOAT s_REBEC = s_BOOLEAN := by simp [F1]
    rw [hr2] at st2
    refine own_go (G := T2.setTop (mkF m 12 #[.val (.int p0), .val (.int (0 : Int32)), .unset, .unset, .unset, .unset] [(.ref s_BOOLEAN)])) (st2) ?_
    refine own_go (G := T2.setTop (mkF m 13 #[.val (.int p0), .val (.int (0 : Int32)), .val (.ref s_BOOLEAN), .unset, .unset, .unset] [])) (fun _ k => XS.astoreN X2.here hx rfl (hb hby at_12) rfl rfl (l' := #[.val (.int p0), .val (.int (0 : Int32)), .val (.ref s_BOOLEAN), .unset, .unset, .unset]) rfl k) ?_
    refine own_go (G := T2.setTop (mkF m 14 #[.val (.int p0), .val (.int (0 : Int32)), .val (.ref s_BOOLEAN), .unset, .unset, .unset] [(.ref s_BOOLEAN)])) (fun _ k => XS.aloadN X2.here hx rfl (hb hby at_13) rfl rfl k) ?_
    obtain ⟨cq3, kq3, q3a, q3b, q3c⟩ := isOf hZ e2 Ex_BOOLEAN
    obtain ⟨_, _, ⟨T3, L3, k3, n3⟩, -, X3, ⟨Lc3, hQ3, l3, y3, z3⟩, st3⟩ := X2.virtualBack hx (y := (⟨"com/example/mave/mave/lang/Type", "isIntegral", "()Z"⟩ : MethodName)) (z := (⟨"com/example/mave/mave/lang/Type", "isIntegral", "()Z"⟩ : MethodName)) hown (mvT hZ (hw _ (List.mem_of_getElem? (i := 8) rfl))) (mvT hZ (hw _ (List.mem_of_getElem? (i := 9) rfl))) (notFace_of_selects (args := #[]) (mvT hZ (hw _ (List.mem_of_getElem? (i := 11) rfl)))) (mvT hZ (hw _ (List.mem_of_getElem? (i := 11) rfl))) (mvT hZ (hw _ (List.mem_of_getElem? (i := 10) rfl))) (by decide) (backOf (W := 0) (ii_BOOLEAN l Z a0 hw [] s_BOOLEAN s_BYTE s_SHORT s_INT h0 n0 Z0 S_BYTE S_SHORT S_INT n_BOOLEAN_BYTE n_BOOLEAN_SHORT n_BOOLEAN_INT) hZ (hw _ (List.mem_of_getElem? (i := 12) rfl)) (hw _ (List.mem_of_getElem? (i := 6) rfl)) (by decide) (by decide)) q3a q3c (g := (mkF m 14 #[.val (.int p0), .val (.int (0 : Int32)), .val (.ref s_BOOLEAN), .unset, .unset, .unset] [(.ref s_BOOLEAN)])) rfl (by rw [hml]; rfl) (Steps.refl _) (argsL := []) (rest := []) (lenOf pd2 rfl) rfl (by show 2 * 0 + _ ≤ _; exact Nat.le_of_eq rfl) (hb hby at_14) (fun _ _ => ⟨rfl, e2, (by decide : 0 + 0 ≤ _), (by decide : 0 + 0 ≤ _)⟩)
    dsimp only [Pt.U, Pt.locs, Pt.cells, Pt.slots] at X3 l3 y3 z3 st3 hQ3
    subst l3 y3 z3
    obtain ⟨rfl, Nq3, e3⟩ := hQ3
    have N3 := Fr.app N2 Nq3
    refine own_go (G := T3.setTop (mkF m 17 #[.val (.int p0), .val (.int (0 : Int32)), .val (.ref s_BOOLEAN), .unset, .unset, .unset] [(.int (0 : Int32))])) (fun _ k => st3.trans k) ?_
    refine own_go (G := T3.setTop (mkF m 18 #[.val (.int p0), .val (.int (0 : Int32)), .val (.ref s_BOOLEAN), .val (.int (0 : Int32)), .unset, .unset] [])) (fun _ k => XS.istoreN X3.here hx rfl (hb hby at_17) rfl (l' := #[.val (.int p0), .val (.int (0 : Int32)), .val (.ref s_BOOLEAN), .val (.int (0 : Int32)), .unset, .unset]) rfl k) ?_
    refine own_go (G := T3.setTop (mkF m 19 #[.val (.int p0), .val (.int (0 : Int32)), .val (.ref s_BOOLEAN), .val (.int (0 : Int32)), .unset, .unset] [(.int (0 : Int32))])) (fun _ k => XS.iloadN X3.here hx rfl (hb hby at_18) rfl k) ?_
    refine own_go (G := T3.setTop (mkF m 20 #[.val (.int p0), .val (.int (0 : Int32)), .val (.ref s_BOOLEAN), .val (.int (0 : Int32)), .unset, .unset] [(.int (1 : Int32)), (.int (0 : Int32))])) (fun _ k => XS.iconst X3.here hx rfl (hb hby at_19) k) ?_
    refine own_go (G := T3.setTop (mkF m 32 #[.val (.int p0), .val (.int (0 : Int32)), .val (.ref s_BOOLEAN), .val (.int (0 : Int32)), .unset, .unset] [])) (fun _ k => XS.icmpYes X3.here hx rfl (pc0 := 20) (pc' := 32) rfl (hb hby at_20) rfl (tlt (by decide : (0 : Int32) < (1 : Int32))).1 (by decide) (by decide) k) ?_
    refine own_go (G := T3.setTop (mkF m 33 #[.val (.int p0), .val (.int (0 : Int32)), .val (.ref s_BOOLEAN), .val (.int (0 : Int32)), .unset, .unset] [(.int (0 : Int32))])) (fun _ k => XS.iconst X3.here hx rfl (hb hby at_32) k) ?_
    refine own_go (G := T3.setTop (mkF m 35 #[.val (.int p0), .val (.int (0 : Int32)), .val (.ref s_BOOLEAN), .val (.int (0 : Int32)), .val (.int (0 : Int32)), .unset] [])) (fun _ k => XS.istore X3.here hx rfl (hb hby at_33) rfl (l' := #[.val (.int p0), .val (.int (0 : Int32)), .val (.ref s_BOOLEAN), .val (.int (0 : Int32)), .val (.int (0 : Int32)), .unset]) rfl k) ?_
    refine own_go (G := T3.setTop (mkF m 36 #[.val (.int p0), .val (.int (0 : Int32)), .val (.ref s_BOOLEAN), .val (.int (0 : Int32)), .val (.int (0 : Int32)), .unset] [(.int (0 : Int32))])) (fun _ k => XS.iloadN X3.here hx rfl (hb hby at_35) rfl k) ?_
    refine own_go (G := T3.setTop (mkF m 38 #[.val (.int p0), .val (.int (0 : Int32)), .val (.ref s_BOOLEAN), .val (.int (0 : Int32)), .val (.int (0 : Int32)), .unset] [(.int (0 : Int32)), (.int (0 : Int32))])) (fun _ k => XS.iload X3.here hx rfl (hb hby at_36) rfl k) ?_
    refine own_go (G := T3.setTop (mkF m 43 #[.val (.int p0), .val (.int (0 : Int32)), .val (.ref s_BOOLEAN), .val (.int (0 : Int32)), .val (.int (0 : Int32)), .unset] [])) (fun _ k => XS.icmpYes X3.here hx rfl (pc0 := 38) (pc' := 43) rfl (hb hby at_38) rfl (teq (by decide : (0 : Int32) = (0 : Int32))).1 (by decide) (by decide) k) ?_
    refine own_go (G := T3.setTop (mkF m 44 #[.val (.int p0), .val (.int (0 : Int32)), .val (.ref s_BOOLEAN), .val (.int (0 : Int32)), .val (.int (0 : Int32)), .unset] [(.int (0 : Int32))])) (fun _ k => XS.iloadN X3.here hx rfl (hb hby at_43) rfl k) ?_
    refine own_go (G := T3.setTop (mkF m 45 #[.val (.int p0), .val (.int (0 : Int32)), .val (.ref s_BOOLEAN), .val (.int (0 : Int32)), .val (.int (0 : Int32)), .unset] [(.int (1 : Int32)), (.int (0 : Int32))])) (fun _ k => XS.iconst X3.here hx rfl (hb hby at_44) k) ?_
    refine own_go (G := T3.setTop (mkF m 82 #[.val (.int p0), .val (.int (0 : Int32)), .val (.ref s_BOOLEAN), .val (.int (0 : Int32)), .val (.int (0 : Int32)), .unset] [])) (fun _ k => XS.icmpYes X3.here hx rfl (pc0 := 45) (pc' := 82) rfl (hb hby at_45) rfl (tlt (by decide : (0 : Int32) < (1 : Int32))).1 (by decide) (by decide) k) ?_
    refine own_go (G := T3.setTop (mkF m 83 #[.val (.int p0), .val (.int (0 : Int32)), .val (.ref s_BOOLEAN), .val (.int (0 : Int32)), .val (.int (0 : Int32)), .unset] [(.int (1 : Int32))])) (fun _ k => XS.iconst X3.here hx rfl (hb hby at_82) k) ?_
    exact own_ret1 X3 hx Bd.returns (hb hby at_83) Bd.notSynchronized (by decide) (by decide) ⟨rfl, N3⟩
  · subst hb_
    refine own_go (G := s₁.setTop (mkF m 9 #[.val (.int p0), .val (.int (1 : Int32)), .unset, .unset, .unset, .unset] [(.int (1 : Int32))])) (fun _ k => XS.iloadN X0.here hx rfl (hb hby at_8) rfl k) ?_
    obtain ⟨_, _, ⟨T4, L4, k4, n4⟩, -, X4, ⟨Lc4, hQ4, l4, y4, z4⟩, st4⟩ := Jvm.LawKit.callS X0 hx (y := (⟨"com/example/mave/mave/lang/TypeIsIntegralPinLaw", "pick", "(I)Lcom/example/mave/mave/lang/Type;"⟩ : MethodName)) hown (mvT hZ (hw _ (List.mem_of_getElem? (i := 1) rfl))) (mvT hZ (hw _ (List.mem_of_getElem? (i := 2) rfl))) (mvT hZ (hw _ (List.mem_of_getElem? (i := 3) rfl))) (mvT hZ (hw _ (List.mem_of_getElem? (i := 4) rfl))) (by decide) (backOf (W := 0) (rm1 l Z a0 hw [] (1 : Int32) s_BOOLEAN s_BYTE s_SHORT s_INT s_FLOAT s_REBEC h0 n0 Z0 S_BOOLEAN S_BYTE S_SHORT S_INT S_FLOAT S_REBEC) hZ (hw _ (List.mem_of_getElem? (i := 4) rfl)) (hw _ (List.mem_of_getElem? (i := 3) rfl)) (by decide) (by decide)) (g := (mkF m 9 #[.val (.int p0), .val (.int (1 : Int32)), .unset, .unset, .unset, .unset] [(.int (1 : Int32))])) rfl (by rw [hml]; rfl) (argsL := [(.int (1 : Int32))]) (rest := []) (lenOf pd1 rfl) rfl (by show 2 * 0 + _ ≤ _; exact Nat.le_of_eq rfl) (hb hby at_9) (fun _ _ => ⟨rfl, e0, (by decide : 0 + 0 ≤ _), (by decide : 0 + 0 ≤ _)⟩)
    dsimp only [Pt.U, Pt.locs, Pt.cells, Pt.slots] at X4 l4 y4 z4 st4 hQ4
    subst l4 y4 z4
    obtain ⟨rfl, Nq4, e4⟩ := hQ4
    have N4 := Fr.app N0 Nq4
    have hr4 : F1 (1 : Int32) s_BOOLEAN s_BYTE s_SHORT s_INT s_FLOAT s_REBEC = s_BYTE := by simp [F1]
    rw [hr4] at st4
    refine own_go (G := T4.setTop (mkF m 12 #[.val (.int p0), .val (.int (1 : Int32)), .unset, .unset, .unset, .unset] [(.ref s_BYTE)])) (st4) ?_
    refine own_go (G := T4.setTop (mkF m 13 #[.val (.int p0), .val (.int (1 : Int32)), .val (.ref s_BYTE), .unset, .unset, .unset] [])) (fun _ k => XS.astoreN X4.here hx rfl (hb hby at_12) rfl rfl (l' := #[.val (.int p0), .val (.int (1 : Int32)), .val (.ref s_BYTE), .unset, .unset, .unset]) rfl k) ?_
    refine own_go (G := T4.setTop (mkF m 14 #[.val (.int p0), .val (.int (1 : Int32)), .val (.ref s_BYTE), .unset, .unset, .unset] [(.ref s_BYTE)])) (fun _ k => XS.aloadN X4.here hx rfl (hb hby at_13) rfl rfl k) ?_
    obtain ⟨cq5, kq5, q5a, q5b, q5c⟩ := isOf hZ e4 Ex_BYTE
    obtain ⟨_, _, ⟨T5, L5, k5, n5⟩, -, X5, ⟨Lc5, hQ5, l5, y5, z5⟩, st5⟩ := X4.virtualBack hx (y := (⟨"com/example/mave/mave/lang/Type", "isIntegral", "()Z"⟩ : MethodName)) (z := (⟨"com/example/mave/mave/lang/Type", "isIntegral", "()Z"⟩ : MethodName)) hown (mvT hZ (hw _ (List.mem_of_getElem? (i := 8) rfl))) (mvT hZ (hw _ (List.mem_of_getElem? (i := 9) rfl))) (notFace_of_selects (args := #[]) (mvT hZ (hw _ (List.mem_of_getElem? (i := 11) rfl)))) (mvT hZ (hw _ (List.mem_of_getElem? (i := 11) rfl))) (mvT hZ (hw _ (List.mem_of_getElem? (i := 10) rfl))) (by decide) (backOf (W := 0) (ii_BYTE l Z a0 hw [] s_BYTE s_SHORT s_INT h0 n0 Z0 S_BYTE S_SHORT S_INT n_BYTE_SHORT n_BYTE_INT) hZ (hw _ (List.mem_of_getElem? (i := 12) rfl)) (hw _ (List.mem_of_getElem? (i := 6) rfl)) (by decide) (by decide)) q5a q5c (g := (mkF m 14 #[.val (.int p0), .val (.int (1 : Int32)), .val (.ref s_BYTE), .unset, .unset, .unset] [(.ref s_BYTE)])) rfl (by rw [hml]; rfl) (Steps.refl _) (argsL := []) (rest := []) (lenOf pd2 rfl) rfl (by show 2 * 0 + _ ≤ _; exact Nat.le_of_eq rfl) (hb hby at_14) (fun _ _ => ⟨rfl, e4, (by decide : 0 + 0 ≤ _), (by decide : 0 + 0 ≤ _)⟩)
    dsimp only [Pt.U, Pt.locs, Pt.cells, Pt.slots] at X5 l5 y5 z5 st5 hQ5
    subst l5 y5 z5
    obtain ⟨rfl, Nq5, e5⟩ := hQ5
    have N5 := Fr.app N4 Nq5
    refine own_go (G := T5.setTop (mkF m 17 #[.val (.int p0), .val (.int (1 : Int32)), .val (.ref s_BYTE), .unset, .unset, .unset] [(.int (1 : Int32))])) (fun _ k => st5.trans k) ?_
    refine own_go (G := T5.setTop (mkF m 18 #[.val (.int p0), .val (.int (1 : Int32)), .val (.ref s_BYTE), .val (.int (1 : Int32)), .unset, .unset] [])) (fun _ k => XS.istoreN X5.here hx rfl (hb hby at_17) rfl (l' := #[.val (.int p0), .val (.int (1 : Int32)), .val (.ref s_BYTE), .val (.int (1 : Int32)), .unset, .unset]) rfl k) ?_
    refine own_go (G := T5.setTop (mkF m 19 #[.val (.int p0), .val (.int (1 : Int32)), .val (.ref s_BYTE), .val (.int (1 : Int32)), .unset, .unset] [(.int (1 : Int32))])) (fun _ k => XS.iloadN X5.here hx rfl (hb hby at_18) rfl k) ?_
    refine own_go (G := T5.setTop (mkF m 20 #[.val (.int p0), .val (.int (1 : Int32)), .val (.ref s_BYTE), .val (.int (1 : Int32)), .unset, .unset] [(.int (1 : Int32)), (.int (1 : Int32))])) (fun _ k => XS.iconst X5.here hx rfl (hb hby at_19) k) ?_
    refine own_go (G := T5.setTop (mkF m 23 #[.val (.int p0), .val (.int (1 : Int32)), .val (.ref s_BYTE), .val (.int (1 : Int32)), .unset, .unset] [])) (fun _ k => XS.icmpNo X5.here hx rfl (hb hby at_20) rfl (flt (by decide : ¬ ((1 : Int32) < (1 : Int32)))).1 k) ?_
    refine own_go (G := T5.setTop (mkF m 24 #[.val (.int p0), .val (.int (1 : Int32)), .val (.ref s_BYTE), .val (.int (1 : Int32)), .unset, .unset] [(.int (1 : Int32))])) (fun _ k => XS.iloadN X5.here hx rfl (hb hby at_23) rfl k) ?_
    refine own_go (G := T5.setTop (mkF m 25 #[.val (.int p0), .val (.int (1 : Int32)), .val (.ref s_BYTE), .val (.int (1 : Int32)), .unset, .unset] [(.int (3 : Int32)), (.int (1 : Int32))])) (fun _ k => XS.iconst X5.here hx rfl (hb hby at_24) k) ?_
    refine own_go (G := T5.setTop (mkF m 28 #[.val (.int p0), .val (.int (1 : Int32)), .val (.ref s_BYTE), .val (.int (1 : Int32)), .unset, .unset] [])) (fun _ k => XS.icmpNo X5.here hx rfl (hb hby at_25) rfl (flt (by decide : ¬ ((3 : Int32) < (1 : Int32)))).2.2.1 k) ?_
    refine own_go (G := T5.setTop (mkF m 29 #[.val (.int p0), .val (.int (1 : Int32)), .val (.ref s_BYTE), .val (.int (1 : Int32)), .unset, .unset] [(.int (1 : Int32))])) (fun _ k => XS.iconst X5.here hx rfl (hb hby at_28) k) ?_
    refine own_go (G := T5.setTop (mkF m 33 #[.val (.int p0), .val (.int (1 : Int32)), .val (.ref s_BYTE), .val (.int (1 : Int32)), .unset, .unset] [(.int (1 : Int32))])) (fun _ k => XS.goto X5.here hx rfl (pc0 := 29) (pc' := 33) rfl (hb hby at_29) (by decide) (by decide) k) ?_
    refine own_go (G := T5.setTop (mkF m 35 #[.val (.int p0), .val (.int (1 : Int32)), .val (.ref s_BYTE), .val (.int (1 : Int32)), .val (.int (1 : Int32)), .unset] [])) (fun _ k => XS.istore X5.here hx rfl (hb hby at_33) rfl (l' := #[.val (.int p0), .val (.int (1 : Int32)), .val (.ref s_BYTE), .val (.int (1 : Int32)), .val (.int (1 : Int32)), .unset]) rfl k) ?_
    refine own_go (G := T5.setTop (mkF m 36 #[.val (.int p0), .val (.int (1 : Int32)), .val (.ref s_BYTE), .val (.int (1 : Int32)), .val (.int (1 : Int32)), .unset] [(.int (1 : Int32))])) (fun _ k => XS.iloadN X5.here hx rfl (hb hby at_35) rfl k) ?_
    refine own_go (G := T5.setTop (mkF m 38 #[.val (.int p0), .val (.int (1 : Int32)), .val (.ref s_BYTE), .val (.int (1 : Int32)), .val (.int (1 : Int32)), .unset] [(.int (1 : Int32)), (.int (1 : Int32))])) (fun _ k => XS.iload X5.here hx rfl (hb hby at_36) rfl k) ?_
    refine own_go (G := T5.setTop (mkF m 43 #[.val (.int p0), .val (.int (1 : Int32)), .val (.ref s_BYTE), .val (.int (1 : Int32)), .val (.int (1 : Int32)), .unset] [])) (fun _ k => XS.icmpYes X5.here hx rfl (pc0 := 38) (pc' := 43) rfl (hb hby at_38) rfl (teq (by decide : (1 : Int32) = (1 : Int32))).1 (by decide) (by decide) k) ?_
    refine own_go (G := T5.setTop (mkF m 44 #[.val (.int p0), .val (.int (1 : Int32)), .val (.ref s_BYTE), .val (.int (1 : Int32)), .val (.int (1 : Int32)), .unset] [(.int (1 : Int32))])) (fun _ k => XS.iloadN X5.here hx rfl (hb hby at_43) rfl k) ?_
    refine own_go (G := T5.setTop (mkF m 45 #[.val (.int p0), .val (.int (1 : Int32)), .val (.ref s_BYTE), .val (.int (1 : Int32)), .val (.int (1 : Int32)), .unset] [(.int (1 : Int32)), (.int (1 : Int32))])) (fun _ k => XS.iconst X5.here hx rfl (hb hby at_44) k) ?_
    refine own_go (G := T5.setTop (mkF m 48 #[.val (.int p0), .val (.int (1 : Int32)), .val (.ref s_BYTE), .val (.int (1 : Int32)), .val (.int (1 : Int32)), .unset] [])) (fun _ k => XS.icmpNo X5.here hx rfl (hb hby at_45) rfl (flt (by decide : ¬ ((1 : Int32) < (1 : Int32)))).1 k) ?_
    refine own_go (G := T5.setTop (mkF m 49 #[.val (.int p0), .val (.int (1 : Int32)), .val (.ref s_BYTE), .val (.int (1 : Int32)), .val (.int (1 : Int32)), .unset] [(.int (1 : Int32))])) (fun _ k => XS.iloadN X5.here hx rfl (hb hby at_48) rfl k) ?_
    refine own_go (G := T5.setTop (mkF m 50 #[.val (.int p0), .val (.int (1 : Int32)), .val (.ref s_BYTE), .val (.int (1 : Int32)), .val (.int (1 : Int32)), .unset] [(.int (4 : Int32)), (.int (1 : Int32))])) (fun _ k => XS.iconst X5.here hx rfl (hb hby at_49) k) ?_
    refine own_go (G := T5.setTop (mkF m 53 #[.val (.int p0), .val (.int (1 : Int32)), .val (.ref s_BYTE), .val (.int (1 : Int32)), .val (.int (1 : Int32)), .unset] [])) (fun _ k => XS.icmpNo X5.here hx rfl (hb hby at_50) rfl (flt (by decide : ¬ ((4 : Int32) < (1 : Int32)))).2.2.1 k) ?_
    refine own_go (G := T5.setTop (mkF m 54 #[.val (.int p0), .val (.int (1 : Int32)), .val (.ref s_BYTE), .val (.int (1 : Int32)), .val (.int (1 : Int32)), .unset] [(.ref s_BYTE)])) (fun _ k => XS.aloadN X5.here hx rfl (hb hby at_53) rfl rfl k) ?_
    refine own_go (G := T5.setTop (mkF m 57 #[.val (.int p0), .val (.int (1 : Int32)), .val (.ref s_BYTE), .val (.int (1 : Int32)), .val (.int (1 : Int32)), .unset] [(.double (4612811918334230528 : UInt64)), (.ref s_BYTE)])) (X5.ldc2DoubleC hx hown (mvT hZ (hw _ (List.mem_of_getElem? (i := 20) rfl))) (g := (mkF m 54 #[.val (.int p0), .val (.int (1 : Int32)), .val (.ref s_BYTE), .val (.int (1 : Int32)), .val (.int (1 : Int32)), .unset] [(.ref s_BYTE)])) rfl (hb hby at_54)) ?_
    obtain ⟨cq6, kq6, q6a, q6b, q6c⟩ := isOf hZ e5 Ex_BYTE
    obtain ⟨_, _, ⟨T6, L6, k6, n6⟩, -, X6, ⟨Lc6, hQ6, l6, y6, z6⟩, st6⟩ := X5.virtualBack hx (y := (⟨"com/example/mave/mave/lang/Type", "convert", "(D)D"⟩ : MethodName)) (z := (⟨"com/example/mave/mave/lang/Type", "convert", "(D)D"⟩ : MethodName)) hown (mvT hZ (hw _ (List.mem_of_getElem? (i := 21) rfl))) (mvT hZ (hw _ (List.mem_of_getElem? (i := 22) rfl))) (notFace_of_selects (args := #[]) (mvT hZ (hw _ (List.mem_of_getElem? (i := 24) rfl)))) (mvT hZ (hw _ (List.mem_of_getElem? (i := 24) rfl))) (mvT hZ (hw _ (List.mem_of_getElem? (i := 23) rfl))) (by decide) (backOf (W := 0) (cv_BYTE l Z a0 hw [] s_BYTE (4612811918334230528 : UInt64) h0 n0 Z0 Or_BYTE Ex_BYTE) hZ (hw _ (List.mem_of_getElem? (i := 25) rfl)) (hw _ (List.mem_of_getElem? (i := 6) rfl)) (by decide) (by decide)) q6a q6c (g := (mkF m 57 #[.val (.int p0), .val (.int (1 : Int32)), .val (.ref s_BYTE), .val (.int (1 : Int32)), .val (.int (1 : Int32)), .unset] [(.double (4612811918334230528 : UInt64)), (.ref s_BYTE)])) rfl (by rw [hml]; rfl) (Steps.refl _) (argsL := [(.double (4612811918334230528 : UInt64))]) (rest := []) (lenOf pd3 rfl) rfl (by show 2 * 0 + _ ≤ _; exact Nat.le_of_eq rfl) (hb hby at_57) (fun _ _ => ⟨rfl, e5, (by decide : 0 + 0 ≤ _), (by decide : 0 + 0 ≤ _)⟩)
    dsimp only [Pt.U, Pt.locs, Pt.cells, Pt.slots] at X6 l6 y6 z6 st6 hQ6
    subst l6 y6 z6
    obtain ⟨rfl, Nq6, e6⟩ := hQ6
    have N6 := Fr.app N5 Nq6
    refine own_go (G := T6.setTop (mkF m 60 #[.val (.int p0), .val (.int (1 : Int32)), .val (.ref s_BYTE), .val (.int (1 : Int32)), .val (.int (1 : Int32)), .unset] [(.double (FP.i2d (((FP.d2i (4612811918334230528 : UInt64))).toInt8.toInt32)))])) (fun _ k => st6.trans k) ?_
    refine own_go (G := T6.setTop (mkF m 63 #[.val (.int p0), .val (.int (1 : Int32)), .val (.ref s_BYTE), .val (.int (1 : Int32)), .val (.int (1 : Int32)), .unset] [(.double (4611686018427387904 : UInt64)), (.double (FP.i2d (((FP.d2i (4612811918334230528 : UInt64))).toInt8.toInt32)))])) (X6.ldc2DoubleC hx hown (mvT hZ (hw _ (List.mem_of_getElem? (i := 35) rfl))) (g := (mkF m 60 #[.val (.int p0), .val (.int (1 : Int32)), .val (.ref s_BYTE), .val (.int (1 : Int32)), .val (.int (1 : Int32)), .unset] [(.double (FP.i2d (((FP.d2i (4612811918334230528 : UInt64))).toInt8.toInt32)))])) rfl (hb hby at_60)) ?_
    refine own_go (G := T6.setTop (mkF m 64 #[.val (.int p0), .val (.int (1 : Int32)), .val (.ref s_BYTE), .val (.int (1 : Int32)), .val (.int (1 : Int32)), .unset] [(.int (cmpValue (FP.dcmp (FP.i2d (((FP.d2i (4612811918334230528 : UInt64))).toInt8.toInt32)) (4611686018427387904 : UInt64)) .l))])) (fun _ k => own_dcmp X6.here hx rfl (hb hby at_63) rfl k) ?_
    refine own_go (G := T6.setTop (mkF m 67 #[.val (.int p0), .val (.int (1 : Int32)), .val (.ref s_BYTE), .val (.int (1 : Int32)), .val (.int (1 : Int32)), .unset] [])) (fun _ k => XS.ifNo X6.here hx rfl (hb hby at_64) rfl ((if0 _ _).trans (teq (own_d1 : (cmpValue (FP.dcmp (FP.i2d (((FP.d2i (4612811918334230528 : UInt64))).toInt8.toInt32)) (4611686018427387904 : UInt64)) .l) = (0 : Int32))).2) k) ?_
    refine own_go (G := T6.setTop (mkF m 68 #[.val (.int p0), .val (.int (1 : Int32)), .val (.ref s_BYTE), .val (.int (1 : Int32)), .val (.int (1 : Int32)), .unset] [(.int (1 : Int32))])) (fun _ k => XS.iconst X6.here hx rfl (hb hby at_67) k) ?_
    refine own_go (G := T6.setTop (mkF m 72 #[.val (.int p0), .val (.int (1 : Int32)), .val (.ref s_BYTE), .val (.int (1 : Int32)), .val (.int (1 : Int32)), .unset] [(.int (1 : Int32))])) (fun _ k => XS.goto X6.here hx rfl (pc0 := 68) (pc' := 72) rfl (hb hby at_68) (by decide) (by decide) k) ?_
    refine own_go (G := T6.setTop (mkF m 74 #[.val (.int p0), .val (.int (1 : Int32)), .val (.ref s_BYTE), .val (.int (1 : Int32)), .val (.int (1 : Int32)), .val (.int (1 : Int32))] [])) (fun _ k => XS.istore X6.here hx rfl (hb hby at_72) rfl (l' := #[.val (.int p0), .val (.int (1 : Int32)), .val (.ref s_BYTE), .val (.int (1 : Int32)), .val (.int (1 : Int32)), .val (.int (1 : Int32))]) rfl k) ?_
    refine own_go (G := T6.setTop (mkF m 75 #[.val (.int p0), .val (.int (1 : Int32)), .val (.ref s_BYTE), .val (.int (1 : Int32)), .val (.int (1 : Int32)), .val (.int (1 : Int32))] [(.int (1 : Int32))])) (fun _ k => XS.iloadN X6.here hx rfl (hb hby at_74) rfl k) ?_
    refine own_go (G := T6.setTop (mkF m 77 #[.val (.int p0), .val (.int (1 : Int32)), .val (.ref s_BYTE), .val (.int (1 : Int32)), .val (.int (1 : Int32)), .val (.int (1 : Int32))] [(.int (1 : Int32)), (.int (1 : Int32))])) (fun _ k => XS.iload X6.here hx rfl (hb hby at_75) rfl k) ?_
    refine own_go (G := T6.setTop (mkF m 82 #[.val (.int p0), .val (.int (1 : Int32)), .val (.ref s_BYTE), .val (.int (1 : Int32)), .val (.int (1 : Int32)), .val (.int (1 : Int32))] [])) (fun _ k => XS.icmpYes X6.here hx rfl (pc0 := 77) (pc' := 82) rfl (hb hby at_77) rfl (teq (by decide : (1 : Int32) = (1 : Int32))).1 (by decide) (by decide) k) ?_
    refine own_go (G := T6.setTop (mkF m 83 #[.val (.int p0), .val (.int (1 : Int32)), .val (.ref s_BYTE), .val (.int (1 : Int32)), .val (.int (1 : Int32)), .val (.int (1 : Int32))] [(.int (1 : Int32))])) (fun _ k => XS.iconst X6.here hx rfl (hb hby at_82) k) ?_
    exact own_ret1 X6 hx Bd.returns (hb hby at_83) Bd.notSynchronized (by decide) (by decide) ⟨rfl, N6⟩
  · subst hb_
    refine own_go (G := s₁.setTop (mkF m 9 #[.val (.int p0), .val (.int (2 : Int32)), .unset, .unset, .unset, .unset] [(.int (2 : Int32))])) (fun _ k => XS.iloadN X0.here hx rfl (hb hby at_8) rfl k) ?_
    obtain ⟨_, _, ⟨T7, L7, k7, n7⟩, -, X7, ⟨Lc7, hQ7, l7, y7, z7⟩, st7⟩ := Jvm.LawKit.callS X0 hx (y := (⟨"com/example/mave/mave/lang/TypeIsIntegralPinLaw", "pick", "(I)Lcom/example/mave/mave/lang/Type;"⟩ : MethodName)) hown (mvT hZ (hw _ (List.mem_of_getElem? (i := 1) rfl))) (mvT hZ (hw _ (List.mem_of_getElem? (i := 2) rfl))) (mvT hZ (hw _ (List.mem_of_getElem? (i := 3) rfl))) (mvT hZ (hw _ (List.mem_of_getElem? (i := 4) rfl))) (by decide) (backOf (W := 0) (rm1 l Z a0 hw [] (2 : Int32) s_BOOLEAN s_BYTE s_SHORT s_INT s_FLOAT s_REBEC h0 n0 Z0 S_BOOLEAN S_BYTE S_SHORT S_INT S_FLOAT S_REBEC) hZ (hw _ (List.mem_of_getElem? (i := 4) rfl)) (hw _ (List.mem_of_getElem? (i := 3) rfl)) (by decide) (by decide)) (g := (mkF m 9 #[.val (.int p0), .val (.int (2 : Int32)), .unset, .unset, .unset, .unset] [(.int (2 : Int32))])) rfl (by rw [hml]; rfl) (argsL := [(.int (2 : Int32))]) (rest := []) (lenOf pd1 rfl) rfl (by show 2 * 0 + _ ≤ _; exact Nat.le_of_eq rfl) (hb hby at_9) (fun _ _ => ⟨rfl, e0, (by decide : 0 + 0 ≤ _), (by decide : 0 + 0 ≤ _)⟩)
    dsimp only [Pt.U, Pt.locs, Pt.cells, Pt.slots] at X7 l7 y7 z7 st7 hQ7
    subst l7 y7 z7
    obtain ⟨rfl, Nq7, e7⟩ := hQ7
    have N7 := Fr.app N0 Nq7
    have hr7 : F1 (2 : Int32) s_BOOLEAN s_BYTE s_SHORT s_INT s_FLOAT s_REBEC = s_SHORT := by simp [F1]
    rw [hr7] at st7
    refine own_go (G := T7.setTop (mkF m 12 #[.val (.int p0), .val (.int (2 : Int32)), .unset, .unset, .unset, .unset] [(.ref s_SHORT)])) (st7) ?_
    refine own_go (G := T7.setTop (mkF m 13 #[.val (.int p0), .val (.int (2 : Int32)), .val (.ref s_SHORT), .unset, .unset, .unset] [])) (fun _ k => XS.astoreN X7.here hx rfl (hb hby at_12) rfl rfl (l' := #[.val (.int p0), .val (.int (2 : Int32)), .val (.ref s_SHORT), .unset, .unset, .unset]) rfl k) ?_
    refine own_go (G := T7.setTop (mkF m 14 #[.val (.int p0), .val (.int (2 : Int32)), .val (.ref s_SHORT), .unset, .unset, .unset] [(.ref s_SHORT)])) (fun _ k => XS.aloadN X7.here hx rfl (hb hby at_13) rfl rfl k) ?_
    obtain ⟨cq8, kq8, q8a, q8b, q8c⟩ := isOf hZ e7 Ex_SHORT
    obtain ⟨_, _, ⟨T8, L8, k8, n8⟩, -, X8, ⟨Lc8, hQ8, l8, y8, z8⟩, st8⟩ := X7.virtualBack hx (y := (⟨"com/example/mave/mave/lang/Type", "isIntegral", "()Z"⟩ : MethodName)) (z := (⟨"com/example/mave/mave/lang/Type", "isIntegral", "()Z"⟩ : MethodName)) hown (mvT hZ (hw _ (List.mem_of_getElem? (i := 8) rfl))) (mvT hZ (hw _ (List.mem_of_getElem? (i := 9) rfl))) (notFace_of_selects (args := #[]) (mvT hZ (hw _ (List.mem_of_getElem? (i := 11) rfl)))) (mvT hZ (hw _ (List.mem_of_getElem? (i := 11) rfl))) (mvT hZ (hw _ (List.mem_of_getElem? (i := 10) rfl))) (by decide) (backOf (W := 0) (ii_SHORT l Z a0 hw [] s_SHORT s_BYTE s_INT h0 n0 Z0 S_BYTE S_SHORT S_INT n_BYTE_SHORT n_SHORT_INT) hZ (hw _ (List.mem_of_getElem? (i := 12) rfl)) (hw _ (List.mem_of_getElem? (i := 6) rfl)) (by decide) (by decide)) q8a q8c (g := (mkF m 14 #[.val (.int p0), .val (.int (2 : Int32)), .val (.ref s_SHORT), .unset, .unset, .unset] [(.ref s_SHORT)])) rfl (by rw [hml]; rfl) (Steps.refl _) (argsL := []) (rest := []) (lenOf pd2 rfl) rfl (by show 2 * 0 + _ ≤ _; exact Nat.le_of_eq rfl) (hb hby at_14) (fun _ _ => ⟨rfl, e7, (by decide : 0 + 0 ≤ _), (by decide : 0 + 0 ≤ _)⟩)
    dsimp only [Pt.U, Pt.locs, Pt.cells, Pt.slots] at X8 l8 y8 z8 st8 hQ8
    subst l8 y8 z8
    obtain ⟨rfl, Nq8, e8⟩ := hQ8
    have N8 := Fr.app N7 Nq8
    refine own_go (G := T8.setTop (mkF m 17 #[.val (.int p0), .val (.int (2 : Int32)), .val (.ref s_SHORT), .unset, .unset, .unset] [(.int (1 : Int32))])) (fun _ k => st8.trans k) ?_
    refine own_go (G := T8.setTop (mkF m 18 #[.val (.int p0), .val (.int (2 : Int32)), .val (.ref s_SHORT), .val (.int (1 : Int32)), .unset, .unset] [])) (fun _ k => XS.istoreN X8.here hx rfl (hb hby at_17) rfl (l' := #[.val (.int p0), .val (.int (2 : Int32)), .val (.ref s_SHORT), .val (.int (1 : Int32)), .unset, .unset]) rfl k) ?_
    refine own_go (G := T8.setTop (mkF m 19 #[.val (.int p0), .val (.int (2 : Int32)), .val (.ref s_SHORT), .val (.int (1 : Int32)), .unset, .unset] [(.int (2 : Int32))])) (fun _ k => XS.iloadN X8.here hx rfl (hb hby at_18) rfl k) ?_
    refine own_go (G := T8.setTop (mkF m 20 #[.val (.int p0), .val (.int (2 : Int32)), .val (.ref s_SHORT), .val (.int (1 : Int32)), .unset, .unset] [(.int (1 : Int32)), (.int (2 : Int32))])) (fun _ k => XS.iconst X8.here hx rfl (hb hby at_19) k) ?_
    refine own_go (G := T8.setTop (mkF m 23 #[.val (.int p0), .val (.int (2 : Int32)), .val (.ref s_SHORT), .val (.int (1 : Int32)), .unset, .unset] [])) (fun _ k => XS.icmpNo X8.here hx rfl (hb hby at_20) rfl (flt (by decide : ¬ ((2 : Int32) < (1 : Int32)))).1 k) ?_
    refine own_go (G := T8.setTop (mkF m 24 #[.val (.int p0), .val (.int (2 : Int32)), .val (.ref s_SHORT), .val (.int (1 : Int32)), .unset, .unset] [(.int (2 : Int32))])) (fun _ k => XS.iloadN X8.here hx rfl (hb hby at_23) rfl k) ?_
    refine own_go (G := T8.setTop (mkF m 25 #[.val (.int p0), .val (.int (2 : Int32)), .val (.ref s_SHORT), .val (.int (1 : Int32)), .unset, .unset] [(.int (3 : Int32)), (.int (2 : Int32))])) (fun _ k => XS.iconst X8.here hx rfl (hb hby at_24) k) ?_
    refine own_go (G := T8.setTop (mkF m 28 #[.val (.int p0), .val (.int (2 : Int32)), .val (.ref s_SHORT), .val (.int (1 : Int32)), .unset, .unset] [])) (fun _ k => XS.icmpNo X8.here hx rfl (hb hby at_25) rfl (flt (by decide : ¬ ((3 : Int32) < (2 : Int32)))).2.2.1 k) ?_
    refine own_go (G := T8.setTop (mkF m 29 #[.val (.int p0), .val (.int (2 : Int32)), .val (.ref s_SHORT), .val (.int (1 : Int32)), .unset, .unset] [(.int (1 : Int32))])) (fun _ k => XS.iconst X8.here hx rfl (hb hby at_28) k) ?_
    refine own_go (G := T8.setTop (mkF m 33 #[.val (.int p0), .val (.int (2 : Int32)), .val (.ref s_SHORT), .val (.int (1 : Int32)), .unset, .unset] [(.int (1 : Int32))])) (fun _ k => XS.goto X8.here hx rfl (pc0 := 29) (pc' := 33) rfl (hb hby at_29) (by decide) (by decide) k) ?_
    refine own_go (G := T8.setTop (mkF m 35 #[.val (.int p0), .val (.int (2 : Int32)), .val (.ref s_SHORT), .val (.int (1 : Int32)), .val (.int (1 : Int32)), .unset] [])) (fun _ k => XS.istore X8.here hx rfl (hb hby at_33) rfl (l' := #[.val (.int p0), .val (.int (2 : Int32)), .val (.ref s_SHORT), .val (.int (1 : Int32)), .val (.int (1 : Int32)), .unset]) rfl k) ?_
    refine own_go (G := T8.setTop (mkF m 36 #[.val (.int p0), .val (.int (2 : Int32)), .val (.ref s_SHORT), .val (.int (1 : Int32)), .val (.int (1 : Int32)), .unset] [(.int (1 : Int32))])) (fun _ k => XS.iloadN X8.here hx rfl (hb hby at_35) rfl k) ?_
    refine own_go (G := T8.setTop (mkF m 38 #[.val (.int p0), .val (.int (2 : Int32)), .val (.ref s_SHORT), .val (.int (1 : Int32)), .val (.int (1 : Int32)), .unset] [(.int (1 : Int32)), (.int (1 : Int32))])) (fun _ k => XS.iload X8.here hx rfl (hb hby at_36) rfl k) ?_
    refine own_go (G := T8.setTop (mkF m 43 #[.val (.int p0), .val (.int (2 : Int32)), .val (.ref s_SHORT), .val (.int (1 : Int32)), .val (.int (1 : Int32)), .unset] [])) (fun _ k => XS.icmpYes X8.here hx rfl (pc0 := 38) (pc' := 43) rfl (hb hby at_38) rfl (teq (by decide : (1 : Int32) = (1 : Int32))).1 (by decide) (by decide) k) ?_
    refine own_go (G := T8.setTop (mkF m 44 #[.val (.int p0), .val (.int (2 : Int32)), .val (.ref s_SHORT), .val (.int (1 : Int32)), .val (.int (1 : Int32)), .unset] [(.int (2 : Int32))])) (fun _ k => XS.iloadN X8.here hx rfl (hb hby at_43) rfl k) ?_
    refine own_go (G := T8.setTop (mkF m 45 #[.val (.int p0), .val (.int (2 : Int32)), .val (.ref s_SHORT), .val (.int (1 : Int32)), .val (.int (1 : Int32)), .unset] [(.int (1 : Int32)), (.int (2 : Int32))])) (fun _ k => XS.iconst X8.here hx rfl (hb hby at_44) k) ?_
    refine own_go (G := T8.setTop (mkF m 48 #[.val (.int p0), .val (.int (2 : Int32)), .val (.ref s_SHORT), .val (.int (1 : Int32)), .val (.int (1 : Int32)), .unset] [])) (fun _ k => XS.icmpNo X8.here hx rfl (hb hby at_45) rfl (flt (by decide : ¬ ((2 : Int32) < (1 : Int32)))).1 k) ?_
    refine own_go (G := T8.setTop (mkF m 49 #[.val (.int p0), .val (.int (2 : Int32)), .val (.ref s_SHORT), .val (.int (1 : Int32)), .val (.int (1 : Int32)), .unset] [(.int (2 : Int32))])) (fun _ k => XS.iloadN X8.here hx rfl (hb hby at_48) rfl k) ?_
    refine own_go (G := T8.setTop (mkF m 50 #[.val (.int p0), .val (.int (2 : Int32)), .val (.ref s_SHORT), .val (.int (1 : Int32)), .val (.int (1 : Int32)), .unset] [(.int (4 : Int32)), (.int (2 : Int32))])) (fun _ k => XS.iconst X8.here hx rfl (hb hby at_49) k) ?_
    refine own_go (G := T8.setTop (mkF m 53 #[.val (.int p0), .val (.int (2 : Int32)), .val (.ref s_SHORT), .val (.int (1 : Int32)), .val (.int (1 : Int32)), .unset] [])) (fun _ k => XS.icmpNo X8.here hx rfl (hb hby at_50) rfl (flt (by decide : ¬ ((4 : Int32) < (2 : Int32)))).2.2.1 k) ?_
    refine own_go (G := T8.setTop (mkF m 54 #[.val (.int p0), .val (.int (2 : Int32)), .val (.ref s_SHORT), .val (.int (1 : Int32)), .val (.int (1 : Int32)), .unset] [(.ref s_SHORT)])) (fun _ k => XS.aloadN X8.here hx rfl (hb hby at_53) rfl rfl k) ?_
    refine own_go (G := T8.setTop (mkF m 57 #[.val (.int p0), .val (.int (2 : Int32)), .val (.ref s_SHORT), .val (.int (1 : Int32)), .val (.int (1 : Int32)), .unset] [(.double (4612811918334230528 : UInt64)), (.ref s_SHORT)])) (X8.ldc2DoubleC hx hown (mvT hZ (hw _ (List.mem_of_getElem? (i := 20) rfl))) (g := (mkF m 54 #[.val (.int p0), .val (.int (2 : Int32)), .val (.ref s_SHORT), .val (.int (1 : Int32)), .val (.int (1 : Int32)), .unset] [(.ref s_SHORT)])) rfl (hb hby at_54)) ?_
    obtain ⟨cq9, kq9, q9a, q9b, q9c⟩ := isOf hZ e8 Ex_SHORT
    obtain ⟨_, _, ⟨T9, L9, k9, n9⟩, -, X9, ⟨Lc9, hQ9, l9, y9, z9⟩, st9⟩ := X8.virtualBack hx (y := (⟨"com/example/mave/mave/lang/Type", "convert", "(D)D"⟩ : MethodName)) (z := (⟨"com/example/mave/mave/lang/Type", "convert", "(D)D"⟩ : MethodName)) hown (mvT hZ (hw _ (List.mem_of_getElem? (i := 21) rfl))) (mvT hZ (hw _ (List.mem_of_getElem? (i := 22) rfl))) (notFace_of_selects (args := #[]) (mvT hZ (hw _ (List.mem_of_getElem? (i := 24) rfl)))) (mvT hZ (hw _ (List.mem_of_getElem? (i := 24) rfl))) (mvT hZ (hw _ (List.mem_of_getElem? (i := 23) rfl))) (by decide) (backOf (W := 0) (cv_SHORT l Z a0 hw [] s_SHORT (4612811918334230528 : UInt64) h0 n0 Z0 Or_SHORT Ex_SHORT) hZ (hw _ (List.mem_of_getElem? (i := 25) rfl)) (hw _ (List.mem_of_getElem? (i := 6) rfl)) (by decide) (by decide)) q9a q9c (g := (mkF m 57 #[.val (.int p0), .val (.int (2 : Int32)), .val (.ref s_SHORT), .val (.int (1 : Int32)), .val (.int (1 : Int32)), .unset] [(.double (4612811918334230528 : UInt64)), (.ref s_SHORT)])) rfl (by rw [hml]; rfl) (Steps.refl _) (argsL := [(.double (4612811918334230528 : UInt64))]) (rest := []) (lenOf pd3 rfl) rfl (by show 2 * 0 + _ ≤ _; exact Nat.le_of_eq rfl) (hb hby at_57) (fun _ _ => ⟨rfl, e8, (by decide : 0 + 0 ≤ _), (by decide : 0 + 0 ≤ _)⟩)
    dsimp only [Pt.U, Pt.locs, Pt.cells, Pt.slots] at X9 l9 y9 z9 st9 hQ9
    subst l9 y9 z9
    obtain ⟨rfl, Nq9, e9⟩ := hQ9
    have N9 := Fr.app N8 Nq9
    refine own_go (G := T9.setTop (mkF m 60 #[.val (.int p0), .val (.int (2 : Int32)), .val (.ref s_SHORT), .val (.int (1 : Int32)), .val (.int (1 : Int32)), .unset] [(.double (FP.i2d (((FP.d2i (4612811918334230528 : UInt64))).toInt16.toInt32)))])) (fun _ k => st9.trans k) ?_
    refine own_go (G := T9.setTop (mkF m 63 #[.val (.int p0), .val (.int (2 : Int32)), .val (.ref s_SHORT), .val (.int (1 : Int32)), .val (.int (1 : Int32)), .unset] [(.double (4611686018427387904 : UInt64)), (.double (FP.i2d (((FP.d2i (4612811918334230528 : UInt64))).toInt16.toInt32)))])) (X9.ldc2DoubleC hx hown (mvT hZ (hw _ (List.mem_of_getElem? (i := 35) rfl))) (g := (mkF m 60 #[.val (.int p0), .val (.int (2 : Int32)), .val (.ref s_SHORT), .val (.int (1 : Int32)), .val (.int (1 : Int32)), .unset] [(.double (FP.i2d (((FP.d2i (4612811918334230528 : UInt64))).toInt16.toInt32)))])) rfl (hb hby at_60)) ?_
    refine own_go (G := T9.setTop (mkF m 64 #[.val (.int p0), .val (.int (2 : Int32)), .val (.ref s_SHORT), .val (.int (1 : Int32)), .val (.int (1 : Int32)), .unset] [(.int (cmpValue (FP.dcmp (FP.i2d (((FP.d2i (4612811918334230528 : UInt64))).toInt16.toInt32)) (4611686018427387904 : UInt64)) .l))])) (fun _ k => own_dcmp X9.here hx rfl (hb hby at_63) rfl k) ?_
    refine own_go (G := T9.setTop (mkF m 67 #[.val (.int p0), .val (.int (2 : Int32)), .val (.ref s_SHORT), .val (.int (1 : Int32)), .val (.int (1 : Int32)), .unset] [])) (fun _ k => XS.ifNo X9.here hx rfl (hb hby at_64) rfl ((if0 _ _).trans (teq (own_d2 : (cmpValue (FP.dcmp (FP.i2d (((FP.d2i (4612811918334230528 : UInt64))).toInt16.toInt32)) (4611686018427387904 : UInt64)) .l) = (0 : Int32))).2) k) ?_
    refine own_go (G := T9.setTop (mkF m 68 #[.val (.int p0), .val (.int (2 : Int32)), .val (.ref s_SHORT), .val (.int (1 : Int32)), .val (.int (1 : Int32)), .unset] [(.int (1 : Int32))])) (fun _ k => XS.iconst X9.here hx rfl (hb hby at_67) k) ?_
    refine own_go (G := T9.setTop (mkF m 72 #[.val (.int p0), .val (.int (2 : Int32)), .val (.ref s_SHORT), .val (.int (1 : Int32)), .val (.int (1 : Int32)), .unset] [(.int (1 : Int32))])) (fun _ k => XS.goto X9.here hx rfl (pc0 := 68) (pc' := 72) rfl (hb hby at_68) (by decide) (by decide) k) ?_
    refine own_go (G := T9.setTop (mkF m 74 #[.val (.int p0), .val (.int (2 : Int32)), .val (.ref s_SHORT), .val (.int (1 : Int32)), .val (.int (1 : Int32)), .val (.int (1 : Int32))] [])) (fun _ k => XS.istore X9.here hx rfl (hb hby at_72) rfl (l' := #[.val (.int p0), .val (.int (2 : Int32)), .val (.ref s_SHORT), .val (.int (1 : Int32)), .val (.int (1 : Int32)), .val (.int (1 : Int32))]) rfl k) ?_
    refine own_go (G := T9.setTop (mkF m 75 #[.val (.int p0), .val (.int (2 : Int32)), .val (.ref s_SHORT), .val (.int (1 : Int32)), .val (.int (1 : Int32)), .val (.int (1 : Int32))] [(.int (1 : Int32))])) (fun _ k => XS.iloadN X9.here hx rfl (hb hby at_74) rfl k) ?_
    refine own_go (G := T9.setTop (mkF m 77 #[.val (.int p0), .val (.int (2 : Int32)), .val (.ref s_SHORT), .val (.int (1 : Int32)), .val (.int (1 : Int32)), .val (.int (1 : Int32))] [(.int (1 : Int32)), (.int (1 : Int32))])) (fun _ k => XS.iload X9.here hx rfl (hb hby at_75) rfl k) ?_
    refine own_go (G := T9.setTop (mkF m 82 #[.val (.int p0), .val (.int (2 : Int32)), .val (.ref s_SHORT), .val (.int (1 : Int32)), .val (.int (1 : Int32)), .val (.int (1 : Int32))] [])) (fun _ k => XS.icmpYes X9.here hx rfl (pc0 := 77) (pc' := 82) rfl (hb hby at_77) rfl (teq (by decide : (1 : Int32) = (1 : Int32))).1 (by decide) (by decide) k) ?_
    refine own_go (G := T9.setTop (mkF m 83 #[.val (.int p0), .val (.int (2 : Int32)), .val (.ref s_SHORT), .val (.int (1 : Int32)), .val (.int (1 : Int32)), .val (.int (1 : Int32))] [(.int (1 : Int32))])) (fun _ k => XS.iconst X9.here hx rfl (hb hby at_82) k) ?_
    exact own_ret1 X9 hx Bd.returns (hb hby at_83) Bd.notSynchronized (by decide) (by decide) ⟨rfl, N9⟩
  · subst hb_
    refine own_go (G := s₁.setTop (mkF m 9 #[.val (.int p0), .val (.int (3 : Int32)), .unset, .unset, .unset, .unset] [(.int (3 : Int32))])) (fun _ k => XS.iloadN X0.here hx rfl (hb hby at_8) rfl k) ?_
    obtain ⟨_, _, ⟨T10, L10, k10, n10⟩, -, X10, ⟨Lc10, hQ10, l10, y10, z10⟩, st10⟩ := Jvm.LawKit.callS X0 hx (y := (⟨"com/example/mave/mave/lang/TypeIsIntegralPinLaw", "pick", "(I)Lcom/example/mave/mave/lang/Type;"⟩ : MethodName)) hown (mvT hZ (hw _ (List.mem_of_getElem? (i := 1) rfl))) (mvT hZ (hw _ (List.mem_of_getElem? (i := 2) rfl))) (mvT hZ (hw _ (List.mem_of_getElem? (i := 3) rfl))) (mvT hZ (hw _ (List.mem_of_getElem? (i := 4) rfl))) (by decide) (backOf (W := 0) (rm1 l Z a0 hw [] (3 : Int32) s_BOOLEAN s_BYTE s_SHORT s_INT s_FLOAT s_REBEC h0 n0 Z0 S_BOOLEAN S_BYTE S_SHORT S_INT S_FLOAT S_REBEC) hZ (hw _ (List.mem_of_getElem? (i := 4) rfl)) (hw _ (List.mem_of_getElem? (i := 3) rfl)) (by decide) (by decide)) (g := (mkF m 9 #[.val (.int p0), .val (.int (3 : Int32)), .unset, .unset, .unset, .unset] [(.int (3 : Int32))])) rfl (by rw [hml]; rfl) (argsL := [(.int (3 : Int32))]) (rest := []) (lenOf pd1 rfl) rfl (by show 2 * 0 + _ ≤ _; exact Nat.le_of_eq rfl) (hb hby at_9) (fun _ _ => ⟨rfl, e0, (by decide : 0 + 0 ≤ _), (by decide : 0 + 0 ≤ _)⟩)
    dsimp only [Pt.U, Pt.locs, Pt.cells, Pt.slots] at X10 l10 y10 z10 st10 hQ10
    subst l10 y10 z10
    obtain ⟨rfl, Nq10, e10⟩ := hQ10
    have N10 := Fr.app N0 Nq10
    have hr10 : F1 (3 : Int32) s_BOOLEAN s_BYTE s_SHORT s_INT s_FLOAT s_REBEC = s_INT := by simp [F1]
    rw [hr10] at st10
    refine own_go (G := T10.setTop (mkF m 12 #[.val (.int p0), .val (.int (3 : Int32)), .unset, .unset, .unset, .unset] [(.ref s_INT)])) (st10) ?_
    refine own_go (G := T10.setTop (mkF m 13 #[.val (.int p0), .val (.int (3 : Int32)), .val (.ref s_INT), .unset, .unset, .unset] [])) (fun _ k => XS.astoreN X10.here hx rfl (hb hby at_12) rfl rfl (l' := #[.val (.int p0), .val (.int (3 : Int32)), .val (.ref s_INT), .unset, .unset, .unset]) rfl k) ?_
    refine own_go (G := T10.setTop (mkF m 14 #[.val (.int p0), .val (.int (3 : Int32)), .val (.ref s_INT), .unset, .unset, .unset] [(.ref s_INT)])) (fun _ k => XS.aloadN X10.here hx rfl (hb hby at_13) rfl rfl k) ?_
    obtain ⟨cq11, kq11, q11a, q11b, q11c⟩ := isOf hZ e10 Ex_INT
    obtain ⟨_, _, ⟨T11, L11, k11, n11⟩, -, X11, ⟨Lc11, hQ11, l11, y11, z11⟩, st11⟩ := X10.virtualBack hx (y := (⟨"com/example/mave/mave/lang/Type", "isIntegral", "()Z"⟩ : MethodName)) (z := (⟨"com/example/mave/mave/lang/Type", "isIntegral", "()Z"⟩ : MethodName)) hown (mvT hZ (hw _ (List.mem_of_getElem? (i := 8) rfl))) (mvT hZ (hw _ (List.mem_of_getElem? (i := 9) rfl))) (notFace_of_selects (args := #[]) (mvT hZ (hw _ (List.mem_of_getElem? (i := 11) rfl)))) (mvT hZ (hw _ (List.mem_of_getElem? (i := 11) rfl))) (mvT hZ (hw _ (List.mem_of_getElem? (i := 10) rfl))) (by decide) (backOf (W := 0) (ii_INT l Z a0 hw [] s_INT s_BYTE s_SHORT h0 n0 Z0 S_BYTE S_SHORT S_INT n_BYTE_INT n_SHORT_INT) hZ (hw _ (List.mem_of_getElem? (i := 12) rfl)) (hw _ (List.mem_of_getElem? (i := 6) rfl)) (by decide) (by decide)) q11a q11c (g := (mkF m 14 #[.val (.int p0), .val (.int (3 : Int32)), .val (.ref s_INT), .unset, .unset, .unset] [(.ref s_INT)])) rfl (by rw [hml]; rfl) (Steps.refl _) (argsL := []) (rest := []) (lenOf pd2 rfl) rfl (by show 2 * 0 + _ ≤ _; exact Nat.le_of_eq rfl) (hb hby at_14) (fun _ _ => ⟨rfl, e10, (by decide : 0 + 0 ≤ _), (by decide : 0 + 0 ≤ _)⟩)
    dsimp only [Pt.U, Pt.locs, Pt.cells, Pt.slots] at X11 l11 y11 z11 st11 hQ11
    subst l11 y11 z11
    obtain ⟨rfl, Nq11, e11⟩ := hQ11
    have N11 := Fr.app N10 Nq11
    refine own_go (G := T11.setTop (mkF m 17 #[.val (.int p0), .val (.int (3 : Int32)), .val (.ref s_INT), .unset, .unset, .unset] [(.int (1 : Int32))])) (fun _ k => st11.trans k) ?_
    refine own_go (G := T11.setTop (mkF m 18 #[.val (.int p0), .val (.int (3 : Int32)), .val (.ref s_INT), .val (.int (1 : Int32)), .unset, .unset] [])) (fun _ k => XS.istoreN X11.here hx rfl (hb hby at_17) rfl (l' := #[.val (.int p0), .val (.int (3 : Int32)), .val (.ref s_INT), .val (.int (1 : Int32)), .unset, .unset]) rfl k) ?_
    refine own_go (G := T11.setTop (mkF m 19 #[.val (.int p0), .val (.int (3 : Int32)), .val (.ref s_INT), .val (.int (1 : Int32)), .unset, .unset] [(.int (3 : Int32))])) (fun _ k => XS.iloadN X11.here hx rfl (hb hby at_18) rfl k) ?_
    refine own_go (G := T11.setTop (mkF m 20 #[.val (.int p0), .val (.int (3 : Int32)), .val (.ref s_INT), .val (.int (1 : Int32)), .unset, .unset] [(.int (1 : Int32)), (.int (3 : Int32))])) (fun _ k => XS.iconst X11.here hx rfl (hb hby at_19) k) ?_
    refine own_go (G := T11.setTop (mkF m 23 #[.val (.int p0), .val (.int (3 : Int32)), .val (.ref s_INT), .val (.int (1 : Int32)), .unset, .unset] [])) (fun _ k => XS.icmpNo X11.here hx rfl (hb hby at_20) rfl (flt (by decide : ¬ ((3 : Int32) < (1 : Int32)))).1 k) ?_
    refine own_go (G := T11.setTop (mkF m 24 #[.val (.int p0), .val (.int (3 : Int32)), .val (.ref s_INT), .val (.int (1 : Int32)), .unset, .unset] [(.int (3 : Int32))])) (fun _ k => XS.iloadN X11.here hx rfl (hb hby at_23) rfl k) ?_
    refine own_go (G := T11.setTop (mkF m 25 #[.val (.int p0), .val (.int (3 : Int32)), .val (.ref s_INT), .val (.int (1 : Int32)), .unset, .unset] [(.int (3 : Int32)), (.int (3 : Int32))])) (fun _ k => XS.iconst X11.here hx rfl (hb hby at_24) k) ?_
    refine own_go (G := T11.setTop (mkF m 28 #[.val (.int p0), .val (.int (3 : Int32)), .val (.ref s_INT), .val (.int (1 : Int32)), .unset, .unset] [])) (fun _ k => XS.icmpNo X11.here hx rfl (hb hby at_25) rfl (flt (by decide : ¬ ((3 : Int32) < (3 : Int32)))).2.2.1 k) ?_
    refine own_go (G := T11.setTop (mkF m 29 #[.val (.int p0), .val (.int (3 : Int32)), .val (.ref s_INT), .val (.int (1 : Int32)), .unset, .unset] [(.int (1 : Int32))])) (fun _ k => XS.iconst X11.here hx rfl (hb hby at_28) k) ?_
    refine own_go (G := T11.setTop (mkF m 33 #[.val (.int p0), .val (.int (3 : Int32)), .val (.ref s_INT), .val (.int (1 : Int32)), .unset, .unset] [(.int (1 : Int32))])) (fun _ k => XS.goto X11.here hx rfl (pc0 := 29) (pc' := 33) rfl (hb hby at_29) (by decide) (by decide) k) ?_
    refine own_go (G := T11.setTop (mkF m 35 #[.val (.int p0), .val (.int (3 : Int32)), .val (.ref s_INT), .val (.int (1 : Int32)), .val (.int (1 : Int32)), .unset] [])) (fun _ k => XS.istore X11.here hx rfl (hb hby at_33) rfl (l' := #[.val (.int p0), .val (.int (3 : Int32)), .val (.ref s_INT), .val (.int (1 : Int32)), .val (.int (1 : Int32)), .unset]) rfl k) ?_
    refine own_go (G := T11.setTop (mkF m 36 #[.val (.int p0), .val (.int (3 : Int32)), .val (.ref s_INT), .val (.int (1 : Int32)), .val (.int (1 : Int32)), .unset] [(.int (1 : Int32))])) (fun _ k => XS.iloadN X11.here hx rfl (hb hby at_35) rfl k) ?_
    refine own_go (G := T11.setTop (mkF m 38 #[.val (.int p0), .val (.int (3 : Int32)), .val (.ref s_INT), .val (.int (1 : Int32)), .val (.int (1 : Int32)), .unset] [(.int (1 : Int32)), (.int (1 : Int32))])) (fun _ k => XS.iload X11.here hx rfl (hb hby at_36) rfl k) ?_
    refine own_go (G := T11.setTop (mkF m 43 #[.val (.int p0), .val (.int (3 : Int32)), .val (.ref s_INT), .val (.int (1 : Int32)), .val (.int (1 : Int32)), .unset] [])) (fun _ k => XS.icmpYes X11.here hx rfl (pc0 := 38) (pc' := 43) rfl (hb hby at_38) rfl (teq (by decide : (1 : Int32) = (1 : Int32))).1 (by decide) (by decide) k) ?_
    refine own_go (G := T11.setTop (mkF m 44 #[.val (.int p0), .val (.int (3 : Int32)), .val (.ref s_INT), .val (.int (1 : Int32)), .val (.int (1 : Int32)), .unset] [(.int (3 : Int32))])) (fun _ k => XS.iloadN X11.here hx rfl (hb hby at_43) rfl k) ?_
    refine own_go (G := T11.setTop (mkF m 45 #[.val (.int p0), .val (.int (3 : Int32)), .val (.ref s_INT), .val (.int (1 : Int32)), .val (.int (1 : Int32)), .unset] [(.int (1 : Int32)), (.int (3 : Int32))])) (fun _ k => XS.iconst X11.here hx rfl (hb hby at_44) k) ?_
    refine own_go (G := T11.setTop (mkF m 48 #[.val (.int p0), .val (.int (3 : Int32)), .val (.ref s_INT), .val (.int (1 : Int32)), .val (.int (1 : Int32)), .unset] [])) (fun _ k => XS.icmpNo X11.here hx rfl (hb hby at_45) rfl (flt (by decide : ¬ ((3 : Int32) < (1 : Int32)))).1 k) ?_
    refine own_go (G := T11.setTop (mkF m 49 #[.val (.int p0), .val (.int (3 : Int32)), .val (.ref s_INT), .val (.int (1 : Int32)), .val (.int (1 : Int32)), .unset] [(.int (3 : Int32))])) (fun _ k => XS.iloadN X11.here hx rfl (hb hby at_48) rfl k) ?_
    refine own_go (G := T11.setTop (mkF m 50 #[.val (.int p0), .val (.int (3 : Int32)), .val (.ref s_INT), .val (.int (1 : Int32)), .val (.int (1 : Int32)), .unset] [(.int (4 : Int32)), (.int (3 : Int32))])) (fun _ k => XS.iconst X11.here hx rfl (hb hby at_49) k) ?_
    refine own_go (G := T11.setTop (mkF m 53 #[.val (.int p0), .val (.int (3 : Int32)), .val (.ref s_INT), .val (.int (1 : Int32)), .val (.int (1 : Int32)), .unset] [])) (fun _ k => XS.icmpNo X11.here hx rfl (hb hby at_50) rfl (flt (by decide : ¬ ((4 : Int32) < (3 : Int32)))).2.2.1 k) ?_
    refine own_go (G := T11.setTop (mkF m 54 #[.val (.int p0), .val (.int (3 : Int32)), .val (.ref s_INT), .val (.int (1 : Int32)), .val (.int (1 : Int32)), .unset] [(.ref s_INT)])) (fun _ k => XS.aloadN X11.here hx rfl (hb hby at_53) rfl rfl k) ?_
    refine own_go (G := T11.setTop (mkF m 57 #[.val (.int p0), .val (.int (3 : Int32)), .val (.ref s_INT), .val (.int (1 : Int32)), .val (.int (1 : Int32)), .unset] [(.double (4612811918334230528 : UInt64)), (.ref s_INT)])) (X11.ldc2DoubleC hx hown (mvT hZ (hw _ (List.mem_of_getElem? (i := 20) rfl))) (g := (mkF m 54 #[.val (.int p0), .val (.int (3 : Int32)), .val (.ref s_INT), .val (.int (1 : Int32)), .val (.int (1 : Int32)), .unset] [(.ref s_INT)])) rfl (hb hby at_54)) ?_
    obtain ⟨cq12, kq12, q12a, q12b, q12c⟩ := isOf hZ e11 Ex_INT
    obtain ⟨_, _, ⟨T12, L12, k12, n12⟩, -, X12, ⟨Lc12, hQ12, l12, y12, z12⟩, st12⟩ := X11.virtualBack hx (y := (⟨"com/example/mave/mave/lang/Type", "convert", "(D)D"⟩ : MethodName)) (z := (⟨"com/example/mave/mave/lang/Type", "convert", "(D)D"⟩ : MethodName)) hown (mvT hZ (hw _ (List.mem_of_getElem? (i := 21) rfl))) (mvT hZ (hw _ (List.mem_of_getElem? (i := 22) rfl))) (notFace_of_selects (args := #[]) (mvT hZ (hw _ (List.mem_of_getElem? (i := 24) rfl)))) (mvT hZ (hw _ (List.mem_of_getElem? (i := 24) rfl))) (mvT hZ (hw _ (List.mem_of_getElem? (i := 23) rfl))) (by decide) (backOf (W := 0) (cv_INT l Z a0 hw [] s_INT (4612811918334230528 : UInt64) h0 n0 Z0 Or_INT Ex_INT) hZ (hw _ (List.mem_of_getElem? (i := 25) rfl)) (hw _ (List.mem_of_getElem? (i := 6) rfl)) (by decide) (by decide)) q12a q12c (g := (mkF m 57 #[.val (.int p0), .val (.int (3 : Int32)), .val (.ref s_INT), .val (.int (1 : Int32)), .val (.int (1 : Int32)), .unset] [(.double (4612811918334230528 : UInt64)), (.ref s_INT)])) rfl (by rw [hml]; rfl) (Steps.refl _) (argsL := [(.double (4612811918334230528 : UInt64))]) (rest := []) (lenOf pd3 rfl) rfl (by show 2 * 0 + _ ≤ _; exact Nat.le_of_eq rfl) (hb hby at_57) (fun _ _ => ⟨rfl, e11, (by decide : 0 + 0 ≤ _), (by decide : 0 + 0 ≤ _)⟩)
    dsimp only [Pt.U, Pt.locs, Pt.cells, Pt.slots] at X12 l12 y12 z12 st12 hQ12
    subst l12 y12 z12
    obtain ⟨rfl, Nq12, e12⟩ := hQ12
    have N12 := Fr.app N11 Nq12
    refine own_go (G := T12.setTop (mkF m 60 #[.val (.int p0), .val (.int (3 : Int32)), .val (.ref s_INT), .val (.int (1 : Int32)), .val (.int (1 : Int32)), .unset] [(.double (FP.i2d (FP.d2i (4612811918334230528 : UInt64))))])) (fun _ k => st12.trans k) ?_
    refine own_go (G := T12.setTop (mkF m 63 #[.val (.int p0), .val (.int (3 : Int32)), .val (.ref s_INT), .val (.int (1 : Int32)), .val (.int (1 : Int32)), .unset] [(.double (4611686018427387904 : UInt64)), (.double (FP.i2d (FP.d2i (4612811918334230528 : UInt64))))])) (X12.ldc2DoubleC hx hown (mvT hZ (hw _ (List.mem_of_getElem? (i := 35) rfl))) (g := (mkF m 60 #[.val (.int p0), .val (.int (3 : Int32)), .val (.ref s_INT), .val (.int (1 : Int32)), .val (.int (1 : Int32)), .unset] [(.double (FP.i2d (FP.d2i (4612811918334230528 : UInt64))))])) rfl (hb hby at_60)) ?_
    refine own_go (G := T12.setTop (mkF m 64 #[.val (.int p0), .val (.int (3 : Int32)), .val (.ref s_INT), .val (.int (1 : Int32)), .val (.int (1 : Int32)), .unset] [(.int (cmpValue (FP.dcmp (FP.i2d (FP.d2i (4612811918334230528 : UInt64))) (4611686018427387904 : UInt64)) .l))])) (fun _ k => own_dcmp X12.here hx rfl (hb hby at_63) rfl k) ?_
    refine own_go (G := T12.setTop (mkF m 67 #[.val (.int p0), .val (.int (3 : Int32)), .val (.ref s_INT), .val (.int (1 : Int32)), .val (.int (1 : Int32)), .unset] [])) (fun _ k => XS.ifNo X12.here hx rfl (hb hby at_64) rfl ((if0 _ _).trans (teq (own_d3 : (cmpValue (FP.dcmp (FP.i2d (FP.d2i (4612811918334230528 : UInt64))) (4611686018427387904 : UInt64)) .l) = (0 : Int32))).2) k) ?_
    refine own_go (G := T12.setTop (mkF m 68 #[.val (.int p0), .val (.int (3 : Int32)), .val (.ref s_INT), .val (.int (1 : Int32)), .val (.int (1 : Int32)), .unset] [(.int (1 : Int32))])) (fun _ k => XS.iconst X12.here hx rfl (hb hby at_67) k) ?_
    refine own_go (G := T12.setTop (mkF m 72 #[.val (.int p0), .val (.int (3 : Int32)), .val (.ref s_INT), .val (.int (1 : Int32)), .val (.int (1 : Int32)), .unset] [(.int (1 : Int32))])) (fun _ k => XS.goto X12.here hx rfl (pc0 := 68) (pc' := 72) rfl (hb hby at_68) (by decide) (by decide) k) ?_
    refine own_go (G := T12.setTop (mkF m 74 #[.val (.int p0), .val (.int (3 : Int32)), .val (.ref s_INT), .val (.int (1 : Int32)), .val (.int (1 : Int32)), .val (.int (1 : Int32))] [])) (fun _ k => XS.istore X12.here hx rfl (hb hby at_72) rfl (l' := #[.val (.int p0), .val (.int (3 : Int32)), .val (.ref s_INT), .val (.int (1 : Int32)), .val (.int (1 : Int32)), .val (.int (1 : Int32))]) rfl k) ?_
    refine own_go (G := T12.setTop (mkF m 75 #[.val (.int p0), .val (.int (3 : Int32)), .val (.ref s_INT), .val (.int (1 : Int32)), .val (.int (1 : Int32)), .val (.int (1 : Int32))] [(.int (1 : Int32))])) (fun _ k => XS.iloadN X12.here hx rfl (hb hby at_74) rfl k) ?_
    refine own_go (G := T12.setTop (mkF m 77 #[.val (.int p0), .val (.int (3 : Int32)), .val (.ref s_INT), .val (.int (1 : Int32)), .val (.int (1 : Int32)), .val (.int (1 : Int32))] [(.int (1 : Int32)), (.int (1 : Int32))])) (fun _ k => XS.iload X12.here hx rfl (hb hby at_75) rfl k) ?_
    refine own_go (G := T12.setTop (mkF m 82 #[.val (.int p0), .val (.int (3 : Int32)), .val (.ref s_INT), .val (.int (1 : Int32)), .val (.int (1 : Int32)), .val (.int (1 : Int32))] [])) (fun _ k => XS.icmpYes X12.here hx rfl (pc0 := 77) (pc' := 82) rfl (hb hby at_77) rfl (teq (by decide : (1 : Int32) = (1 : Int32))).1 (by decide) (by decide) k) ?_
    refine own_go (G := T12.setTop (mkF m 83 #[.val (.int p0), .val (.int (3 : Int32)), .val (.ref s_INT), .val (.int (1 : Int32)), .val (.int (1 : Int32)), .val (.int (1 : Int32))] [(.int (1 : Int32))])) (fun _ k => XS.iconst X12.here hx rfl (hb hby at_82) k) ?_
    exact own_ret1 X12 hx Bd.returns (hb hby at_83) Bd.notSynchronized (by decide) (by decide) ⟨rfl, N12⟩
  · subst hb_
    refine own_go (G := s₁.setTop (mkF m 9 #[.val (.int p0), .val (.int (4 : Int32)), .unset, .unset, .unset, .unset] [(.int (4 : Int32))])) (fun _ k => XS.iloadN X0.here hx rfl (hb hby at_8) rfl k) ?_
    obtain ⟨_, _, ⟨T13, L13, k13, n13⟩, -, X13, ⟨Lc13, hQ13, l13, y13, z13⟩, st13⟩ := Jvm.LawKit.callS X0 hx (y := (⟨"com/example/mave/mave/lang/TypeIsIntegralPinLaw", "pick", "(I)Lcom/example/mave/mave/lang/Type;"⟩ : MethodName)) hown (mvT hZ (hw _ (List.mem_of_getElem? (i := 1) rfl))) (mvT hZ (hw _ (List.mem_of_getElem? (i := 2) rfl))) (mvT hZ (hw _ (List.mem_of_getElem? (i := 3) rfl))) (mvT hZ (hw _ (List.mem_of_getElem? (i := 4) rfl))) (by decide) (backOf (W := 0) (rm1 l Z a0 hw [] (4 : Int32) s_BOOLEAN s_BYTE s_SHORT s_INT s_FLOAT s_REBEC h0 n0 Z0 S_BOOLEAN S_BYTE S_SHORT S_INT S_FLOAT S_REBEC) hZ (hw _ (List.mem_of_getElem? (i := 4) rfl)) (hw _ (List.mem_of_getElem? (i := 3) rfl)) (by decide) (by decide)) (g := (mkF m 9 #[.val (.int p0), .val (.int (4 : Int32)), .unset, .unset, .unset, .unset] [(.int (4 : Int32))])) rfl (by rw [hml]; rfl) (argsL := [(.int (4 : Int32))]) (rest := []) (lenOf pd1 rfl) rfl (by show 2 * 0 + _ ≤ _; exact Nat.le_of_eq rfl) (hb hby at_9) (fun _ _ => ⟨rfl, e0, (by decide : 0 + 0 ≤ _), (by decide : 0 + 0 ≤ _)⟩)
    dsimp only [Pt.U, Pt.locs, Pt.cells, Pt.slots] at X13 l13 y13 z13 st13 hQ13
    subst l13 y13 z13
    obtain ⟨rfl, Nq13, e13⟩ := hQ13
    have N13 := Fr.app N0 Nq13
    have hr13 : F1 (4 : Int32) s_BOOLEAN s_BYTE s_SHORT s_INT s_FLOAT s_REBEC = s_FLOAT := by simp [F1]
    rw [hr13] at st13
    refine own_go (G := T13.setTop (mkF m 12 #[.val (.int p0), .val (.int (4 : Int32)), .unset, .unset, .unset, .unset] [(.ref s_FLOAT)])) (st13) ?_
    refine own_go (G := T13.setTop (mkF m 13 #[.val (.int p0), .val (.int (4 : Int32)), .val (.ref s_FLOAT), .unset, .unset, .unset] [])) (fun _ k => XS.astoreN X13.here hx rfl (hb hby at_12) rfl rfl (l' := #[.val (.int p0), .val (.int (4 : Int32)), .val (.ref s_FLOAT), .unset, .unset, .unset]) rfl k) ?_
    refine own_go (G := T13.setTop (mkF m 14 #[.val (.int p0), .val (.int (4 : Int32)), .val (.ref s_FLOAT), .unset, .unset, .unset] [(.ref s_FLOAT)])) (fun _ k => XS.aloadN X13.here hx rfl (hb hby at_13) rfl rfl k) ?_
    obtain ⟨cq14, kq14, q14a, q14b, q14c⟩ := isOf hZ e13 Ex_FLOAT
    obtain ⟨_, _, ⟨T14, L14, k14, n14⟩, -, X14, ⟨Lc14, hQ14, l14, y14, z14⟩, st14⟩ := X13.virtualBack hx (y := (⟨"com/example/mave/mave/lang/Type", "isIntegral", "()Z"⟩ : MethodName)) (z := (⟨"com/example/mave/mave/lang/Type", "isIntegral", "()Z"⟩ : MethodName)) hown (mvT hZ (hw _ (List.mem_of_getElem? (i := 8) rfl))) (mvT hZ (hw _ (List.mem_of_getElem? (i := 9) rfl))) (notFace_of_selects (args := #[]) (mvT hZ (hw _ (List.mem_of_getElem? (i := 11) rfl)))) (mvT hZ (hw _ (List.mem_of_getElem? (i := 11) rfl))) (mvT hZ (hw _ (List.mem_of_getElem? (i := 10) rfl))) (by decide) (backOf (W := 0) (ii_FLOAT l Z a0 hw [] s_FLOAT s_BYTE s_SHORT s_INT h0 n0 Z0 S_BYTE S_SHORT S_INT n_BYTE_FLOAT n_SHORT_FLOAT n_INT_FLOAT) hZ (hw _ (List.mem_of_getElem? (i := 12) rfl)) (hw _ (List.mem_of_getElem? (i := 6) rfl)) (by decide) (by decide)) q14a q14c (g := (mkF m 14 #[.val (.int p0), .val (.int (4 : Int32)), .val (.ref s_FLOAT), .unset, .unset, .unset] [(.ref s_FLOAT)])) rfl (by rw [hml]; rfl) (Steps.refl _) (argsL := []) (rest := []) (lenOf pd2 rfl) rfl (by show 2 * 0 + _ ≤ _; exact Nat.le_of_eq rfl) (hb hby at_14) (fun _ _ => ⟨rfl, e13, (by decide : 0 + 0 ≤ _), (by decide : 0 + 0 ≤ _)⟩)
    dsimp only [Pt.U, Pt.locs, Pt.cells, Pt.slots] at X14 l14 y14 z14 st14 hQ14
    subst l14 y14 z14
    obtain ⟨rfl, Nq14, e14⟩ := hQ14
    have N14 := Fr.app N13 Nq14
    refine own_go (G := T14.setTop (mkF m 17 #[.val (.int p0), .val (.int (4 : Int32)), .val (.ref s_FLOAT), .unset, .unset, .unset] [(.int (0 : Int32))])) (fun _ k => st14.trans k) ?_
    refine own_go (G := T14.setTop (mkF m 18 #[.val (.int p0), .val (.int (4 : Int32)), .val (.ref s_FLOAT), .val (.int (0 : Int32)), .unset, .unset] [])) (fun _ k => XS.istoreN X14.here hx rfl (hb hby at_17) rfl (l' := #[.val (.int p0), .val (.int (4 : Int32)), .val (.ref s_FLOAT), .val (.int (0 : Int32)), .unset, .unset]) rfl k) ?_
    refine own_go (G := T14.setTop (mkF m 19 #[.val (.int p0), .val (.int (4 : Int32)), .val (.ref s_FLOAT), .val (.int (0 : Int32)), .unset, .unset] [(.int (4 : Int32))])) (fun _ k => XS.iloadN X14.here hx rfl (hb hby at_18) rfl k) ?_
    refine own_go (G := T14.setTop (mkF m 20 #[.val (.int p0), .val (.int (4 : Int32)), .val (.ref s_FLOAT), .val (.int (0 : Int32)), .unset, .unset] [(.int (1 : Int32)), (.int (4 : Int32))])) (fun _ k => XS.iconst X14.here hx rfl (hb hby at_19) k) ?_
    refine own_go (G := T14.setTop (mkF m 23 #[.val (.int p0), .val (.int (4 : Int32)), .val (.ref s_FLOAT), .val (.int (0 : Int32)), .unset, .unset] [])) (fun _ k => XS.icmpNo X14.here hx rfl (hb hby at_20) rfl (flt (by decide : ¬ ((4 : Int32) < (1 : Int32)))).1 k) ?_
    refine own_go (G := T14.setTop (mkF m 24 #[.val (.int p0), .val (.int (4 : Int32)), .val (.ref s_FLOAT), .val (.int (0 : Int32)), .unset, .unset] [(.int (4 : Int32))])) (fun _ k => XS.iloadN X14.here hx rfl (hb hby at_23) rfl k) ?_
    refine own_go (G := T14.setTop (mkF m 25 #[.val (.int p0), .val (.int (4 : Int32)), .val (.ref s_FLOAT), .val (.int (0 : Int32)), .unset, .unset] [(.int (3 : Int32)), (.int (4 : Int32))])) (fun _ k => XS.iconst X14.here hx rfl (hb hby at_24) k) ?_
    refine own_go (G := T14.setTop (mkF m 32 #[.val (.int p0), .val (.int (4 : Int32)), .val (.ref s_FLOAT), .val (.int (0 : Int32)), .unset, .unset] [])) (fun _ k => XS.icmpYes X14.here hx rfl (pc0 := 25) (pc' := 32) rfl (hb hby at_25) rfl (tlt (by decide : (3 : Int32) < (4 : Int32))).2.2.1 (by decide) (by decide) k) ?_
    refine own_go (G := T14.setTop (mkF m 33 #[.val (.int p0), .val (.int (4 : Int32)), .val (.ref s_FLOAT), .val (.int (0 : Int32)), .unset, .unset] [(.int (0 : Int32))])) (fun _ k => XS.iconst X14.here hx rfl (hb hby at_32) k) ?_
    refine own_go (G := T14.setTop (mkF m 35 #[.val (.int p0), .val (.int (4 : Int32)), .val (.ref s_FLOAT), .val (.int (0 : Int32)), .val (.int (0 : Int32)), .unset] [])) (fun _ k => XS.istore X14.here hx rfl (hb hby at_33) rfl (l' := #[.val (.int p0), .val (.int (4 : Int32)), .val (.ref s_FLOAT), .val (.int (0 : Int32)), .val (.int (0 : Int32)), .unset]) rfl k) ?_
    refine own_go (G := T14.setTop (mkF m 36 #[.val (.int p0), .val (.int (4 : Int32)), .val (.ref s_FLOAT), .val (.int (0 : Int32)), .val (.int (0 : Int32)), .unset] [(.int (0 : Int32))])) (fun _ k => XS.iloadN X14.here hx rfl (hb hby at_35) rfl k) ?_
    refine own_go (G := T14.setTop (mkF m 38 #[.val (.int p0), .val (.int (4 : Int32)), .val (.ref s_FLOAT), .val (.int (0 : Int32)), .val (.int (0 : Int32)), .unset] [(.int (0 : Int32)), (.int (0 : Int32))])) (fun _ k => XS.iload X14.here hx rfl (hb hby at_36) rfl k) ?_
    refine own_go (G := T14.setTop (mkF m 43 #[.val (.int p0), .val (.int (4 : Int32)), .val (.ref s_FLOAT), .val (.int (0 : Int32)), .val (.int (0 : Int32)), .unset] [])) (fun _ k => XS.icmpYes X14.here hx rfl (pc0 := 38) (pc' := 43) rfl (hb hby at_38) rfl (teq (by decide : (0 : Int32) = (0 : Int32))).1 (by decide) (by decide) k) ?_
    refine own_go (G := T14.setTop (mkF m 44 #[.val (.int p0), .val (.int (4 : Int32)), .val (.ref s_FLOAT), .val (.int (0 : Int32)), .val (.int (0 : Int32)), .unset] [(.int (4 : Int32))])) (fun _ k => XS.iloadN X14.here hx rfl (hb hby at_43) rfl k) ?_
    refine own_go (G := T14.setTop (mkF m 45 #[.val (.int p0), .val (.int (4 : Int32)), .val (.ref s_FLOAT), .val (.int (0 : Int32)), .val (.int (0 : Int32)), .unset] [(.int (1 : Int32)), (.int (4 : Int32))])) (fun _ k => XS.iconst X14.here hx rfl (hb hby at_44) k) ?_
    refine own_go (G := T14.setTop (mkF m 48 #[.val (.int p0), .val (.int (4 : Int32)), .val (.ref s_FLOAT), .val (.int (0 : Int32)), .val (.int (0 : Int32)), .unset] [])) (fun _ k => XS.icmpNo X14.here hx rfl (hb hby at_45) rfl (flt (by decide : ¬ ((4 : Int32) < (1 : Int32)))).1 k) ?_
    refine own_go (G := T14.setTop (mkF m 49 #[.val (.int p0), .val (.int (4 : Int32)), .val (.ref s_FLOAT), .val (.int (0 : Int32)), .val (.int (0 : Int32)), .unset] [(.int (4 : Int32))])) (fun _ k => XS.iloadN X14.here hx rfl (hb hby at_48) rfl k) ?_
    refine own_go (G := T14.setTop (mkF m 50 #[.val (.int p0), .val (.int (4 : Int32)), .val (.ref s_FLOAT), .val (.int (0 : Int32)), .val (.int (0 : Int32)), .unset] [(.int (4 : Int32)), (.int (4 : Int32))])) (fun _ k => XS.iconst X14.here hx rfl (hb hby at_49) k) ?_
    refine own_go (G := T14.setTop (mkF m 53 #[.val (.int p0), .val (.int (4 : Int32)), .val (.ref s_FLOAT), .val (.int (0 : Int32)), .val (.int (0 : Int32)), .unset] [])) (fun _ k => XS.icmpNo X14.here hx rfl (hb hby at_50) rfl (flt (by decide : ¬ ((4 : Int32) < (4 : Int32)))).2.2.1 k) ?_
    refine own_go (G := T14.setTop (mkF m 54 #[.val (.int p0), .val (.int (4 : Int32)), .val (.ref s_FLOAT), .val (.int (0 : Int32)), .val (.int (0 : Int32)), .unset] [(.ref s_FLOAT)])) (fun _ k => XS.aloadN X14.here hx rfl (hb hby at_53) rfl rfl k) ?_
    refine own_go (G := T14.setTop (mkF m 57 #[.val (.int p0), .val (.int (4 : Int32)), .val (.ref s_FLOAT), .val (.int (0 : Int32)), .val (.int (0 : Int32)), .unset] [(.double (4612811918334230528 : UInt64)), (.ref s_FLOAT)])) (X14.ldc2DoubleC hx hown (mvT hZ (hw _ (List.mem_of_getElem? (i := 20) rfl))) (g := (mkF m 54 #[.val (.int p0), .val (.int (4 : Int32)), .val (.ref s_FLOAT), .val (.int (0 : Int32)), .val (.int (0 : Int32)), .unset] [(.ref s_FLOAT)])) rfl (hb hby at_54)) ?_
    obtain ⟨cq15, kq15, q15a, q15b, q15c⟩ := isOf hZ e14 Ex_FLOAT
    obtain ⟨_, _, ⟨T15, L15, k15, n15⟩, -, X15, ⟨Lc15, hQ15, l15, y15, z15⟩, st15⟩ := X14.virtualBack hx (y := (⟨"com/example/mave/mave/lang/Type", "convert", "(D)D"⟩ : MethodName)) (z := (⟨"com/example/mave/mave/lang/Type", "convert", "(D)D"⟩ : MethodName)) hown (mvT hZ (hw _ (List.mem_of_getElem? (i := 21) rfl))) (mvT hZ (hw _ (List.mem_of_getElem? (i := 22) rfl))) (notFace_of_selects (args := #[]) (mvT hZ (hw _ (List.mem_of_getElem? (i := 24) rfl)))) (mvT hZ (hw _ (List.mem_of_getElem? (i := 24) rfl))) (mvT hZ (hw _ (List.mem_of_getElem? (i := 23) rfl))) (by decide) (backOf (W := 0) (cv_FLOAT l Z a0 hw [] s_FLOAT (4612811918334230528 : UInt64) h0 n0 Z0 Or_FLOAT Ex_FLOAT) hZ (hw _ (List.mem_of_getElem? (i := 25) rfl)) (hw _ (List.mem_of_getElem? (i := 6) rfl)) (by decide) (by decide)) q15a q15c (g := (mkF m 57 #[.val (.int p0), .val (.int (4 : Int32)), .val (.ref s_FLOAT), .val (.int (0 : Int32)), .val (.int (0 : Int32)), .unset] [(.double (4612811918334230528 : UInt64)), (.ref s_FLOAT)])) rfl (by rw [hml]; rfl) (Steps.refl _) (argsL := [(.double (4612811918334230528 : UInt64))]) (rest := []) (lenOf pd3 rfl) rfl (by show 2 * 0 + _ ≤ _; exact Nat.le_of_eq rfl) (hb hby at_57) (fun _ _ => ⟨rfl, e14, (by decide : 0 + 0 ≤ _), (by decide : 0 + 0 ≤ _)⟩)
    dsimp only [Pt.U, Pt.locs, Pt.cells, Pt.slots] at X15 l15 y15 z15 st15 hQ15
    subst l15 y15 z15
    obtain ⟨rfl, Nq15, e15⟩ := hQ15
    have N15 := Fr.app N14 Nq15
    refine own_go (G := T15.setTop (mkF m 60 #[.val (.int p0), .val (.int (4 : Int32)), .val (.ref s_FLOAT), .val (.int (0 : Int32)), .val (.int (0 : Int32)), .unset] [(.double (4612811918334230528 : UInt64))])) (fun _ k => st15.trans k) ?_
    refine own_go (G := T15.setTop (mkF m 63 #[.val (.int p0), .val (.int (4 : Int32)), .val (.ref s_FLOAT), .val (.int (0 : Int32)), .val (.int (0 : Int32)), .unset] [(.double (4611686018427387904 : UInt64)), (.double (4612811918334230528 : UInt64))])) (X15.ldc2DoubleC hx hown (mvT hZ (hw _ (List.mem_of_getElem? (i := 35) rfl))) (g := (mkF m 60 #[.val (.int p0), .val (.int (4 : Int32)), .val (.ref s_FLOAT), .val (.int (0 : Int32)), .val (.int (0 : Int32)), .unset] [(.double (4612811918334230528 : UInt64))])) rfl (hb hby at_60)) ?_
    refine own_go (G := T15.setTop (mkF m 64 #[.val (.int p0), .val (.int (4 : Int32)), .val (.ref s_FLOAT), .val (.int (0 : Int32)), .val (.int (0 : Int32)), .unset] [(.int (cmpValue (FP.dcmp (4612811918334230528 : UInt64) (4611686018427387904 : UInt64)) .l))])) (fun _ k => own_dcmp X15.here hx rfl (hb hby at_63) rfl k) ?_
    refine own_go (G := T15.setTop (mkF m 71 #[.val (.int p0), .val (.int (4 : Int32)), .val (.ref s_FLOAT), .val (.int (0 : Int32)), .val (.int (0 : Int32)), .unset] [])) (fun _ k => XS.ifYes X15.here hx rfl (pc0 := 64) (pc' := 71) rfl (hb hby at_64) rfl ((if0 _ _).trans (feq (own_d4 : ¬ ((cmpValue (FP.dcmp (4612811918334230528 : UInt64) (4611686018427387904 : UInt64)) .l) = (0 : Int32)))).2) (by decide) (by decide) k) ?_
    refine own_go (G := T15.setTop (mkF m 72 #[.val (.int p0), .val (.int (4 : Int32)), .val (.ref s_FLOAT), .val (.int (0 : Int32)), .val (.int (0 : Int32)), .unset] [(.int (0 : Int32))])) (fun _ k => XS.iconst X15.here hx rfl (hb hby at_71) k) ?_
    refine own_go (G := T15.setTop (mkF m 74 #[.val (.int p0), .val (.int (4 : Int32)), .val (.ref s_FLOAT), .val (.int (0 : Int32)), .val (.int (0 : Int32)), .val (.int (0 : Int32))] [])) (fun _ k => XS.istore X15.here hx rfl (hb hby at_72) rfl (l' := #[.val (.int p0), .val (.int (4 : Int32)), .val (.ref s_FLOAT), .val (.int (0 : Int32)), .val (.int (0 : Int32)), .val (.int (0 : Int32))]) rfl k) ?_
    refine own_go (G := T15.setTop (mkF m 75 #[.val (.int p0), .val (.int (4 : Int32)), .val (.ref s_FLOAT), .val (.int (0 : Int32)), .val (.int (0 : Int32)), .val (.int (0 : Int32))] [(.int (0 : Int32))])) (fun _ k => XS.iloadN X15.here hx rfl (hb hby at_74) rfl k) ?_
    refine own_go (G := T15.setTop (mkF m 77 #[.val (.int p0), .val (.int (4 : Int32)), .val (.ref s_FLOAT), .val (.int (0 : Int32)), .val (.int (0 : Int32)), .val (.int (0 : Int32))] [(.int (0 : Int32)), (.int (0 : Int32))])) (fun _ k => XS.iload X15.here hx rfl (hb hby at_75) rfl k) ?_
    refine own_go (G := T15.setTop (mkF m 82 #[.val (.int p0), .val (.int (4 : Int32)), .val (.ref s_FLOAT), .val (.int (0 : Int32)), .val (.int (0 : Int32)), .val (.int (0 : Int32))] [])) (fun _ k => XS.icmpYes X15.here hx rfl (pc0 := 77) (pc' := 82) rfl (hb hby at_77) rfl (teq (by decide : (0 : Int32) = (0 : Int32))).1 (by decide) (by decide) k) ?_
    refine own_go (G := T15.setTop (mkF m 83 #[.val (.int p0), .val (.int (4 : Int32)), .val (.ref s_FLOAT), .val (.int (0 : Int32)), .val (.int (0 : Int32)), .val (.int (0 : Int32))] [(.int (1 : Int32))])) (fun _ k => XS.iconst X15.here hx rfl (hb hby at_82) k) ?_
    exact own_ret1 X15 hx Bd.returns (hb hby at_83) Bd.notSynchronized (by decide) (by decide) ⟨rfl, N15⟩
  · subst hb_
    refine own_go (G := s₁.setTop (mkF m 9 #[.val (.int p0), .val (.int (5 : Int32)), .unset, .unset, .unset, .unset] [(.int (5 : Int32))])) (fun _ k => XS.iloadN X0.here hx rfl (hb hby at_8) rfl k) ?_
    obtain ⟨_, _, ⟨T16, L16, k16, n16⟩, -, X16, ⟨Lc16, hQ16, l16, y16, z16⟩, st16⟩ := Jvm.LawKit.callS X0 hx (y := (⟨"com/example/mave/mave/lang/TypeIsIntegralPinLaw", "pick", "(I)Lcom/example/mave/mave/lang/Type;"⟩ : MethodName)) hown (mvT hZ (hw _ (List.mem_of_getElem? (i := 1) rfl))) (mvT hZ (hw _ (List.mem_of_getElem? (i := 2) rfl))) (mvT hZ (hw _ (List.mem_of_getElem? (i := 3) rfl))) (mvT hZ (hw _ (List.mem_of_getElem? (i := 4) rfl))) (by decide) (backOf (W := 0) (rm1 l Z a0 hw [] (5 : Int32) s_BOOLEAN s_BYTE s_SHORT s_INT s_FLOAT s_REBEC h0 n0 Z0 S_BOOLEAN S_BYTE S_SHORT S_INT S_FLOAT S_REBEC) hZ (hw _ (List.mem_of_getElem? (i := 4) rfl)) (hw _ (List.mem_of_getElem? (i := 3) rfl)) (by decide) (by decide)) (g := (mkF m 9 #[.val (.int p0), .val (.int (5 : Int32)), .unset, .unset, .unset, .unset] [(.int (5 : Int32))])) rfl (by rw [hml]; rfl) (argsL := [(.int (5 : Int32))]) (rest := []) (lenOf pd1 rfl) rfl (by show 2 * 0 + _ ≤ _; exact Nat.le_of_eq rfl) (hb hby at_9) (fun _ _ => ⟨rfl, e0, (by decide : 0 + 0 ≤ _), (by decide : 0 + 0 ≤ _)⟩)
    dsimp only [Pt.U, Pt.locs, Pt.cells, Pt.slots] at X16 l16 y16 z16 st16 hQ16
    subst l16 y16 z16
    obtain ⟨rfl, Nq16, e16⟩ := hQ16
    have N16 := Fr.app N0 Nq16
    have hr16 : F1 (5 : Int32) s_BOOLEAN s_BYTE s_SHORT s_INT s_FLOAT s_REBEC = s_REBEC := by simp [F1]
    rw [hr16] at st16
    refine own_go (G := T16.setTop (mkF m 12 #[.val (.int p0), .val (.int (5 : Int32)), .unset, .unset, .unset, .unset] [(.ref s_REBEC)])) (st16) ?_
    refine own_go (G := T16.setTop (mkF m 13 #[.val (.int p0), .val (.int (5 : Int32)), .val (.ref s_REBEC), .unset, .unset, .unset] [])) (fun _ k => XS.astoreN X16.here hx rfl (hb hby at_12) rfl rfl (l' := #[.val (.int p0), .val (.int (5 : Int32)), .val (.ref s_REBEC), .unset, .unset, .unset]) rfl k) ?_
    refine own_go (G := T16.setTop (mkF m 14 #[.val (.int p0), .val (.int (5 : Int32)), .val (.ref s_REBEC), .unset, .unset, .unset] [(.ref s_REBEC)])) (fun _ k => XS.aloadN X16.here hx rfl (hb hby at_13) rfl rfl k) ?_
    obtain ⟨cq17, kq17, q17a, q17b, q17c⟩ := isOf hZ e16 Ex_REBEC
    obtain ⟨_, _, ⟨T17, L17, k17, n17⟩, -, X17, ⟨Lc17, hQ17, l17, y17, z17⟩, st17⟩ := X16.virtualBack hx (y := (⟨"com/example/mave/mave/lang/Type", "isIntegral", "()Z"⟩ : MethodName)) (z := (⟨"com/example/mave/mave/lang/Type", "isIntegral", "()Z"⟩ : MethodName)) hown (mvT hZ (hw _ (List.mem_of_getElem? (i := 8) rfl))) (mvT hZ (hw _ (List.mem_of_getElem? (i := 9) rfl))) (notFace_of_selects (args := #[]) (mvT hZ (hw _ (List.mem_of_getElem? (i := 11) rfl)))) (mvT hZ (hw _ (List.mem_of_getElem? (i := 11) rfl))) (mvT hZ (hw _ (List.mem_of_getElem? (i := 10) rfl))) (by decide) (backOf (W := 0) (ii_REBEC l Z a0 hw [] s_REBEC s_BYTE s_SHORT s_INT h0 n0 Z0 S_BYTE S_SHORT S_INT n_BYTE_REBEC n_SHORT_REBEC n_INT_REBEC) hZ (hw _ (List.mem_of_getElem? (i := 12) rfl)) (hw _ (List.mem_of_getElem? (i := 6) rfl)) (by decide) (by decide)) q17a q17c (g := (mkF m 14 #[.val (.int p0), .val (.int (5 : Int32)), .val (.ref s_REBEC), .unset, .unset, .unset] [(.ref s_REBEC)])) rfl (by rw [hml]; rfl) (Steps.refl _) (argsL := []) (rest := []) (lenOf pd2 rfl) rfl (by show 2 * 0 + _ ≤ _; exact Nat.le_of_eq rfl) (hb hby at_14) (fun _ _ => ⟨rfl, e16, (by decide : 0 + 0 ≤ _), (by decide : 0 + 0 ≤ _)⟩)
    dsimp only [Pt.U, Pt.locs, Pt.cells, Pt.slots] at X17 l17 y17 z17 st17 hQ17
    subst l17 y17 z17
    obtain ⟨rfl, Nq17, e17⟩ := hQ17
    have N17 := Fr.app N16 Nq17
    refine own_go (G := T17.setTop (mkF m 17 #[.val (.int p0), .val (.int (5 : Int32)), .val (.ref s_REBEC), .unset, .unset, .unset] [(.int (0 : Int32))])) (fun _ k => st17.trans k) ?_
    refine own_go (G := T17.setTop (mkF m 18 #[.val (.int p0), .val (.int (5 : Int32)), .val (.ref s_REBEC), .val (.int (0 : Int32)), .unset, .unset] [])) (fun _ k => XS.istoreN X17.here hx rfl (hb hby at_17) rfl (l' := #[.val (.int p0), .val (.int (5 : Int32)), .val (.ref s_REBEC), .val (.int (0 : Int32)), .unset, .unset]) rfl k) ?_
    refine own_go (G := T17.setTop (mkF m 19 #[.val (.int p0), .val (.int (5 : Int32)), .val (.ref s_REBEC), .val (.int (0 : Int32)), .unset, .unset] [(.int (5 : Int32))])) (fun _ k => XS.iloadN X17.here hx rfl (hb hby at_18) rfl k) ?_
    refine own_go (G := T17.setTop (mkF m 20 #[.val (.int p0), .val (.int (5 : Int32)), .val (.ref s_REBEC), .val (.int (0 : Int32)), .unset, .unset] [(.int (1 : Int32)), (.int (5 : Int32))])) (fun _ k => XS.iconst X17.here hx rfl (hb hby at_19) k) ?_
    refine own_go (G := T17.setTop (mkF m 23 #[.val (.int p0), .val (.int (5 : Int32)), .val (.ref s_REBEC), .val (.int (0 : Int32)), .unset, .unset] [])) (fun _ k => XS.icmpNo X17.here hx rfl (hb hby at_20) rfl (flt (by decide : ¬ ((5 : Int32) < (1 : Int32)))).1 k) ?_
    refine own_go (G := T17.setTop (mkF m 24 #[.val (.int p0), .val (.int (5 : Int32)), .val (.ref s_REBEC), .val (.int (0 : Int32)), .unset, .unset] [(.int (5 : Int32))])) (fun _ k => XS.iloadN X17.here hx rfl (hb hby at_23) rfl k) ?_
    refine own_go (G := T17.setTop (mkF m 25 #[.val (.int p0), .val (.int (5 : Int32)), .val (.ref s_REBEC), .val (.int (0 : Int32)), .unset, .unset] [(.int (3 : Int32)), (.int (5 : Int32))])) (fun _ k => XS.iconst X17.here hx rfl (hb hby at_24) k) ?_
    refine own_go (G := T17.setTop (mkF m 32 #[.val (.int p0), .val (.int (5 : Int32)), .val (.ref s_REBEC), .val (.int (0 : Int32)), .unset, .unset] [])) (fun _ k => XS.icmpYes X17.here hx rfl (pc0 := 25) (pc' := 32) rfl (hb hby at_25) rfl (tlt (by decide : (3 : Int32) < (5 : Int32))).2.2.1 (by decide) (by decide) k) ?_
    refine own_go (G := T17.setTop (mkF m 33 #[.val (.int p0), .val (.int (5 : Int32)), .val (.ref s_REBEC), .val (.int (0 : Int32)), .unset, .unset] [(.int (0 : Int32))])) (fun _ k => XS.iconst X17.here hx rfl (hb hby at_32) k) ?_
    refine own_go (G := T17.setTop (mkF m 35 #[.val (.int p0), .val (.int (5 : Int32)), .val (.ref s_REBEC), .val (.int (0 : Int32)), .val (.int (0 : Int32)), .unset] [])) (fun _ k => XS.istore X17.here hx rfl (hb hby at_33) rfl (l' := #[.val (.int p0), .val (.int (5 : Int32)), .val (.ref s_REBEC), .val (.int (0 : Int32)), .val (.int (0 : Int32)), .unset]) rfl k) ?_
    refine own_go (G := T17.setTop (mkF m 36 #[.val (.int p0), .val (.int (5 : Int32)), .val (.ref s_REBEC), .val (.int (0 : Int32)), .val (.int (0 : Int32)), .unset] [(.int (0 : Int32))])) (fun _ k => XS.iloadN X17.here hx rfl (hb hby at_35) rfl k) ?_
    refine own_go (G := T17.setTop (mkF m 38 #[.val (.int p0), .val (.int (5 : Int32)), .val (.ref s_REBEC), .val (.int (0 : Int32)), .val (.int (0 : Int32)), .unset] [(.int (0 : Int32)), (.int (0 : Int32))])) (fun _ k => XS.iload X17.here hx rfl (hb hby at_36) rfl k) ?_
    refine own_go (G := T17.setTop (mkF m 43 #[.val (.int p0), .val (.int (5 : Int32)), .val (.ref s_REBEC), .val (.int (0 : Int32)), .val (.int (0 : Int32)), .unset] [])) (fun _ k => XS.icmpYes X17.here hx rfl (pc0 := 38) (pc' := 43) rfl (hb hby at_38) rfl (teq (by decide : (0 : Int32) = (0 : Int32))).1 (by decide) (by decide) k) ?_
    refine own_go (G := T17.setTop (mkF m 44 #[.val (.int p0), .val (.int (5 : Int32)), .val (.ref s_REBEC), .val (.int (0 : Int32)), .val (.int (0 : Int32)), .unset] [(.int (5 : Int32))])) (fun _ k => XS.iloadN X17.here hx rfl (hb hby at_43) rfl k) ?_
    refine own_go (G := T17.setTop (mkF m 45 #[.val (.int p0), .val (.int (5 : Int32)), .val (.ref s_REBEC), .val (.int (0 : Int32)), .val (.int (0 : Int32)), .unset] [(.int (1 : Int32)), (.int (5 : Int32))])) (fun _ k => XS.iconst X17.here hx rfl (hb hby at_44) k) ?_
    refine own_go (G := T17.setTop (mkF m 48 #[.val (.int p0), .val (.int (5 : Int32)), .val (.ref s_REBEC), .val (.int (0 : Int32)), .val (.int (0 : Int32)), .unset] [])) (fun _ k => XS.icmpNo X17.here hx rfl (hb hby at_45) rfl (flt (by decide : ¬ ((5 : Int32) < (1 : Int32)))).1 k) ?_
    refine own_go (G := T17.setTop (mkF m 49 #[.val (.int p0), .val (.int (5 : Int32)), .val (.ref s_REBEC), .val (.int (0 : Int32)), .val (.int (0 : Int32)), .unset] [(.int (5 : Int32))])) (fun _ k => XS.iloadN X17.here hx rfl (hb hby at_48) rfl k) ?_
    refine own_go (G := T17.setTop (mkF m 50 #[.val (.int p0), .val (.int (5 : Int32)), .val (.ref s_REBEC), .val (.int (0 : Int32)), .val (.int (0 : Int32)), .unset] [(.int (4 : Int32)), (.int (5 : Int32))])) (fun _ k => XS.iconst X17.here hx rfl (hb hby at_49) k) ?_
    refine own_go (G := T17.setTop (mkF m 82 #[.val (.int p0), .val (.int (5 : Int32)), .val (.ref s_REBEC), .val (.int (0 : Int32)), .val (.int (0 : Int32)), .unset] [])) (fun _ k => XS.icmpYes X17.here hx rfl (pc0 := 50) (pc' := 82) rfl (hb hby at_50) rfl (tlt (by decide : (4 : Int32) < (5 : Int32))).2.2.1 (by decide) (by decide) k) ?_
    refine own_go (G := T17.setTop (mkF m 83 #[.val (.int p0), .val (.int (5 : Int32)), .val (.ref s_REBEC), .val (.int (0 : Int32)), .val (.int (0 : Int32)), .unset] [(.int (1 : Int32))])) (fun _ k => XS.iconst X17.here hx rfl (hb hby at_82) k) ?_
    exact own_ret1 X17 hx Bd.returns (hb hby at_83) Bd.notSynchronized (by decide) (by decide) ⟨rfl, N17⟩
set_option maxRecDepth 65536 in
set_option maxHeartbeats 40000000 in
theorem comes_1 {Post : Tables → Env → Array Value → State → Outcome → State → Prop} (hpost : ∀ tb e args s v u, (limb_1_1.after args s (.returned v) u = true ∧ limb_1_2.after args s (.returned v) u = true ∧ True) → FrameEnd s (.returned v) u (Jvm.fieldLocs frame_1_writes args s ++ Jvm.arrayLocs frame_1_arrays args s ++ Jvm.staticLocs frame_1_statics s) 0 0 → Post tb e args s (.returned v) u) :
    ArmFor flags0 classFile x code maxLocals ret World_1 tables_1 room_1 Calls_1 rest_1 Pre_1 Post := by
  intro l hfl _ _ p e ha hc hk s m args below hf hA hF happ hP
  obtain ⟨hcalls, hrest, hpre⟩ := hP
  obtain ⟨-, -, -, hnamed, -, -, -, hat⟩ := (Spec.applies_iff hf).mp happ
  obtain ⟨hg, hn⟩ := and_e (Cond.before_iff.mp (show (Jvm.Cond.and given_1 narrow_1).before args s = true from hpre))
  obtain ⟨gc, g0⟩ := and_e hg
  obtain ⟨w0, rfl⟩ : ∃ w0 : Value, args = #[w0] := by
    have hs : args.size = 1 := by simpa [Cond.value, given_1] using gc
    obtain ⟨L⟩ := args
    match L, hs with
    | [w0], _ => exact ⟨w0, rfl⟩
  have hw := fun d (hd : d ∈ tables_1) => atoms_spec (ws := Jvm.Cond.code x code maxLocals ret :: tables_1) hat d (List.mem_cons_of_mem _ hd)
  obtain ⟨i0, ei0⟩ := is_v g0
  obtain rfl : w0 = (.int i0) := Option.some.inj ei0
  obtain ⟨m0, r0⟩ := and_e hn
  have E_BOOLEAN := m0
  obtain ⟨m1, r1⟩ := and_e r0
  have E_BYTE := m1
  obtain ⟨m2, r2⟩ := and_e r1
  have O_BOOLEAN := m2
  obtain ⟨m3, r3⟩ := and_e r2
  have O_BYTE := m3
  obtain ⟨m4, r4⟩ := and_e r3
  have E_SHORT := m4
  obtain ⟨m5, r5⟩ := and_e r4
  have O_SHORT := m5
  obtain ⟨m6, r6⟩ := and_e r5
  have E_INT := m6
  obtain ⟨m7, r7⟩ := and_e r6
  have O_INT := m7
  obtain ⟨m8, r8⟩ := and_e r7
  have E_REBEC := m8
  obtain ⟨m9, r9⟩ := and_e r8
  have O_REBEC := m9
  obtain ⟨m10, r10⟩ := and_e r9
  have E_FLOAT := m10
  have O_FLOAT := r10
  obtain ⟨s_BOOLEAN, ev_BOOLEAN⟩ := exa_v E_BOOLEAN
  have S_BOOLEAN := Sta.start ev_BOOLEAN (Or.inr ⟨(hw _ (List.mem_of_getElem? (i := 6) rfl)), (hw _ (List.mem_of_getElem? (i := 7) rfl))⟩)
  have Ex_BOOLEAN := Exa.start ev_BOOLEAN E_BOOLEAN
  have Or_BOOLEAN := own_ord O_BOOLEAN ev_BOOLEAN
  obtain ⟨s_BYTE, ev_BYTE⟩ := exa_v E_BYTE
  have S_BYTE := Sta.start ev_BYTE (Or.inr ⟨(hw _ (List.mem_of_getElem? (i := 6) rfl)), (hw _ (List.mem_of_getElem? (i := 14) rfl))⟩)
  have Ex_BYTE := Exa.start ev_BYTE E_BYTE
  have Or_BYTE := own_ord O_BYTE ev_BYTE
  obtain ⟨s_SHORT, ev_SHORT⟩ := exa_v E_SHORT
  have S_SHORT := Sta.start ev_SHORT (Or.inr ⟨(hw _ (List.mem_of_getElem? (i := 6) rfl)), (hw _ (List.mem_of_getElem? (i := 16) rfl))⟩)
  have Ex_SHORT := Exa.start ev_SHORT E_SHORT
  have Or_SHORT := own_ord O_SHORT ev_SHORT
  obtain ⟨s_INT, ev_INT⟩ := exa_v E_INT
  have S_INT := Sta.start ev_INT (Or.inr ⟨(hw _ (List.mem_of_getElem? (i := 6) rfl)), (hw _ (List.mem_of_getElem? (i := 18) rfl))⟩)
  have Ex_INT := Exa.start ev_INT E_INT
  have Or_INT := own_ord O_INT ev_INT
  obtain ⟨s_FLOAT, ev_FLOAT⟩ := exa_v E_FLOAT
  have S_FLOAT := Sta.start ev_FLOAT (Or.inr ⟨(hw _ (List.mem_of_getElem? (i := 6) rfl)), (hw _ (List.mem_of_getElem? (i := 41) rfl))⟩)
  have Ex_FLOAT := Exa.start ev_FLOAT E_FLOAT
  have Or_FLOAT := own_ord O_FLOAT ev_FLOAT
  obtain ⟨s_REBEC, ev_REBEC⟩ := exa_v E_REBEC
  have S_REBEC := Sta.start ev_REBEC (Or.inr ⟨(hw _ (List.mem_of_getElem? (i := 6) rfl)), (hw _ (List.mem_of_getElem? (i := 39) rfl))⟩)
  have Ex_REBEC := Exa.start ev_REBEC E_REBEC
  have Or_REBEC := own_ord O_REBEC ev_REBEC
  have n_BOOLEAN_BYTE : s_BOOLEAN ≠ s_BYTE := Or_BOOLEAN.ne Or_BYTE (by decide)
  have n_BOOLEAN_SHORT : s_BOOLEAN ≠ s_SHORT := Or_BOOLEAN.ne Or_SHORT (by decide)
  have n_BOOLEAN_INT : s_BOOLEAN ≠ s_INT := Or_BOOLEAN.ne Or_INT (by decide)
  have n_BOOLEAN_FLOAT : s_BOOLEAN ≠ s_FLOAT := Or_BOOLEAN.ne Or_FLOAT (by decide)
  have n_BOOLEAN_REBEC : s_BOOLEAN ≠ s_REBEC := Or_BOOLEAN.ne Or_REBEC (by decide)
  have n_BYTE_SHORT : s_BYTE ≠ s_SHORT := Or_BYTE.ne Or_SHORT (by decide)
  have n_BYTE_INT : s_BYTE ≠ s_INT := Or_BYTE.ne Or_INT (by decide)
  have n_BYTE_FLOAT : s_BYTE ≠ s_FLOAT := Or_BYTE.ne Or_FLOAT (by decide)
  have n_BYTE_REBEC : s_BYTE ≠ s_REBEC := Or_BYTE.ne Or_REBEC (by decide)
  have n_SHORT_INT : s_SHORT ≠ s_INT := Or_SHORT.ne Or_INT (by decide)
  have n_SHORT_FLOAT : s_SHORT ≠ s_FLOAT := Or_SHORT.ne Or_FLOAT (by decide)
  have n_SHORT_REBEC : s_SHORT ≠ s_REBEC := Or_SHORT.ne Or_REBEC (by decide)
  have n_INT_FLOAT : s_INT ≠ s_FLOAT := Or_INT.ne Or_FLOAT (by decide)
  have n_INT_REBEC : s_INT ≠ s_REBEC := Or_INT.ne Or_REBEC (by decide)
  have n_FLOAT_REBEC : s_FLOAT ≠ s_REBEC := Or_FLOAT.ne Or_REBEC (by decide)
  obtain ⟨n, o, h1, h2, h3, _, L, rfl, ⟨rfl, N⟩, hq⟩ := rm0 l s _ hw tables_1 i0 s_BOOLEAN s_BYTE s_SHORT s_INT s_FLOAT s_REBEC s.heap s.heap.size (Nat.le_refl _) S_BOOLEAN S_BYTE S_SHORT S_INT S_FLOAT S_REBEC Ex_BOOLEAN Or_BOOLEAN Ex_BYTE Or_BYTE Ex_SHORT Or_SHORT Ex_INT Or_INT Ex_FLOAT Or_FLOAT Ex_REBEC Or_REBEC n_BOOLEAN_BYTE n_BOOLEAN_SHORT n_BOOLEAN_INT n_BOOLEAN_FLOAT n_BOOLEAN_REBEC n_BYTE_SHORT n_BYTE_INT n_BYTE_FLOAT n_BYTE_REBEC n_SHORT_INT n_SHORT_FLOAT n_SHORT_REBEC n_INT_FLOAT n_INT_REBEC n_FLOAT_REBEC p e ha hc hk s m _ below hf ((Spec.applies_iff_loose hf).mp happ).1 ⟨rfl, State.Warmed39.refl s, rfl⟩ trivial
  refine ⟨n, _, h1, h2, h3, hpost _ _ _ _ _ _ ⟨Cond.after_iff.mpr rfl, Cond.after_iff.mpr (eq_i res_at (Term.int_eval (1)) rfl), trivial⟩ ⟨hq.1, hq.2.1, (hq.2.2.sift fun y hy => Or.inr (N y hy)).mono (by decide) (by decide)⟩⟩
theorem main_1_1 : Claimed_1_1 := comes_1 fun _ _ _ _ _ _ h hF => ⟨h.1, hF⟩
theorem main_1_2 : Claimed_1_2 := comes_1 fun _ _ _ _ _ _ h hF => ⟨h.2.1, hF⟩
end Jvm.Pilot.@@N@@
namespace Jvm.Pilot.@@N@@
open Jvm Jvm.ClassFile Sem Op Lib Jvm.Free Jvm.Stand Jvm.Pilot.@@N@@.Jvm.D
/-! MADE BY PROGRAM (witnessworld.py) out of the Statement's table words and the real class files: 12 classes; the members and pool entries that the words name. The judged class is class 1, her method 2. -/
namespace start1
open Jvm.ClassFile
def u (s : String) : CpInfo := .utf8 (stringToUtf16 s)
/-- a pool by its gaps: so many unusable entries, then the entry; so many at the end -/
def gap : Nat → List CpInfo → List CpInfo
  | 0, r => r
  | n + 1, r => .unusable :: gap n r
def poolList (es : List (Nat × CpInfo)) (last : Nat) : List CpInfo := es.foldr (fun e r => gap e.1 (e.2 :: r)) (gap last [])
def pool (es : List (Nat × CpInfo)) (last : Nat) : Array CpInfo := ⟨poolList es last⟩
def fileOf (pool : Array CpInfo) (this : Nat) (attrs : Array Attribute := #[]) (ms : Array MethodInfo := #[]) (fl : Nat := 33) (sup : Nat := 0) (ifs : Array Nat := #[]) (fds : Array FieldInfo := #[]) : ClassFile where
  minorVersion := 0
  majorVersion := 65
  constantPool := pool
  accessFlags := fl
  thisClass := this
  superClass := sup
  interfaces := ifs
  fields := fds
  methods := ms
  attributes := attrs
def plain (name : String) (sup : Option ClassId) : Class where
  name := name
  kind := .ordinary
  loader := none
  accessFlags := 33
  super := sup
  interfaces := #[]
  cf := none
  fields := #[]
  methods := #[]
  instanceTypes := #[]
  staticTypes := #[]
  resolved := #[]
  callSites := []
  init := .initialized
  statics := none
  mirror := none

def pool0 : Array CpInfo := pool [(5, u "<init>"), (0, u "()V"), (1, .class_ 10), (1, u "java/lang/Object")] 113

def k0m0 : Method := { name := "<init>", desc := "()V", sig := { parameters := [], returnType := none }, accessFlags := 1, code := none }
/-- java/lang/Object -/
def k0 : Class := { plain "java/lang/Object" none with
  accessFlags := 33
  interfaces := #[]
  cf := some (fileOf pool0 8 #[] #[{ accessFlags := 1, nameIndex := 5, descriptorIndex := 6, attributes := #[] }] 33 0 #[] #[])
  fields := #[]
  methods := #[k0m0]
  instanceTypes := #[]
  staticTypes := #[]
  resolved := Array.replicate 124 none
  statics := none }

def pool1 : Array CpInfo := pool [(2, .class_ 4), (1, u "java/lang/Object"), (0, u "<init>"), (0, u "()V"), (0, .fieldref 8 9), (0, .class_ 10), (0, .nameAndType 11 12), (0, u "com/example/mave/mave/lang/Type"), (0, u "BOOLEAN"), (0, u "Lcom/example/mave/mave/lang/Type;"), (0, .fieldref 8 14), (0, .nameAndType 15 12), (0, u "BYTE"), (0, .fieldref 8 17), (0, .nameAndType 18 12), (0, u "SHORT"), (0, .fieldref 8 20), (0, .nameAndType 21 12), (0, u "INT"), (0, .fieldref 8 23), (0, .nameAndType 24 12), (0, u "FLOAT"), (0, .fieldref 8 26), (0, .nameAndType 27 12), (0, u "REBEC"), (0, .integer 2147483647), (0, .methodref 30 31), (0, .class_ 32), (0, .nameAndType 33 34), (0, u "com/example/mave/mave/lang/TypeIsIntegralPinLaw"), (0, u "pick"), (0, u "(I)Lcom/example/mave/mave/lang/Type;"), (0, .methodref 8 36), (0, .nameAndType 37 38), (0, u "isIntegral"), (0, u "()Z"), (0, .double 4612811918334230528), (1, .methodref 8 42), (0, .nameAndType 43 44), (0, u "convert"), (0, u "(D)D"), (0, .double 4611686018427387904), (4, u "law"), (0, u "(I)Z")] 2

def k1m0 : Method := { name := "<init>", desc := "()V", sig := { parameters := [], returnType := none }, accessFlags := 1, code := none }
def k1c1 : Code := { maxStack := 2, maxLocals := 1, code := method_2_code, exceptionTable := #[], attributes := #[] }
def k1m1 : Method := { name := "pick", desc := "(I)Lcom/example/mave/mave/lang/Type;", sig := { parameters := [.int], returnType := some (.object "com/example/mave/mave/lang/Type") }, accessFlags := 10, code := some k1c1 }
def k1c2 : Code := { maxStack := 4, maxLocals := 6, code := code, exceptionTable := #[], attributes := #[] }
def k1m2 : Method := { name := "law", desc := "(I)Z", sig := { parameters := [.int], returnType := some .boolean }, accessFlags := 9, code := some k1c2 }
/-- com/example/mave/mave/lang/TypeIsIntegralPinLaw -/
def k1 : Class := { plain "com/example/mave/mave/lang/TypeIsIntegralPinLaw" (some 0) with
  accessFlags := 49
  interfaces := #[]
  cf := some (fileOf pool1 30 #[] #[{ accessFlags := 1, nameIndex := 5, descriptorIndex := 6, attributes := #[] }, { accessFlags := 10, nameIndex := 33, descriptorIndex := 34, attributes := #[] }, { accessFlags := 9, nameIndex := 50, descriptorIndex := 51, attributes := #[] }] 49 2 #[] #[])
  fields := #[]
  methods := #[k1m0, k1m1, k1m2]
  instanceTypes := #[]
  staticTypes := #[]
  resolved := Array.replicate 54 none
  statics := none }

def pool2 : Array CpInfo := pool [(1, .class_ 2), (0, u "java/lang/constant/Constable"), (0, .class_ 4), (0, u "java/lang/Object")] 6

/-- java/lang/constant/Constable -/
def k2 : Class := { plain "java/lang/constant/Constable" (some 0) with
  accessFlags := 1537
  interfaces := #[]
  cf := some (fileOf pool2 1 #[] #[] 1537 3 #[] #[])
  fields := #[]
  methods := #[]
  instanceTypes := #[]
  staticTypes := #[]
  resolved := Array.replicate 11 none
  statics := none }

def pool3 : Array CpInfo := pool [(1, .class_ 2), (0, u "java/lang/Comparable"), (0, .class_ 4), (0, u "java/lang/Object")] 7

/-- java/lang/Comparable -/
def k3 : Class := { plain "java/lang/Comparable" (some 0) with
  accessFlags := 1537
  interfaces := #[]
  cf := some (fileOf pool3 1 #[] #[] 1537 3 #[] #[])
  fields := #[]
  methods := #[]
  instanceTypes := #[]
  staticTypes := #[]
  resolved := Array.replicate 12 none
  statics := none }

def pool4 : Array CpInfo := pool [(1, .class_ 2), (0, u "java/io/Serializable"), (0, .class_ 4), (0, u "java/lang/Object")] 2

/-- java/io/Serializable -/
def k4 : Class := { plain "java/io/Serializable" (some 0) with
  accessFlags := 1537
  interfaces := #[]
  cf := some (fileOf pool4 1 #[] #[] 1537 3 #[] #[])
  fields := #[]
  methods := #[]
  instanceTypes := #[]
  staticTypes := #[]
  resolved := Array.replicate 7 none
  statics := none }

def pool5 : Array CpInfo := pool [(2, .class_ 4), (1, u "java/lang/Enum"), (0, u "name"), (0, u "Ljava/lang/String;"), (0, .fieldref 2 8), (0, .nameAndType 9 10), (0, u "ordinal"), (0, u "I"), (1, .class_ 14), (1, u "java/lang/Object"), (4, u "hash"), (86, .class_ 108), (1, u "java/lang/Enum$EnumDesc"), (2, .class_ 112), (0, u "java/lang/constant/Constable"), (0, .class_ 114), (0, u "java/lang/Comparable"), (0, .class_ 116), (0, u "java/io/Serializable"), (9, u "()I")] 77

def k5c0 : Code := { maxStack := 1, maxLocals := 1, code := jdk_37_method_2_code, exceptionTable := #[], attributes := #[] }
def k5m0 : Method := { name := "ordinal", desc := "()I", sig := { parameters := [], returnType := some .int }, accessFlags := 17, code := some k5c0 }
/-- java/lang/Enum -/
def k5 : Class := { plain "java/lang/Enum" (some 0) with
  accessFlags := 1057
  interfaces := #[2, 3, 4]
  cf := some (fileOf pool5 2 #[.nestMembers #[106]] #[{ accessFlags := 17, nameIndex := 9, descriptorIndex := 126, attributes := #[] }] 1057 12 #[111, 113, 115] #[{ accessFlags := 18, nameIndex := 5, descriptorIndex := 6, attributes := #[] }, { accessFlags := 18, nameIndex := 9, descriptorIndex := 10, attributes := #[] }, { accessFlags := 2, nameIndex := 19, descriptorIndex := 10, attributes := #[] }])
  fields := #[{ name := "name", type := (.object "java/lang/String"), accessFlags := 18, slot := 0, constantValue := 0 }, { name := "ordinal", type := .int, accessFlags := 18, slot := 1, constantValue := 0 }, { name := "hash", type := .int, accessFlags := 2, slot := 2, constantValue := 0 }]
  methods := #[k5m0]
  instanceTypes := #[(.object "java/lang/String"), .int, .int]
  staticTypes := #[]
  resolved := Array.replicate 204 none
  statics := none }

def pool6 : Array CpInfo := pool [(1, .class_ 2), (0, u "com/example/mave/mave/lang/Type"), (2, u "BOOLEAN"), (0, u "Lcom/example/mave/mave/lang/Type;"), (0, .fieldref 1 8), (0, .nameAndType 9 6), (0, u "BYTE"), (0, .fieldref 1 11), (0, .nameAndType 12 6), (0, u "SHORT"), (0, .fieldref 1 14), (0, .nameAndType 15 6), (0, u "INT"), (2, u "FLOAT"), (2, u "REBEC"), (2, u "$VALUES"), (0, u "[Lcom/example/mave/mave/lang/Type;"), (6, .class_ 34), (1, u "java/lang/Enum"), (8, u "keyword"), (0, u "Ljava/lang/String;"), (2, u "isIntegral"), (0, u "()Z"), (3, .methodref 1 53), (0, .nameAndType 54 55), (0, u "ordinal"), (0, u "()I"), (20, u "WRITTEN"), (0, u "Ljava/util/Map;"), (47, u "convert"), (0, u "(D)D")] 23

def k6c0 : Code := { maxStack := 2, maxLocals := 1, code := prog_169_method_6_code, exceptionTable := #[], attributes := #[] }
def k6m0 : Method := { name := "isIntegral", desc := "()Z", sig := { parameters := [], returnType := some .boolean }, accessFlags := 1, code := some k6c0 }
def k6c1 : Code := { maxStack := 3, maxLocals := 5, code := prog_169_method_9_code, exceptionTable := #[], attributes := #[] }
def k6m1 : Method := { name := "convert", desc := "(D)D", sig := { parameters := [.double], returnType := some .double }, accessFlags := 1, code := some k6c1 }
/-- com/example/mave/mave/lang/Type -/
def k6 : Class := { plain "com/example/mave/mave/lang/Type" (some 5) with
  accessFlags := 16433
  interfaces := #[]
  cf := some (fileOf pool6 1 #[] #[{ accessFlags := 1, nameIndex := 47, descriptorIndex := 48, attributes := #[] }, { accessFlags := 1, nameIndex := 125, descriptorIndex := 126, attributes := #[] }] 16433 32 #[] #[{ accessFlags := 16409, nameIndex := 5, descriptorIndex := 6, attributes := #[] }, { accessFlags := 16409, nameIndex := 9, descriptorIndex := 6, attributes := #[] }, { accessFlags := 16409, nameIndex := 12, descriptorIndex := 6, attributes := #[] }, { accessFlags := 16409, nameIndex := 15, descriptorIndex := 6, attributes := #[] }, { accessFlags := 16409, nameIndex := 18, descriptorIndex := 6, attributes := #[] }, { accessFlags := 16409, nameIndex := 21, descriptorIndex := 6, attributes := #[] }, { accessFlags := 26, nameIndex := 76, descriptorIndex := 77, attributes := #[] }, { accessFlags := 18, nameIndex := 43, descriptorIndex := 44, attributes := #[] }, { accessFlags := 4122, nameIndex := 24, descriptorIndex := 25, attributes := #[] }])
  fields := #[{ name := "BOOLEAN", type := (.object "com/example/mave/mave/lang/Type"), accessFlags := 16409, slot := 0, constantValue := 0 }, { name := "BYTE", type := (.object "com/example/mave/mave/lang/Type"), accessFlags := 16409, slot := 1, constantValue := 0 }, { name := "SHORT", type := (.object "com/example/mave/mave/lang/Type"), accessFlags := 16409, slot := 2, constantValue := 0 }, { name := "INT", type := (.object "com/example/mave/mave/lang/Type"), accessFlags := 16409, slot := 3, constantValue := 0 }, { name := "FLOAT", type := (.object "com/example/mave/mave/lang/Type"), accessFlags := 16409, slot := 4, constantValue := 0 }, { name := "REBEC", type := (.object "com/example/mave/mave/lang/Type"), accessFlags := 16409, slot := 5, constantValue := 0 }, { name := "WRITTEN", type := (.object "java/util/Map"), accessFlags := 26, slot := 6, constantValue := 0 }, { name := "keyword", type := (.object "java/lang/String"), accessFlags := 18, slot := 3, constantValue := 0 }, { name := "$VALUES", type := (.array (.object "com/example/mave/mave/lang/Type")), accessFlags := 4122, slot := 7, constantValue := 0 }]
  methods := #[k6m0, k6m1]
  instanceTypes := #[(.object "java/lang/String"), .int, .int, (.object "java/lang/String")]
  staticTypes := #[(.object "com/example/mave/mave/lang/Type"), (.object "com/example/mave/mave/lang/Type"), (.object "com/example/mave/mave/lang/Type"), (.object "com/example/mave/mave/lang/Type"), (.object "com/example/mave/mave/lang/Type"), (.object "com/example/mave/mave/lang/Type"), (.object "java/util/Map"), (.array (.object "com/example/mave/mave/lang/Type"))]
  resolved := Array.replicate 150 none
  statics := some 0 }

def pool7 : Array CpInfo := pool [(1, u "java/lang/Cloneable"), (0, .class_ 1), (0, u "java/lang/Object"), (0, .class_ 3)] 3

/-- java/lang/Cloneable -/
def k7 : Class := { plain "java/lang/Cloneable" (some 0) with
  accessFlags := 1537
  interfaces := #[]
  cf := some (fileOf pool7 2 #[] #[] 1537 4 #[] #[])
  fields := #[]
  methods := #[]
  instanceTypes := #[]
  staticTypes := #[]
  resolved := Array.replicate 8 none
  statics := none }

/-- the primitive byte -/
def k8 : Class := { plain "byte" none with kind := .primitive 'B', accessFlags := 0x411 }
/-- [B -/
def k9 : Class := { plain "[B" (some 0) with kind := .array 8 .byte, interfaces := #[7, 4], accessFlags := 1041 }

/-- the primitive int -/
def k10 : Class := { plain "int" none with kind := .primitive 'I', accessFlags := 0x411 }
/-- [I -/
def k11 : Class := { plain "[I" (some 0) with kind := .array 10 .int, interfaces := #[7, 4], accessFlags := 1041 }

def heap : Heap := #[{ cls := 6, slots := #[.ref 1, .ref 2, .ref 3, .ref 4, .ref 6, .ref 5, .null, .null], vm := .statics 6 },
  { cls := 6, slots := #[.null, .int 0, .int 0, .null], vm := .none },
  { cls := 6, slots := #[.null, .int 1, .int 0, .null], vm := .none },
  { cls := 6, slots := #[.null, .int 2, .int 0, .null], vm := .none },
  { cls := 6, slots := #[.null, .int 3, .int 0, .null], vm := .none },
  { cls := 6, slots := #[.null, .int 5, .int 0, .null], vm := .none },
  { cls := 6, slots := #[.null, .int 4, .int 0, .null], vm := .none }]
def classes : Array Class := #[k0, k1, k2, k3, k4, k5, k6, k7, k8, k9, k10, k11]
def interned : List (Array UInt16 × Addr) := []
def slotsUsed : Nat := 32
def theMethod : MethodId := ⟨1, 2⟩
def args0 : Array Value := #[.int 5]
def aboutOver (below : List Frame) : State where
  vm := { classes := classes, interned := interned.toArray }
  heap := heap
  slotsUsed := slotsUsed
  threads := #[{ frames := .invoking theMethod args0 :: below }]
def below0 : List Frame := [.native { method := ⟨0, 0⟩, args := #[] }]
def about1 : State := aboutOver below0
def p0 : Program := .bare "" "" ""
def e0 : Env := launch0.env 0 0 0
theorem w_frames : about1.frames = Frame.invoking theMethod args0 :: below0 := rfl
set_option maxRecDepth 65536 in
theorem w_args : argsFit about1.vm theMethod args0 = true := by decide +kernel
set_option maxRecDepth 65536 in
theorem w_heap : heapFits about1 = true := by decide +kernel
set_option maxRecDepth 65536 in
theorem w_runnable : about1.curStatus? = some .runnable := by decide +kernel
set_option maxRecDepth 65536 in
theorem w_alone : about1.alone = true := by decide +kernel
set_option maxRecDepth 65536 in
theorem w_named : about1.methodNamed? x = some theMethod := by decide +kernel
set_option maxRecDepth 65536 in
theorem w_hears : about1.hears theMethod below0 = true := by decide +kernel
set_option maxRecDepth 65536 in
theorem w_ripe : about1.ripe theMethod args0 below0 = true := by decide +kernel
theorem w_running : about1.status = .running := rfl
set_option maxRecDepth 65536 in
theorem w_room : about1.hasRoom e0.platform room_1 = true :=
  launch0.hasRoom_least _ room_1 (by decide +kernel) (by decide +kernel) (by decide +kernel) (by decide +kernel) (by decide +kernel) (by decide +kernel)
theorem allAtoms_all (ts : List Jvm.Cond) (a : Array Jvm.Value) (st : Jvm.State) : (allAtoms ts).before a st = ts.all (fun c => c.before a st) := by
  induction ts with
  | nil => rfl
  | cons c t ih =>
    show (Jvm.Cond.and c (allAtoms t)).before a st = _
    rw [Jvm.Cond.before_and, ih, List.all_cons]
def words1 : List Jvm.Cond := Jvm.Cond.code x code maxLocals ret :: tables_1
/-- a 'code' word, met by the world's own term for the bytes: nothing is compared byte by byte -/
theorem code_word {y : MethodName} {bytes : ByteArray} {mx : Nat} {rt : Option FieldType} {a : Array Value} {s : State} {m : MethodId} {meth : Method} {c : Code} (h1 : s.methodNamed? y = some m) (h2 : s.vm.method? m = some meth) (h3 : meth.code = some c) (h4 : c.code = bytes)
    (h5 : (c.maxLocals == mx && c.exceptionTable.isEmpty && decide (c.maxStack ≤ mostOperands) && decide (meth.sig.returnType = rt) && !meth.locks && decide (parseMethodDescriptor y.desc = some meth.sig)) = true) : (Jvm.Cond.code y bytes mx rt).before a s = true := by
  simp only [Bool.and_eq_true, beq_iff_eq, Bool.not_eq_true', decide_eq_true_eq] at h5
  obtain ⟨⟨⟨⟨⟨g1, g2⟩, g3⟩, g4⟩, g5⟩, g6⟩ := h5
  simp [Cond.before, Cond.holds, Cond.value, h1, h2, h3, h4, g1, g2, g3, g4, g5, g6]
def isCode : Jvm.Cond → Bool
  | .code _ _ _ _ => true
  | _ => false
theorem all_split {L : List Jvm.Cond} {P : Jvm.Cond → Bool} (h1 : L.all (fun c => isCode c || P c) = true) (h2 : ∀ c ∈ L.filter isCode, P c = true) : L.all P = true := by
  refine List.all_eq_true.mpr fun c hc => ?_
  have h := List.all_eq_true.mp h1 c hc
  rcases Bool.eq_false_or_eq_true (isCode c) with hi | hi
  · exact h2 c (List.mem_filter.mpr ⟨hc, hi⟩)
  · simpa [hi] using h
set_option maxRecDepth 65536 in
theorem w_c0 : (Jvm.Cond.code x code maxLocals ret).before args0 about1 = true := code_word (m := ⟨1, 2⟩) (meth := k1m2) (c := k1c2) (by decide +kernel) rfl rfl rfl (by decide +kernel)
set_option maxRecDepth 65536 in
theorem w_c1 : (Jvm.Cond.code ({ cls := "com/example/mave/mave/lang/TypeIsIntegralPinLaw", name := "pick", desc := "(I)Lcom/example/mave/mave/lang/Type;" } : Jvm.MethodName) method_2_code (1 : Nat) (Option.some (Jvm.ClassFile.FieldType.object "com/example/mave/mave/lang/Type"))).before args0 about1 = true := code_word (m := ⟨1, 1⟩) (meth := k1m1) (c := k1c1) (by decide +kernel) rfl rfl rfl (by decide +kernel)
set_option maxRecDepth 65536 in
theorem w_c2 : (Jvm.Cond.code ({ cls := "com/example/mave/mave/lang/Type", name := "isIntegral", desc := "()Z" } : Jvm.MethodName) prog_169_method_6_code (1 : Nat) (Option.some Jvm.ClassFile.FieldType.boolean)).before args0 about1 = true := code_word (m := ⟨6, 0⟩) (meth := k6m0) (c := k6c0) (by decide +kernel) rfl rfl rfl (by decide +kernel)
set_option maxRecDepth 65536 in
theorem w_c3 : (Jvm.Cond.code ({ cls := "com/example/mave/mave/lang/Type", name := "convert", desc := "(D)D" } : Jvm.MethodName) prog_169_method_9_code (5 : Nat) (Option.some Jvm.ClassFile.FieldType.double)).before args0 about1 = true := code_word (m := ⟨6, 1⟩) (meth := k6m1) (c := k6c1) (by decide +kernel) rfl rfl rfl (by decide +kernel)
set_option maxRecDepth 65536 in
theorem w_c4 : (Jvm.Cond.code ({ cls := "java/lang/Enum", name := "ordinal", desc := "()I" } : Jvm.MethodName) jdk_37_method_2_code (1 : Nat) (Option.some Jvm.ClassFile.FieldType.int)).before args0 about1 = true := code_word (m := ⟨5, 0⟩) (meth := k5m0) (c := k5c0) (by decide +kernel) rfl rfl rfl (by decide +kernel)
def codes1 : List Jvm.Cond := [Jvm.Cond.code x code maxLocals ret, Jvm.Cond.code ({ cls := "com/example/mave/mave/lang/TypeIsIntegralPinLaw", name := "pick", desc := "(I)Lcom/example/mave/mave/lang/Type;" } : Jvm.MethodName) method_2_code (1 : Nat) (Option.some (Jvm.ClassFile.FieldType.object "com/example/mave/mave/lang/Type")), Jvm.Cond.code ({ cls := "com/example/mave/mave/lang/Type", name := "isIntegral", desc := "()Z" } : Jvm.MethodName) prog_169_method_6_code (1 : Nat) (Option.some Jvm.ClassFile.FieldType.boolean), Jvm.Cond.code ({ cls := "com/example/mave/mave/lang/Type", name := "convert", desc := "(D)D" } : Jvm.MethodName) prog_169_method_9_code (5 : Nat) (Option.some Jvm.ClassFile.FieldType.double), Jvm.Cond.code ({ cls := "java/lang/Enum", name := "ordinal", desc := "()I" } : Jvm.MethodName) jdk_37_method_2_code (1 : Nat) (Option.some Jvm.ClassFile.FieldType.int)]
set_option maxRecDepth 65536 in
theorem codes_eq : words1.filter isCode = codes1 := rfl
theorem w_codes : ∀ c ∈ words1.filter isCode, c.before args0 about1 = true := by
  rw [codes_eq]
  intro c hc
  simp only [codes1, List.mem_cons, List.not_mem_nil, or_false] at hc
  rcases hc with rfl | rfl | rfl | rfl | rfl
  · exact w_c0
  · exact w_c1
  · exact w_c2
  · exact w_c3
  · exact w_c4
set_option maxRecDepth 65536 in
theorem w_t1 : (words1.take 24).all (fun c => isCode c || c.before args0 about1) = true := by decide +kernel
set_option maxRecDepth 65536 in
theorem w_t2 : (words1.drop 24).all (fun c => isCode c || c.before args0 about1) = true := by decide +kernel
theorem w_tables : (allAtoms (Jvm.Cond.code x code maxLocals ret :: tables_1)).before args0 about1 = true := by
  rw [allAtoms_all]
  show words1.all (fun c => c.before args0 about1) = true
  refine all_split ?_ w_codes
  rw [← List.take_append_drop 24 words1, List.all_append, w_t1, w_t2]
  rfl
set_option maxRecDepth 65536 in
theorem w_case : (Jvm.Cond.and given_1 narrow_1).before args0 about1 = true := by decide +kernel
theorem w_applies : (headSpec (Jvm.Cond.code x code maxLocals ret :: tables_1) room_1).applies x e0.platform about1 = true :=
  (Spec.applies_iff w_frames).mpr ⟨w_running, w_runnable, w_alone, w_named, w_hears, w_ripe, w_room, w_tables⟩
theorem atStart : AtStart classFile x code maxLocals ret World_1 tables_1 room_1 Calls_1 rest_1 Pre_1 launch0 p0 e0 about1 theMethod args0 below0 :=
  ⟨lists_1, trivial, launch0.admits_env _ _ _, launch0.least_env, fairChoices_fair.cas, fairChoices_fair.clock, w_frames, w_args, w_heap, w_applies, trivial, trivial, w_case⟩
end start1
theorem witness_1 : WitnessClaimed_1 := ⟨start1.p0, start1.e0, start1.about1, start1.theMethod, start1.args0, start1.below0, start1.atStart⟩
end Jvm.Pilot.@@N@@
