import JvmDerived
import JvmDerived.Pilot.@@N@@Statement
import JvmDerived.Pilot.@@N@@Code
set_option linter.unusedVariables false
set_option linter.unusedSimpArgs false
namespace Jvm.Pilot.@@N@@
open Jvm Jvm.ClassFile Sem Op Lib Jvm.Free Jvm.Stand Jvm.LawKit Jvm.RoadKit Bundle Jvm.Pilot.@@N@@.Jvm.D
/-- the run from F ends, with an outcome and a state that Φ takes -/
def own_Goes (p : Program) (e : Env) (below : List Frame) (Φ : Outcome → State → Prop) (F : State) : Prop :=
  ∃ s₂ o, Steps p.tables e below F s₂ ∧ s₂.status = .running ∧ Ended s₂ below o ∧ Φ o s₂
theorem own_go {p : Program} {e : Env} {below : List Frame} {Φ : Outcome → State → Prop} {F G : State}
    (k : ∀ t, Steps p.tables e below G t → Steps p.tables e below F t) (h : own_Goes p e below Φ G) : own_Goes p e below Φ F := by
  obtain ⟨s₂, o, h1, h2⟩ := h
  exact ⟨s₂, o, k _ h1, h2⟩
/-- what a contract says of the end -/
def own_End (s : State) (Q : Option Value → Heap → List Loc → Prop) (k n : Nat) (o : Outcome) (U' : State) : Prop :=
  ∃ v L, o = .returned v ∧ Q v U'.heap L ∧ FrameEnd s o U' L k n
/-- a value is returned, the heap is as it was -/
def own_Same (w : Value) (h0 : Heap) (n0 : Nat) (v : Option Value) (h : Heap) (L : List Loc) : Prop := v = some w ∧ Fr n0 L ∧ h = h0
/-- nothing is returned, the heap is as it was -/
def own_SameV (h0 : Heap) (n0 : Nat) (v : Option Value) (h : Heap) (L : List Loc) : Prop := v = none ∧ Fr n0 L ∧ h = h0
section Own
variable {p : Program} {l : Launch} {e : Env} {R : Room} {s : State} {m : MethodId} {args : Array Value} {below : List Frame} {meth : Method} {c : Code} {T : State} {locs : List Loc} {cells slots : Nat}
theorem own_ret (X : Stand p l e R s m args below meth c T locs cells slots) (hx : p.tables.exec = Jvm.exec) {pc : Nat} {Ls : Array Slot} {w : Value} {t : FieldType} {i : Instr} {rest : List Value} (hret : meth.sig.returnType = some t) (hn : narrow t w = w)
    (hi : (i = .ireturn ∧ (t = .int ∨ t = .boolean ∨ t = .byte ∨ t = .char ∨ t = .short) ∧ ∃ z, w = .int z) ∨ (i = .lreturn ∧ t = .long ∧ ∃ z, w = .long z) ∨ (i = .dreturn ∧ t = .double ∧ ∃ z, w = .double z) ∨ (i = .freturn ∧ t = .float ∧ ∃ z, w = .float z) ∨ (i = .areturn ∧ t.isReference = true ∧ w.isRef = true))
    (hd : decode c.code pc = .ok (i, 1)) (hlk : meth.locks = false) {Q : Option Value → Heap → List Loc → Prop} {k n : Nat} (h1 : cells ≤ k) (h2 : slots ≤ n) (hQ : Q (some w) T.heap locs) :
    own_Goes p e below (own_End s Q k n) (T.setTop (mkF m pc Ls (w :: rest))) := by
  obtain ⟨fs, hr, hrun, hended, hW, hsame⟩ := X.leave (v := some w) (fun h => by rw [hret] at h; cases h) hlk
  exact ⟨_, _, retOut X hx hret hn hi hd hr, hrun, hended, _, _, rfl, hQ, ⟨_, rfl⟩, hW, hsame.mono h1 h2⟩
theorem own_retI (X : Stand p l e R s m args below meth c T locs cells slots) (hx : p.tables.exec = Jvm.exec) {pc : Nat} {Ls : Array Slot} {z : Int32} {rest : List Value} (hret : meth.sig.returnType = some .int)
    (hd : decode c.code pc = .ok (.ireturn, 1)) (hlk : meth.locks = false) {Q : Option Value → Heap → List Loc → Prop} {k n : Nat} (h1 : cells ≤ k) (h2 : slots ≤ n) (hQ : Q (some (.int z)) T.heap locs) :
    own_Goes p e below (own_End s Q k n) (T.setTop (mkF m pc Ls (.int z :: rest))) := own_ret X hx hret rfl (Or.inl ⟨rfl, Or.inl rfl, z, rfl⟩) hd hlk h1 h2 hQ
theorem own_retJ (X : Stand p l e R s m args below meth c T locs cells slots) (hx : p.tables.exec = Jvm.exec) {pc : Nat} {Ls : Array Slot} {z : Int64} {rest : List Value} (hret : meth.sig.returnType = some .long)
    (hd : decode c.code pc = .ok (.lreturn, 1)) (hlk : meth.locks = false) {Q : Option Value → Heap → List Loc → Prop} {k n : Nat} (h1 : cells ≤ k) (h2 : slots ≤ n) (hQ : Q (some (.long z)) T.heap locs) :
    own_Goes p e below (own_End s Q k n) (T.setTop (mkF m pc Ls (.long z :: rest))) := own_ret X hx hret rfl (Or.inr (Or.inl ⟨rfl, rfl, z, rfl⟩)) hd hlk h1 h2 hQ
theorem own_retB (X : Stand p l e R s m args below meth c T locs cells slots) (hx : p.tables.exec = Jvm.exec) {pc : Nat} {Ls : Array Slot} {z : Int32} {rest : List Value} (hret : meth.sig.returnType = some .boolean) (hz : z = 0 ∨ z = 1)
    (hd : decode c.code pc = .ok (.ireturn, 1)) (hlk : meth.locks = false) {Q : Option Value → Heap → List Loc → Prop} {k n : Nat} (h1 : cells ≤ k) (h2 : slots ≤ n) (hQ : Q (some (.int z)) T.heap locs) :
    own_Goes p e below (own_End s Q k n) (T.setTop (mkF m pc Ls (.int z :: rest))) := own_ret X hx hret (by rcases hz with rfl | rfl <;> rfl) (Or.inl ⟨rfl, Or.inr (Or.inl rfl), z, rfl⟩) hd hlk h1 h2 hQ
theorem own_ret1 (X : Stand p l e R s m args below meth c T locs cells slots) (hx : p.tables.exec = Jvm.exec) {pc : Nat} {Ls : Array Slot} {rest : List Value} (hret : meth.sig.returnType = some .boolean)
    (hd : decode c.code pc = .ok (.ireturn, 1)) (hlk : meth.locks = false) {Q : Option Value → Heap → List Loc → Prop} {k n : Nat} (h1 : cells ≤ k) (h2 : slots ≤ n) (hQ : Q (some (.int 1)) T.heap locs) :
    own_Goes p e below (own_End s Q k n) (T.setTop (mkF m pc Ls (.int 1 :: rest))) := own_retB X hx hret (Or.inr rfl) hd hlk h1 h2 hQ
theorem own_ret0 (X : Stand p l e R s m args below meth c T locs cells slots) (hx : p.tables.exec = Jvm.exec) {pc : Nat} {Ls : Array Slot} {rest : List Value} (hret : meth.sig.returnType = some .boolean)
    (hd : decode c.code pc = .ok (.ireturn, 1)) (hlk : meth.locks = false) {Q : Option Value → Heap → List Loc → Prop} {k n : Nat} (h1 : cells ≤ k) (h2 : slots ≤ n) (hQ : Q (some (.int 0)) T.heap locs) :
    own_Goes p e below (own_End s Q k n) (T.setTop (mkF m pc Ls (.int 0 :: rest))) := own_retB X hx hret (Or.inl rfl) hd hlk h1 h2 hQ
theorem own_retN (X : Stand p l e R s m args below meth c T locs cells slots) (hx : p.tables.exec = Jvm.exec) {pc : Nat} {Ls : Array Slot} {z : Int32} {t : FieldType} {rest : List Value} (hret : meth.sig.returnType = some t) (ht : t = .boolean ∨ t = .byte ∨ t = .char ∨ t = .short)
    (hd : decode c.code pc = .ok (.ireturn, 1)) (hlk : meth.locks = false) {Q : Option Value → Heap → List Loc → Prop} {k n : Nat} (h1 : cells ≤ k) (h2 : slots ≤ n) (hQ : Q (some (.int (nar t z))) T.heap locs) :
    own_Goes p e below (own_End s Q k n) (T.setTop (mkF m pc Ls (.int z :: rest))) := by
  obtain ⟨fs, hr, hrun, hended, hW, hsame⟩ := X.leave (v := some (.int (nar t z))) (fun h => by rw [hret] at h; cases h) hlk
  exact ⟨_, _, retN X hx hret ht hd hr, hrun, hended, _, _, rfl, hQ, ⟨_, rfl⟩, hW, hsame.mono h1 h2⟩
theorem own_retA (X : Stand p l e R s m args below meth c T locs cells slots) (hx : p.tables.exec = Jvm.exec) {pc : Nat} {Ls : Array Slot} {w : Value} {t : FieldType} {rest : List Value} (hret : meth.sig.returnType = some t) (ht : t.isReference = true) (hw : w.isRef = true)
    (hd : decode c.code pc = .ok (.areturn, 1)) (hlk : meth.locks = false) {Q : Option Value → Heap → List Loc → Prop} {k n : Nat} (h1 : cells ≤ k) (h2 : slots ≤ n) (hQ : Q (some w) T.heap locs) :
    own_Goes p e below (own_End s Q k n) (T.setTop (mkF m pc Ls (w :: rest))) := own_ret X hx hret (by cases t <;> first | rfl | cases ht) (Or.inr (Or.inr (Or.inr (Or.inr ⟨rfl, ht, hw⟩)))) hd hlk h1 h2 hQ
theorem own_retV (X : Stand p l e R s m args below meth c T locs cells slots) (hx : p.tables.exec = Jvm.exec) {pc : Nat} {Ls : Array Slot} (hret : meth.sig.returnType = none)
    (hd : decode c.code pc = .ok (.return_, 1)) (hlk : meth.locks = false) {Q : Option Value → Heap → List Loc → Prop} {k n : Nat} (h1 : cells ≤ k) (h2 : slots ≤ n) (hQ : Q none T.heap locs) :
    own_Goes p e below (own_End s Q k n) (T.setTop (mkF m pc Ls [])) := by
  obtain ⟨fs, hr, hrun, hended, hW, hsame⟩ := X.leave (v := none) (fun _ => rfl) hlk
  exact ⟨_, _, X.returnOut hx hret hd hr, hrun, hended, _, _, rfl, hQ, ⟨_, rfl⟩, hW, hsame.mono h1 h2⟩
end Own
/-- the law says true; nothing old is written -/
def own_True (n0 : Nat) (v : Option Value) (h : Heap) (L : List Loc) : Prop := v = some (.int 1) ∧ Fr n0 L
theorem own_i (x y : Int32) : (x = y ↔ x.toInt = y.toInt) ∧ (x < y ↔ x.toInt < y.toInt) ∧ (x ≤ y ↔ x.toInt ≤ y.toInt) := ⟨Int32.toInt_inj.symm, Int32.lt_iff_toInt_lt, Int32.le_iff_toInt_le⟩
theorem own_ie (x y : Int32) : x = y ↔ x.toInt = y.toInt := Int32.toInt_inj.symm
theorem own_le (x y : Int64) : x = y ↔ x.toInt = y.toInt := Int64.toInt_inj.symm
/-- an array of which the kind and the length alone are told -/
def own_A (Z : State) (h : Heap) (a : Addr) (ty : FieldType) (n : Int32) : Prop := ∃ c : Cell, Arr Z h a c ty ∧ c.slots.size = n.toNatClampNeg ∧ ¬ n < 0
section OwnA
variable {Z : State} {h h' : Heap} {a b : Addr} {ty : FieldType} {n : Int32} {sl : Nat} {v : Value} {ws : List Addr}
theorem own_A.lt (F : own_A Z h a ty n) : a < h.size := by obtain ⟨c, A, -⟩ := F; exact A.lt
theorem own_A.ext (F : own_A Z h a ty n) (E : Ext h h') : own_A Z h' a ty n := by obtain ⟨c, A, r⟩ := F; exact ⟨c, A.ext E, r⟩
theorem own_A.other (F : own_A Z h b ty n) (W : Wr h h' a sl v) (q : b ≠ a) : own_A Z h' b ty n := by obtain ⟨c, A, r⟩ := F; exact ⟨c, A.other W q, r⟩
theorem own_A.same (F : own_A Z h a ty n) (W : Wr h h' a sl v) : own_A Z h' a ty n := by
  obtain ⟨c, A, r1, r2⟩ := F
  exact ⟨_, A.same W, by rw [← r1]; simp [Cell.setSlot], r2⟩
theorem own_A.keep (F : own_A Z h a ty n) (K : Keep h h' ws) (q : a ∉ ws) : own_A Z h' a ty n := by obtain ⟨c, A, r⟩ := F; exact ⟨c, ⟨K.2.1 a c A.1 q, A.2⟩, r⟩
theorem own_A.of {k : ClassId} {vs : List Value} {d : Value} (F : Arv Z h a k ty n vs d) : own_A Z h a ty n := by obtain ⟨c, A, -, r1, r2, -⟩ := F; exact ⟨c, A, r1, r2⟩
end OwnA
theorem own_staKeep {Z : State} {h h' : Heap} {C n d : String} {v : Value} (F : Sta Z h C n d v) (K : Keep h h' []) : Sta Z h' C n d v := by
  obtain ⟨cf, i, k, f, st, cell, h1, h2, h3, h4, h5, r⟩ := F
  exact ⟨cf, i, k, f, st, cell, h1, h2, h3, h4, K.2.1 _ _ h5 nin0, r⟩
def own_C (Z : State) (h : Heap) (n0 : Nat) (g : Addr) (md rp t0 t1 t2 u0 u1 u2 : Int32) : Prop := n0 ≤ g ∧ Exa Z h g "com/example/mave/mave/engine/Choices" ∧ Fld Z h g "com/example/mave/mave/engine/Choices" "made" "I" (.int md) ∧ Fld Z h g "com/example/mave/mave/engine/Choices" "replayed" "I" (.int rp) ∧ ∃ (b1 b2 : Addr) (k1 k2 : ClassId), n0 ≤ b1 ∧ n0 ≤ b2 ∧ g ≠ b1 ∧ g ≠ b2 ∧ b1 ≠ b2 ∧ Fld Z h g "com/example/mave/mave/engine/Choices" "taken" "[I" (.ref b1) ∧ Fld Z h g "com/example/mave/mave/engine/Choices" "alternatives" "[I" (.ref b2) ∧ Arv Z h b1 k1 .int (8 : Int32) [(.int t0), (.int t1), (.int t2), (.int (0 : Int32)), (.int (0 : Int32)), (.int (0 : Int32)), (.int (0 : Int32)), (.int (0 : Int32))] (.int (0 : Int32)) ∧ Arv Z h b2 k2 .int (8 : Int32) [(.int u0), (.int u1), (.int u2), (.int (0 : Int32)), (.int (0 : Int32)), (.int (0 : Int32)), (.int (0 : Int32)), (.int (0 : Int32))] (.int (0 : Int32))
def own_QC (Z : State) (g : Addr) (md rp t0 t1 t2 u0 u1 u2 : Int32) (w : Option Value) (n0 : Nat) (v : Option Value) (h : Heap) (L : List Loc) : Prop := v = w ∧ Fr n0 L ∧ n0 ≤ h.size ∧ own_C Z h n0 g md rp t0 t1 t2 u0 u1 u2
def own_R (b0 b1 b2 c1 c2 t : Int32) : Int32 := if b0 = (t / (c1 * c2)) then (if b1 = ((t / c2) % c1) then (if b2 = (t % c2) then (1 : Int32) else (0 : Int32)) else (0 : Int32)) else (0 : Int32)
def own_QN (Z : State) (g : Addr) (t0 t1 t2 u0 u1 u2 : Int32) (n0 : Nat) (v : Option Value) (h : Heap) (L : List Loc) : Prop := ∃ w : Int32, v = some (.int w) ∧ Fr n0 L ∧ n0 ≤ h.size ∧ ((w = (1 : Int32) ∧ ¬ ((t2 + (1 : Int32)) = u2) ∧ own_C Z h n0 g (0 : Int32) (3 : Int32) t0 t1 (t2 + (1 : Int32)) u0 u1 u2) ∨ (w = (1 : Int32) ∧ (t2 + (1 : Int32)) = u2 ∧ ¬ ((t1 + (1 : Int32)) = u1) ∧ own_C Z h n0 g (0 : Int32) (2 : Int32) t0 (t1 + (1 : Int32)) t2 u0 u1 u2) ∨ (w = (1 : Int32) ∧ (t2 + (1 : Int32)) = u2 ∧ (t1 + (1 : Int32)) = u1 ∧ ¬ ((t0 + (1 : Int32)) = u0) ∧ own_C Z h n0 g (0 : Int32) (1 : Int32) (t0 + (1 : Int32)) t1 t2 u0 u1 u2) ∨ (w = (0 : Int32) ∧ (t2 + (1 : Int32)) = u2 ∧ (t1 + (1 : Int32)) = u1 ∧ (t0 + (1 : Int32)) = u0))
theorem d1_0 : decode prog_8_method_1_code 0 = .ok (.aload_n 0, 1) := by decide +kernel
theorem d1_1 : decode prog_8_method_1_code 1 = .ok (.invokespecial 1, 3) := by decide +kernel
theorem d1_4 : decode prog_8_method_1_code 4 = .ok (.aload_n 0, 1) := by decide +kernel
theorem d1_5 : decode prog_8_method_1_code 5 = .ok (.bipush 8, 2) := by decide +kernel
theorem d1_7 : decode prog_8_method_1_code 7 = .ok (.newarray .int, 2) := by decide +kernel
theorem d1_9 : decode prog_8_method_1_code 9 = .ok (.putfield 7, 3) := by decide +kernel
theorem d1_12 : decode prog_8_method_1_code 12 = .ok (.aload_n 0, 1) := by decide +kernel
theorem d1_13 : decode prog_8_method_1_code 13 = .ok (.bipush 8, 2) := by decide +kernel
theorem d1_15 : decode prog_8_method_1_code 15 = .ok (.newarray .int, 2) := by decide +kernel
theorem d1_17 : decode prog_8_method_1_code 17 = .ok (.putfield 13, 3) := by decide +kernel
theorem d1_20 : decode prog_8_method_1_code 20 = .ok (.return_, 1) := by decide +kernel
theorem pn1 : plainName "com/example/mave/mave/engine/Choices" = true := by first | (simp [plainName, overriddenIn]; done) | decide +kernel
theorem ef_rm1 (m : MethodId) (r0 : Addr) : entryFrame m #[(.ref r0)] 1 = mkF m 0 #[.val (.ref r0)] [] := by first | (simp [entryFrame, mkF, argsToLocals, Value.category]; done) | rfl
set_option maxRecDepth 65536 in
set_option maxHeartbeats 40000000 in
theorem rm1 (l : Launch) (Z : State) (a0 : Array Value) (hw : ∀ d ∈ tables_1, d.before a0 Z = true) (ws : List Jvm.Cond) (r0 : Addr) (h0 : Heap) (n0 : Nat) (Z0 : n0 ≤ h0.size) (F_made_r0 : Fld Z h0 r0 "com/example/mave/mave/engine/Choices" "made" "I" (.int (0 : Int32))) (F_replayed_r0 : Fld Z h0 r0 "com/example/mave/mave/engine/Choices" "replayed" "I" (.int (0 : Int32))) (F_taken_r0 : Fld Z h0 r0 "com/example/mave/mave/engine/Choices" "taken" "[I" .null) (F_alternatives_r0 : Fld Z h0 r0 "com/example/mave/mave/engine/Choices" "alternatives" "[I" .null) (E_r0 : Exa Z h0 r0 "com/example/mave/mave/engine/Choices") (gn_r0 : n0 ≤ r0) :
    MetFree l (⟨"com/example/mave/mave/engine/Choices", "<init>", "()V"⟩ : MethodName) (head1 (Jvm.Cond.code (⟨"com/example/mave/mave/engine/Choices", "<init>", "()V"⟩ : MethodName) prog_8_method_1_code 1 none :: ws) ({ frames := 1, cells := 2, slots := 16, locals := 12 } : Room)) (fun a U => a = #[(.ref r0)] ∧ Z.Warmed39 U.vm ∧ U.heap = h0) (fun _ _ _ _ _ => True) (fun _ U o U' => ∃ v L, o = .returned v ∧ (own_QC Z r0 (0 : Int32) (0 : Int32) (0 : Int32) (0 : Int32) (0 : Int32) (0 : Int32) (0 : Int32) (0 : Int32) none n0) v U'.heap L ∧ FrameEnd U o U' L 2 16) := by
  refine MetFree.of_bodySF (plainFor_of_name pn1) hisR ?_
  intro p e s m args below meth c s₁ Bd hml0 hP hK
  obtain ⟨rfl, hZ, hh⟩ := hP
  have hx := Bd.exec
  have hby := Bd.bytes
  have hml : c.maxLocals = 1 := hml0
  have hown : s.vm.findClass "com/example/mave/mave/engine/Choices" = some m.cls := findClass_of_methodNamed Bd.named
  have hnm := (name_of_methodNamed Bd.named Bd.method).1
  have X0 : Stand p l e ({ frames := 1, cells := 2, slots := 16, locals := 12 } : Room) s m #[(.ref r0)] below meth c s₁ [] 0 0 := Stand.of_body Bd
  have e0 : s₁.heap = h0 := by rw [← hh, Bd.state]; rfl
  have N0 := Fr.nil n0
  show own_Goes p e below (own_End s (own_QC Z r0 (0 : Int32) (0 : Int32) (0 : Int32) (0 : Int32) (0 : Int32) (0 : Int32) (0 : Int32) (0 : Int32) none n0) 2 16) _
  refine own_go (G := s₁.setTop (mkF m 0 #[.val (.ref r0)] [])) (fun t k => castTop (ef_rm1 m r0) k) ?_
  refine own_go (G := s₁.setTop (mkF m 1 #[.val (.ref r0)] [(.ref r0)])) (fun _ k => XS.aloadN X0.here hx rfl (hb hby d1_0) rfl rfl k) ?_
  obtain ⟨T1, X1, e1, st1⟩ := initO X0 hx hZ hown (hw _ (List.mem_of_getElem? (i := 7) rfl)) (hw _ (List.mem_of_getElem? (i := 8) rfl)) (hw _ (List.mem_of_getElem? (i := 9) rfl)) e0 (g := (mkF m 1 #[.val (.ref r0)] [(.ref r0)])) rfl (by rw [hml]; rfl) rfl (hb hby d1_1) (by decide) (W := 0) (by show 2 * 0 + _ ≤ _; exact Nat.le_of_eq rfl) (by decide)
  refine own_go (G := T1.setTop (mkF m 4 #[.val (.ref r0)] [])) (st1) ?_
  refine own_go (G := T1.setTop (mkF m 5 #[.val (.ref r0)] [(.ref r0)])) (fun _ k => XS.aloadN X1.here hx rfl (hb hby d1_4) rfl rfl k) ?_
  refine own_go (G := T1.setTop (mkF m 7 #[.val (.ref r0)] [(.int (8 : Int32)), (.ref r0)])) (fun _ k => XS.bipush X1.here hx rfl (hb hby d1_5) k) ?_
  obtain ⟨T2, h2, k2, X2, e2, E2, A2, st2⟩ := newP X1 hx hZ (hw _ (List.mem_of_getElem? (i := 10) rfl)) e1 (g := (mkF m 7 #[.val (.ref r0)] [(.int (8 : Int32)), (.ref r0)])) rfl (hb hby d1_7) rfl (by decide) (cap := 8) (by decide) (by decide) (by decide) (by decide)
  obtain ⟨b2, g2⟩ : ∃ z, z = h0.size := ⟨_, rfl⟩
  rw [← g2] at A2 st2
  have gn_b2 : n0 ≤ b2 := Nat.le_trans Z0 (Nat.le_of_eq g2.symm)
  have ne_r0_b2 : r0 ≠ b2 := Nat.ne_of_lt (Nat.lt_of_lt_of_le F_made_r0.lt (Nat.le_of_eq g2.symm))
  have F_made_r0_c2 : Fld Z h2 r0 "com/example/mave/mave/engine/Choices" "made" "I" (.int (0 : Int32)) := F_made_r0.ext E2
  have F_replayed_r0_c2 : Fld Z h2 r0 "com/example/mave/mave/engine/Choices" "replayed" "I" (.int (0 : Int32)) := F_replayed_r0.ext E2
  have F_taken_r0_c2 : Fld Z h2 r0 "com/example/mave/mave/engine/Choices" "taken" "[I" .null := F_taken_r0.ext E2
  have F_alternatives_r0_c2 : Fld Z h2 r0 "com/example/mave/mave/engine/Choices" "alternatives" "[I" .null := F_alternatives_r0.ext E2
  have E_r0_c2 : Exa Z h2 r0 "com/example/mave/mave/engine/Choices" := E_r0.ext E2
  have Z2 : n0 ≤ h2.size := Nat.le_trans Z0 E2.1
  have V_b2 : Arv Z h2 b2 k2 .int (8 : Int32) [(.int (0 : Int32)), (.int (0 : Int32)), (.int (0 : Int32)), (.int (0 : Int32)), (.int (0 : Int32)), (.int (0 : Int32)), (.int (0 : Int32)), (.int (0 : Int32))] (.int (0 : Int32)) := (Arv.new A2 (by decide)).pad (pad_rep [] (.int (0 : Int32)) 8)
  refine own_go (G := T2.setTop (mkF m 9 #[.val (.ref r0)] [(.ref b2), (.ref r0)])) (st2) ?_
  obtain ⟨T3, h3, X3, e3, W3, st3⟩ := putF X2 hx hZ hown (host := "") (Or.inl (hw _ (List.mem_of_getElem? (i := 11) rfl))) Via.refl e2 F_taken_r0_c2 E_r0_c2 (Or.inl (hw _ (List.mem_of_getElem? (i := 12) rfl))) (hw _ (List.mem_of_getElem? (i := 2) rfl)) (ty := (.array .int)) (by decide) rfl rfl (g := (mkF m 9 #[.val (.ref r0)] [(.ref b2), (.ref r0)])) rfl rfl (hb hby d1_9)
  have F_made_r0_c3 : Fld Z h3 r0 "com/example/mave/mave/engine/Choices" "made" "I" (.int (0 : Int32)) := F_made_r0_c2.other W3 (Or.inr (slot_ne (Or.inl (hw _ (List.mem_of_getElem? (i := 25) rfl))) (Or.inl (hw _ (List.mem_of_getElem? (i := 12) rfl))) (by decide) (t := .int) (t' := (.array .int)) (by decide) (by decide)))
  have F_replayed_r0_c3 : Fld Z h3 r0 "com/example/mave/mave/engine/Choices" "replayed" "I" (.int (0 : Int32)) := F_replayed_r0_c2.other W3 (Or.inr (slot_ne (Or.inl (hw _ (List.mem_of_getElem? (i := 27) rfl))) (Or.inl (hw _ (List.mem_of_getElem? (i := 12) rfl))) (by decide) (t := .int) (t' := (.array .int)) (by decide) (by decide)))
  have F_alternatives_r0_c3 : Fld Z h3 r0 "com/example/mave/mave/engine/Choices" "alternatives" "[I" .null := F_alternatives_r0_c2.other W3 (Or.inr (slot_ne (Or.inl (hw _ (List.mem_of_getElem? (i := 14) rfl))) (Or.inl (hw _ (List.mem_of_getElem? (i := 12) rfl))) (by decide) (t := (.array .int)) (t' := (.array .int)) (by decide) (by decide)))
  have E_r0_c3 : Exa Z h3 r0 "com/example/mave/mave/engine/Choices" := E_r0_c2.wr W3
  have V_b2_c3 : Arv Z h3 b2 k2 .int (8 : Int32) [(.int (0 : Int32)), (.int (0 : Int32)), (.int (0 : Int32)), (.int (0 : Int32)), (.int (0 : Int32)), (.int (0 : Int32)), (.int (0 : Int32)), (.int (0 : Int32))] (.int (0 : Int32)) := V_b2.other W3 (Ne.symm ne_r0_b2)
  have Fw3_taken : Fld Z h3 r0 "com/example/mave/mave/engine/Choices" "taken" "[I" (.ref b2) := F_taken_r0_c2.same W3
  have N3 := Fr.snoc X3 N0 gn_r0
  have Z3 : n0 ≤ h3.size := Nat.le_trans Z2 (Keep.of_wr W3).1
  refine own_go (G := T3.setTop (mkF m 12 #[.val (.ref r0)] [])) (st3) ?_
  refine own_go (G := T3.setTop (mkF m 13 #[.val (.ref r0)] [(.ref r0)])) (fun _ k => XS.aloadN X3.here hx rfl (hb hby d1_12) rfl rfl k) ?_
  refine own_go (G := T3.setTop (mkF m 15 #[.val (.ref r0)] [(.int (8 : Int32)), (.ref r0)])) (fun _ k => XS.bipush X3.here hx rfl (hb hby d1_13) k) ?_
  obtain ⟨T4, h4, k4, X4, e4, E4, A4, st4⟩ := newP X3 hx hZ (hw _ (List.mem_of_getElem? (i := 10) rfl)) e3 (g := (mkF m 15 #[.val (.ref r0)] [(.int (8 : Int32)), (.ref r0)])) rfl (hb hby d1_15) rfl (by decide) (cap := 8) (by decide) (by decide) (by decide) (by decide)
  obtain ⟨b4, g4⟩ : ∃ z, z = h3.size := ⟨_, rfl⟩
  rw [← g4] at A4 st4
  have gn_b4 : n0 ≤ b4 := Nat.le_trans Z3 (Nat.le_of_eq g4.symm)
  have ne_r0_b4 : r0 ≠ b4 := Nat.ne_of_lt (Nat.lt_of_lt_of_le F_made_r0_c3.lt (Nat.le_of_eq g4.symm))
  have ne_b2_b4 : b2 ≠ b4 := Nat.ne_of_lt (Nat.lt_of_lt_of_le V_b2_c3.lt (Nat.le_of_eq g4.symm))
  have F_made_r0_c4 : Fld Z h4 r0 "com/example/mave/mave/engine/Choices" "made" "I" (.int (0 : Int32)) := F_made_r0_c3.ext E4
  have F_replayed_r0_c4 : Fld Z h4 r0 "com/example/mave/mave/engine/Choices" "replayed" "I" (.int (0 : Int32)) := F_replayed_r0_c3.ext E4
  have Fw3_taken_c4 : Fld Z h4 r0 "com/example/mave/mave/engine/Choices" "taken" "[I" (.ref b2) := Fw3_taken.ext E4
  have F_alternatives_r0_c4 : Fld Z h4 r0 "com/example/mave/mave/engine/Choices" "alternatives" "[I" .null := F_alternatives_r0_c3.ext E4
  have E_r0_c4 : Exa Z h4 r0 "com/example/mave/mave/engine/Choices" := E_r0_c3.ext E4
  have V_b2_c4 : Arv Z h4 b2 k2 .int (8 : Int32) [(.int (0 : Int32)), (.int (0 : Int32)), (.int (0 : Int32)), (.int (0 : Int32)), (.int (0 : Int32)), (.int (0 : Int32)), (.int (0 : Int32)), (.int (0 : Int32))] (.int (0 : Int32)) := V_b2_c3.ext E4
  have Z4 : n0 ≤ h4.size := Nat.le_trans Z3 E4.1
  have V_b4 : Arv Z h4 b4 k4 .int (8 : Int32) [(.int (0 : Int32)), (.int (0 : Int32)), (.int (0 : Int32)), (.int (0 : Int32)), (.int (0 : Int32)), (.int (0 : Int32)), (.int (0 : Int32)), (.int (0 : Int32))] (.int (0 : Int32)) := (Arv.new A4 (by decide)).pad (pad_rep [] (.int (0 : Int32)) 8)
  refine own_go (G := T4.setTop (mkF m 17 #[.val (.ref r0)] [(.ref b4), (.ref r0)])) (st4) ?_
  obtain ⟨T5, h5, X5, e5, W5, st5⟩ := putF X4 hx hZ hown (host := "") (Or.inl (hw _ (List.mem_of_getElem? (i := 13) rfl))) Via.refl e4 F_alternatives_r0_c4 E_r0_c4 (Or.inl (hw _ (List.mem_of_getElem? (i := 14) rfl))) (hw _ (List.mem_of_getElem? (i := 2) rfl)) (ty := (.array .int)) (by decide) rfl rfl (g := (mkF m 17 #[.val (.ref r0)] [(.ref b4), (.ref r0)])) rfl rfl (hb hby d1_17)
  have F_made_r0_c5 : Fld Z h5 r0 "com/example/mave/mave/engine/Choices" "made" "I" (.int (0 : Int32)) := F_made_r0_c4.other W5 (Or.inr (slot_ne (Or.inl (hw _ (List.mem_of_getElem? (i := 25) rfl))) (Or.inl (hw _ (List.mem_of_getElem? (i := 14) rfl))) (by decide) (t := .int) (t' := (.array .int)) (by decide) (by decide)))
  have F_replayed_r0_c5 : Fld Z h5 r0 "com/example/mave/mave/engine/Choices" "replayed" "I" (.int (0 : Int32)) := F_replayed_r0_c4.other W5 (Or.inr (slot_ne (Or.inl (hw _ (List.mem_of_getElem? (i := 27) rfl))) (Or.inl (hw _ (List.mem_of_getElem? (i := 14) rfl))) (by decide) (t := .int) (t' := (.array .int)) (by decide) (by decide)))
  have Fw3_taken_c5 : Fld Z h5 r0 "com/example/mave/mave/engine/Choices" "taken" "[I" (.ref b2) := Fw3_taken_c4.other W5 (Or.inr (slot_ne (Or.inl (hw _ (List.mem_of_getElem? (i := 12) rfl))) (Or.inl (hw _ (List.mem_of_getElem? (i := 14) rfl))) (by decide) (t := (.array .int)) (t' := (.array .int)) (by decide) (by decide)))
  have E_r0_c5 : Exa Z h5 r0 "com/example/mave/mave/engine/Choices" := E_r0_c4.wr W5
  have V_b2_c5 : Arv Z h5 b2 k2 .int (8 : Int32) [(.int (0 : Int32)), (.int (0 : Int32)), (.int (0 : Int32)), (.int (0 : Int32)), (.int (0 : Int32)), (.int (0 : Int32)), (.int (0 : Int32)), (.int (0 : Int32))] (.int (0 : Int32)) := V_b2_c4.other W5 (Ne.symm ne_r0_b2)
  have V_b4_c5 : Arv Z h5 b4 k4 .int (8 : Int32) [(.int (0 : Int32)), (.int (0 : Int32)), (.int (0 : Int32)), (.int (0 : Int32)), (.int (0 : Int32)), (.int (0 : Int32)), (.int (0 : Int32)), (.int (0 : Int32))] (.int (0 : Int32)) := V_b4.other W5 (Ne.symm ne_r0_b4)
  have Fw5_alternatives : Fld Z h5 r0 "com/example/mave/mave/engine/Choices" "alternatives" "[I" (.ref b4) := F_alternatives_r0_c4.same W5
  have N5 := Fr.snoc X5 N3 gn_r0
  have Z5 : n0 ≤ h5.size := Nat.le_trans Z4 (Keep.of_wr W5).1
  refine own_go (G := T5.setTop (mkF m 20 #[.val (.ref r0)] [])) (st5) ?_
  exact own_retV X5 hx Bd.returns (hb hby d1_20) Bd.notSynchronized (by decide) (by decide) (by rw [e5]; exact ⟨rfl, N5, Z5, ⟨gn_r0, E_r0_c5, F_made_r0_c5, F_replayed_r0_c5, b2, b4, k2, k4, gn_b2, gn_b4, ne_r0_b2, ne_r0_b4, ne_b2_b4, Fw3_taken_c5, Fw5_alternatives, V_b2_c5, V_b4_c5⟩⟩)
theorem d4_0 : decode prog_8_method_3_code 0 = .ok (.aload_n 0, 1) := by decide +kernel
theorem d4_1 : decode prog_8_method_3_code 1 = .ok (.getfield 16, 3) := by decide +kernel
theorem d4_4 : decode prog_8_method_3_code 4 = .ok (.aload_n 0, 1) := by decide +kernel
theorem d4_5 : decode prog_8_method_3_code 5 = .ok (.getfield 20, 3) := by decide +kernel
theorem d4_8 : decode prog_8_method_3_code 8 = .ok (.if_icmp .ge 20, 3) := by decide +kernel
theorem d4_28 : decode prog_8_method_3_code 28 = .ok (.aload_n 0, 1) := by decide +kernel
theorem d4_29 : decode prog_8_method_3_code 29 = .ok (.getfield 16, 3) := by decide +kernel
theorem d4_32 : decode prog_8_method_3_code 32 = .ok (.aload_n 0, 1) := by decide +kernel
theorem d4_33 : decode prog_8_method_3_code 33 = .ok (.getfield 7, 3) := by decide +kernel
theorem d4_36 : decode prog_8_method_3_code 36 = .ok (.arraylength, 1) := by decide +kernel
theorem d4_37 : decode prog_8_method_3_code 37 = .ok (.if_icmp .ne 37, 3) := by decide +kernel
theorem d4_74 : decode prog_8_method_3_code 74 = .ok (.aload_n 0, 1) := by decide +kernel
theorem d4_75 : decode prog_8_method_3_code 75 = .ok (.getfield 7, 3) := by decide +kernel
theorem d4_78 : decode prog_8_method_3_code 78 = .ok (.aload_n 0, 1) := by decide +kernel
theorem d4_79 : decode prog_8_method_3_code 79 = .ok (.getfield 16, 3) := by decide +kernel
theorem d4_82 : decode prog_8_method_3_code 82 = .ok (.iconst 0, 1) := by decide +kernel
theorem d4_83 : decode prog_8_method_3_code 83 = .ok (.iastore, 1) := by decide +kernel
theorem d4_84 : decode prog_8_method_3_code 84 = .ok (.aload_n 0, 1) := by decide +kernel
theorem d4_85 : decode prog_8_method_3_code 85 = .ok (.getfield 13, 3) := by decide +kernel
theorem d4_88 : decode prog_8_method_3_code 88 = .ok (.aload_n 0, 1) := by decide +kernel
theorem d4_89 : decode prog_8_method_3_code 89 = .ok (.getfield 16, 3) := by decide +kernel
theorem d4_92 : decode prog_8_method_3_code 92 = .ok (.iload_n 1, 1) := by decide +kernel
theorem d4_93 : decode prog_8_method_3_code 93 = .ok (.iastore, 1) := by decide +kernel
theorem d4_94 : decode prog_8_method_3_code 94 = .ok (.aload_n 0, 1) := by decide +kernel
theorem d4_95 : decode prog_8_method_3_code 95 = .ok (.dup, 1) := by decide +kernel
theorem d4_96 : decode prog_8_method_3_code 96 = .ok (.getfield 16, 3) := by decide +kernel
theorem d4_99 : decode prog_8_method_3_code 99 = .ok (.iconst 1, 1) := by decide +kernel
theorem d4_100 : decode prog_8_method_3_code 100 = .ok (.iadd, 1) := by decide +kernel
theorem d4_101 : decode prog_8_method_3_code 101 = .ok (.putfield 16, 3) := by decide +kernel
theorem d4_104 : decode prog_8_method_3_code 104 = .ok (.iconst 0, 1) := by decide +kernel
theorem d4_105 : decode prog_8_method_3_code 105 = .ok (.ireturn, 1) := by decide +kernel
theorem pn4 : plainName "com/example/mave/mave/engine/Choices" = true := by first | (simp [plainName, overriddenIn]; done) | decide +kernel
theorem ef_ch0f (m : MethodId) (r0 : Addr) (p1 : Int32) : entryFrame m #[(.ref r0), (.int p1)] 2 = mkF m 0 #[.val (.ref r0), .val (.int p1)] [] := by first | (simp [entryFrame, mkF, argsToLocals, Value.category]; done) | rfl
set_option maxRecDepth 65536 in
set_option maxHeartbeats 40000000 in
theorem ch0f (l : Launch) (Z : State) (a0 : Array Value) (hw : ∀ d ∈ tables_1, d.before a0 Z = true) (ws : List Jvm.Cond) (r0 : Addr) (p1 : Int32) (rp : Int32) (t0 : Int32) (t1 : Int32) (t2 : Int32) (u0 : Int32) (u1 : Int32) (u2 : Int32) (h0 : Heap) (n0 : Nat) (Z0 : n0 ≤ h0.size) (G : own_C Z h0 n0 r0 (0 : Int32) rp t0 t1 t2 u0 u1 u2) (hmr : ¬ ((0 : Int32) < rp)) :
    MetFree l (⟨"com/example/mave/mave/engine/Choices", "choose", "(I)I"⟩ : MethodName) (head1 (Jvm.Cond.code (⟨"com/example/mave/mave/engine/Choices", "choose", "(I)I"⟩ : MethodName) prog_8_method_3_code 2 (some .int) :: ws) ({ frames := 0, cells := 0, slots := 0, locals := 0 } : Room)) (fun a U => a = #[(.ref r0), (.int p1)] ∧ Z.Warmed39 U.vm ∧ U.heap = h0) (fun _ _ _ _ _ => True) (fun _ U o U' => ∃ v L, o = .returned v ∧ (own_QC Z r0 (1 : Int32) rp (0 : Int32) t1 t2 p1 u1 u2 (some (.int (0 : Int32))) n0) v U'.heap L ∧ FrameEnd U o U' L 0 0) := by
  refine MetFree.of_bodySF (plainFor_of_name pn4) hisR ?_
  intro p e s m args below meth c s₁ Bd hml0 hP hK
  obtain ⟨rfl, hZ, hh⟩ := hP
  have hx := Bd.exec
  have hby := Bd.bytes
  have hml : c.maxLocals = 2 := hml0
  have hown : s.vm.findClass "com/example/mave/mave/engine/Choices" = some m.cls := findClass_of_methodNamed Bd.named
  have hnm := (name_of_methodNamed Bd.named Bd.method).1
  have X0 : Stand p l e ({ frames := 0, cells := 0, slots := 0, locals := 0 } : Room) s m #[(.ref r0), (.int p1)] below meth c s₁ [] 0 0 := Stand.of_body Bd
  have e0 : s₁.heap = h0 := by rw [← hh, Bd.state]; rfl
  have N0 := Fr.nil n0
  obtain ⟨gn_r0, E_r0, F_made, F_rep, b1, b2, k1, k2, gn_b1, gn_b2, ne_r0_b1, ne_r0_b2, ne_b1_b2, F_taken, F_alt, V_b1, V_b2⟩ := G
  show own_Goes p e below (own_End s (own_QC Z r0 (1 : Int32) rp (0 : Int32) t1 t2 p1 u1 u2 (some (.int (0 : Int32))) n0) 0 0) _
  refine own_go (G := s₁.setTop (mkF m 0 #[.val (.ref r0), .val (.int p1)] [])) (fun t k => castTop (ef_ch0f m r0 p1) k) ?_
  refine own_go (G := s₁.setTop (mkF m 1 #[.val (.ref r0), .val (.int p1)] [(.ref r0)])) (fun _ k => XS.aloadN X0.here hx rfl (hb hby d4_0) rfl rfl k) ?_
  obtain ⟨T1, X1, e1, st1⟩ := getF X0 hx hZ hown (host := "") (Or.inl (hw _ (List.mem_of_getElem? (i := 24) rfl))) Via.refl e0 F_made (g := (mkF m 1 #[.val (.ref r0), .val (.int p1)] [(.ref r0)])) rfl rfl (hb hby d4_1)
  refine own_go (G := T1.setTop (mkF m 4 #[.val (.ref r0), .val (.int p1)] [(.int (0 : Int32))])) (st1) ?_
  refine own_go (G := T1.setTop (mkF m 5 #[.val (.ref r0), .val (.int p1)] [(.ref r0), (.int (0 : Int32))])) (fun _ k => XS.aloadN X1.here hx rfl (hb hby d4_4) rfl rfl k) ?_
  obtain ⟨T2, X2, e2, st2⟩ := getF X1 hx hZ hown (host := "") (Or.inl (hw _ (List.mem_of_getElem? (i := 26) rfl))) Via.refl e1 F_rep (g := (mkF m 5 #[.val (.ref r0), .val (.int p1)] [(.ref r0), (.int (0 : Int32))])) rfl rfl (hb hby d4_5)
  refine own_go (G := T2.setTop (mkF m 8 #[.val (.ref r0), .val (.int p1)] [(.int rp), (.int (0 : Int32))])) (st2) ?_
  refine own_go (G := T2.setTop (mkF m 28 #[.val (.ref r0), .val (.int p1)] [])) (fun _ k => XS.icmpYes X2.here hx rfl (pc0 := 8) (pc' := 28) rfl (hb hby d4_8) rfl (flt (hmr : ¬ ((0 : Int32) < rp))).2.1 (by decide) (by decide) k) ?_
  refine own_go (G := T2.setTop (mkF m 29 #[.val (.ref r0), .val (.int p1)] [(.ref r0)])) (fun _ k => XS.aloadN X2.here hx rfl (hb hby d4_28) rfl rfl k) ?_
  obtain ⟨T3, X3, e3, st3⟩ := getF X2 hx hZ hown (host := "") (Or.inl (hw _ (List.mem_of_getElem? (i := 24) rfl))) Via.refl e2 F_made (g := (mkF m 29 #[.val (.ref r0), .val (.int p1)] [(.ref r0)])) rfl rfl (hb hby d4_29)
  refine own_go (G := T3.setTop (mkF m 32 #[.val (.ref r0), .val (.int p1)] [(.int (0 : Int32))])) (st3) ?_
  refine own_go (G := T3.setTop (mkF m 33 #[.val (.ref r0), .val (.int p1)] [(.ref r0), (.int (0 : Int32))])) (fun _ k => XS.aloadN X3.here hx rfl (hb hby d4_32) rfl rfl k) ?_
  obtain ⟨T4, X4, e4, st4⟩ := getF X3 hx hZ hown (host := "") (Or.inl (hw _ (List.mem_of_getElem? (i := 11) rfl))) Via.refl e3 F_taken (g := (mkF m 33 #[.val (.ref r0), .val (.int p1)] [(.ref r0), (.int (0 : Int32))])) rfl rfl (hb hby d4_33)
  refine own_go (G := T4.setTop (mkF m 36 #[.val (.ref r0), .val (.int p1)] [(.ref b1), (.int (0 : Int32))])) (st4) ?_
  obtain ⟨cl5, Ar5, -, S5, N5_, -, -⟩ := id V_b1
  refine own_go (G := T4.setTop (mkF m 37 #[.val (.ref r0), .val (.int p1)] [(.int (8 : Int32)), (.int (0 : Int32))])) (fun t k => X4.arraylength hx (by rw [e4]; exact Ar5.1) (State.isArrayOf_alike hZ.alike Ar5.2.1) (g := (mkF m 36 #[.val (.ref r0), .val (.int p1)] [(.ref b1), (.int (0 : Int32))])) rfl rfl (hb hby d4_36) t (by rw [len_of S5 N5_]; exact k)) ?_
  refine own_go (G := T4.setTop (mkF m 74 #[.val (.ref r0), .val (.int p1)] [])) (fun _ k => XS.icmpYes X4.here hx rfl (pc0 := 37) (pc' := 74) rfl (hb hby d4_37) rfl (feq (by decide : ¬ ((0 : Int32) = (8 : Int32)))).2 (by decide) (by decide) k) ?_
  refine own_go (G := T4.setTop (mkF m 75 #[.val (.ref r0), .val (.int p1)] [(.ref r0)])) (fun _ k => XS.aloadN X4.here hx rfl (hb hby d4_74) rfl rfl k) ?_
  obtain ⟨T6, X6, e6, st6⟩ := getF X4 hx hZ hown (host := "") (Or.inl (hw _ (List.mem_of_getElem? (i := 11) rfl))) Via.refl e4 F_taken (g := (mkF m 75 #[.val (.ref r0), .val (.int p1)] [(.ref r0)])) rfl rfl (hb hby d4_75)
  refine own_go (G := T6.setTop (mkF m 78 #[.val (.ref r0), .val (.int p1)] [(.ref b1)])) (st6) ?_
  refine own_go (G := T6.setTop (mkF m 79 #[.val (.ref r0), .val (.int p1)] [(.ref r0), (.ref b1)])) (fun _ k => XS.aloadN X6.here hx rfl (hb hby d4_78) rfl rfl k) ?_
  obtain ⟨T7, X7, e7, st7⟩ := getF X6 hx hZ hown (host := "") (Or.inl (hw _ (List.mem_of_getElem? (i := 24) rfl))) Via.refl e6 F_made (g := (mkF m 79 #[.val (.ref r0), .val (.int p1)] [(.ref r0), (.ref b1)])) rfl rfl (hb hby d4_79)
  refine own_go (G := T7.setTop (mkF m 82 #[.val (.ref r0), .val (.int p1)] [(.int (0 : Int32)), (.ref b1)])) (st7) ?_
  refine own_go (G := T7.setTop (mkF m 83 #[.val (.ref r0), .val (.int p1)] [(.int (0 : Int32)), (.int (0 : Int32)), (.ref b1)])) (fun _ k => XS.iconst X7.here hx rfl (hb hby d4_82) k) ?_
  obtain ⟨cl8, Ar8, qk8, S8, N8_, Ha8, G8⟩ := id V_b1
  have hin8 : ¬ ((0 : Int32) < 0 ∨ cl8.slots.size ≤ ((0 : Int32)).toNatClampNeg) := inb_of S8 ⟨by decide, by decide⟩
  obtain ⟨T8, h8, X8, e8, W8, st8⟩ := stI X7 hx hZ e7 Ar8 (j := (0 : Int32)) hin8 (g := (mkF m 83 #[.val (.ref r0), .val (.int p1)] [(.int (0 : Int32)), (.int (0 : Int32)), (.ref b1)])) rfl rfl (hb hby d4_83)
  have V8_b1 : Arv Z h8 b1 k1 .int (8 : Int32) [(.int (0 : Int32)), (.int t1), (.int t2), (.int (0 : Int32)), (.int (0 : Int32)), (.int (0 : Int32)), (.int (0 : Int32)), (.int (0 : Int32))] (.int (0 : Int32)) := Arv.set Ar8 qk8 S8 N8_ Ha8 G8 rfl W8 0 rfl (Nat.le_of_ble_eq_true rfl)
  have E_r0_c8 : Exa Z h8 r0 "com/example/mave/mave/engine/Choices" := E_r0.wr W8
  have F_made_c8 : Fld Z h8 r0 "com/example/mave/mave/engine/Choices" "made" "I" (.int (0 : Int32)) := F_made.other W8 (Or.inl ne_r0_b1)
  have F_rep_c8 : Fld Z h8 r0 "com/example/mave/mave/engine/Choices" "replayed" "I" (.int rp) := F_rep.other W8 (Or.inl ne_r0_b1)
  have F_taken_c8 : Fld Z h8 r0 "com/example/mave/mave/engine/Choices" "taken" "[I" (.ref b1) := F_taken.other W8 (Or.inl ne_r0_b1)
  have F_alt_c8 : Fld Z h8 r0 "com/example/mave/mave/engine/Choices" "alternatives" "[I" (.ref b2) := F_alt.other W8 (Or.inl ne_r0_b1)
  have V_b2_c8 : Arv Z h8 b2 k2 .int (8 : Int32) [(.int u0), (.int u1), (.int u2), (.int (0 : Int32)), (.int (0 : Int32)), (.int (0 : Int32)), (.int (0 : Int32)), (.int (0 : Int32))] (.int (0 : Int32)) := V_b2.other W8 (Ne.symm ne_b1_b2)
  have N8 := Fr.snoc X8 N0 gn_b1
  have Z8 : n0 ≤ h8.size := Nat.le_trans Z0 (Keep.of_wr W8).1
  refine own_go (G := T8.setTop (mkF m 84 #[.val (.ref r0), .val (.int p1)] [])) (st8) ?_
  refine own_go (G := T8.setTop (mkF m 85 #[.val (.ref r0), .val (.int p1)] [(.ref r0)])) (fun _ k => XS.aloadN X8.here hx rfl (hb hby d4_84) rfl rfl k) ?_
  obtain ⟨T9, X9, e9, st9⟩ := getF X8 hx hZ hown (host := "") (Or.inl (hw _ (List.mem_of_getElem? (i := 13) rfl))) Via.refl e8 F_alt_c8 (g := (mkF m 85 #[.val (.ref r0), .val (.int p1)] [(.ref r0)])) rfl rfl (hb hby d4_85)
  refine own_go (G := T9.setTop (mkF m 88 #[.val (.ref r0), .val (.int p1)] [(.ref b2)])) (st9) ?_
  refine own_go (G := T9.setTop (mkF m 89 #[.val (.ref r0), .val (.int p1)] [(.ref r0), (.ref b2)])) (fun _ k => XS.aloadN X9.here hx rfl (hb hby d4_88) rfl rfl k) ?_
  obtain ⟨T10, X10, e10, st10⟩ := getF X9 hx hZ hown (host := "") (Or.inl (hw _ (List.mem_of_getElem? (i := 24) rfl))) Via.refl e9 F_made_c8 (g := (mkF m 89 #[.val (.ref r0), .val (.int p1)] [(.ref r0), (.ref b2)])) rfl rfl (hb hby d4_89)
  refine own_go (G := T10.setTop (mkF m 92 #[.val (.ref r0), .val (.int p1)] [(.int (0 : Int32)), (.ref b2)])) (st10) ?_
  refine own_go (G := T10.setTop (mkF m 93 #[.val (.ref r0), .val (.int p1)] [(.int p1), (.int (0 : Int32)), (.ref b2)])) (fun _ k => XS.iloadN X10.here hx rfl (hb hby d4_92) rfl k) ?_
  obtain ⟨cl11, Ar11, qk11, S11, N11_, Ha11, G11⟩ := id V_b2_c8
  have hin11 : ¬ ((0 : Int32) < 0 ∨ cl11.slots.size ≤ ((0 : Int32)).toNatClampNeg) := inb_of S11 ⟨by decide, by decide⟩
  obtain ⟨T11, h11, X11, e11, W11, st11⟩ := stI X10 hx hZ e10 Ar11 (j := (0 : Int32)) hin11 (g := (mkF m 93 #[.val (.ref r0), .val (.int p1)] [(.int p1), (.int (0 : Int32)), (.ref b2)])) rfl rfl (hb hby d4_93)
  have V11_b2 : Arv Z h11 b2 k2 .int (8 : Int32) [(.int p1), (.int u1), (.int u2), (.int (0 : Int32)), (.int (0 : Int32)), (.int (0 : Int32)), (.int (0 : Int32)), (.int (0 : Int32))] (.int (0 : Int32)) := Arv.set Ar11 qk11 S11 N11_ Ha11 G11 rfl W11 0 rfl (Nat.le_of_ble_eq_true rfl)
  have E_r0_c11 : Exa Z h11 r0 "com/example/mave/mave/engine/Choices" := E_r0_c8.wr W11
  have F_made_c11 : Fld Z h11 r0 "com/example/mave/mave/engine/Choices" "made" "I" (.int (0 : Int32)) := F_made_c8.other W11 (Or.inl ne_r0_b2)
  have F_rep_c11 : Fld Z h11 r0 "com/example/mave/mave/engine/Choices" "replayed" "I" (.int rp) := F_rep_c8.other W11 (Or.inl ne_r0_b2)
  have F_taken_c11 : Fld Z h11 r0 "com/example/mave/mave/engine/Choices" "taken" "[I" (.ref b1) := F_taken_c8.other W11 (Or.inl ne_r0_b2)
  have F_alt_c11 : Fld Z h11 r0 "com/example/mave/mave/engine/Choices" "alternatives" "[I" (.ref b2) := F_alt_c8.other W11 (Or.inl ne_r0_b2)
  have V8_b1_c11 : Arv Z h11 b1 k1 .int (8 : Int32) [(.int (0 : Int32)), (.int t1), (.int t2), (.int (0 : Int32)), (.int (0 : Int32)), (.int (0 : Int32)), (.int (0 : Int32)), (.int (0 : Int32))] (.int (0 : Int32)) := V8_b1.other W11 ne_b1_b2
  have N11 := Fr.snoc X11 N8 gn_b2
  have Z11 : n0 ≤ h11.size := Nat.le_trans Z8 (Keep.of_wr W11).1
  refine own_go (G := T11.setTop (mkF m 94 #[.val (.ref r0), .val (.int p1)] [])) (st11) ?_
  refine own_go (G := T11.setTop (mkF m 95 #[.val (.ref r0), .val (.int p1)] [(.ref r0)])) (fun _ k => XS.aloadN X11.here hx rfl (hb hby d4_94) rfl rfl k) ?_
  refine own_go (G := T11.setTop (mkF m 96 #[.val (.ref r0), .val (.int p1)] [(.ref r0), (.ref r0)])) (fun _ k => XS.dup X11.here hx rfl (hb hby d4_95) rfl rfl k) ?_
  obtain ⟨T12, X12, e12, st12⟩ := getF X11 hx hZ hown (host := "") (Or.inl (hw _ (List.mem_of_getElem? (i := 24) rfl))) Via.refl e11 F_made_c11 (g := (mkF m 96 #[.val (.ref r0), .val (.int p1)] [(.ref r0), (.ref r0)])) rfl rfl (hb hby d4_96)
  refine own_go (G := T12.setTop (mkF m 99 #[.val (.ref r0), .val (.int p1)] [(.int (0 : Int32)), (.ref r0)])) (st12) ?_
  refine own_go (G := T12.setTop (mkF m 100 #[.val (.ref r0), .val (.int p1)] [(.int (1 : Int32)), (.int (0 : Int32)), (.ref r0)])) (fun _ k => XS.iconst X12.here hx rfl (hb hby d4_99) k) ?_
  refine own_go (G := T12.setTop (mkF m 101 #[.val (.ref r0), .val (.int p1)] [(.int ((0 : Int32) + (1 : Int32))), (.ref r0)])) (fun _ k => XS.iadd X12.here hx rfl (hb hby d4_100) rfl k) ?_
  rw [show ((0 : Int32) + (1 : Int32)) = (1 : Int32) from by decide]
  obtain ⟨T13, h13, X13, e13, W13, st13⟩ := putF X12 hx hZ hown (host := "") (Or.inl (hw _ (List.mem_of_getElem? (i := 24) rfl))) Via.refl e12 F_made_c11 E_r0_c11 (Or.inl (hw _ (List.mem_of_getElem? (i := 25) rfl))) (hw _ (List.mem_of_getElem? (i := 2) rfl)) (ty := .int) (by decide) rfl rfl (g := (mkF m 101 #[.val (.ref r0), .val (.int p1)] [(.int (1 : Int32)), (.ref r0)])) rfl rfl (hb hby d4_101)
  have E_r0_c13 : Exa Z h13 r0 "com/example/mave/mave/engine/Choices" := E_r0_c11.wr W13
  have F_rep_c13 : Fld Z h13 r0 "com/example/mave/mave/engine/Choices" "replayed" "I" (.int rp) := F_rep_c11.other W13 (Or.inr (slot_ne (Or.inl (hw _ (List.mem_of_getElem? (i := 27) rfl))) (Or.inl (hw _ (List.mem_of_getElem? (i := 25) rfl))) (by decide) (t := .int) (t' := .int) (by decide) (by decide)))
  have F_taken_c13 : Fld Z h13 r0 "com/example/mave/mave/engine/Choices" "taken" "[I" (.ref b1) := F_taken_c11.other W13 (Or.inr (slot_ne (Or.inl (hw _ (List.mem_of_getElem? (i := 12) rfl))) (Or.inl (hw _ (List.mem_of_getElem? (i := 25) rfl))) (by decide) (t := (.array .int)) (t' := .int) (by decide) (by decide)))
  have F_alt_c13 : Fld Z h13 r0 "com/example/mave/mave/engine/Choices" "alternatives" "[I" (.ref b2) := F_alt_c11.other W13 (Or.inr (slot_ne (Or.inl (hw _ (List.mem_of_getElem? (i := 14) rfl))) (Or.inl (hw _ (List.mem_of_getElem? (i := 25) rfl))) (by decide) (t := (.array .int)) (t' := .int) (by decide) (by decide)))
  have V8_b1_c13 : Arv Z h13 b1 k1 .int (8 : Int32) [(.int (0 : Int32)), (.int t1), (.int t2), (.int (0 : Int32)), (.int (0 : Int32)), (.int (0 : Int32)), (.int (0 : Int32)), (.int (0 : Int32))] (.int (0 : Int32)) := V8_b1_c11.other W13 (Ne.symm ne_r0_b1)
  have V11_b2_c13 : Arv Z h13 b2 k2 .int (8 : Int32) [(.int p1), (.int u1), (.int u2), (.int (0 : Int32)), (.int (0 : Int32)), (.int (0 : Int32)), (.int (0 : Int32)), (.int (0 : Int32))] (.int (0 : Int32)) := V11_b2.other W13 (Ne.symm ne_r0_b2)
  have Fw13_made : Fld Z h13 r0 "com/example/mave/mave/engine/Choices" "made" "I" (.int (1 : Int32)) := F_made_c11.same W13
  have N13 := Fr.snoc X13 N11 gn_r0
  have Z13 : n0 ≤ h13.size := Nat.le_trans Z11 (Keep.of_wr W13).1
  refine own_go (G := T13.setTop (mkF m 104 #[.val (.ref r0), .val (.int p1)] [])) (st13) ?_
  refine own_go (G := T13.setTop (mkF m 105 #[.val (.ref r0), .val (.int p1)] [(.int (0 : Int32))])) (fun _ k => XS.iconst X13.here hx rfl (hb hby d4_104) k) ?_
  exact own_retI X13 hx Bd.returns (hb hby d4_105) Bd.notSynchronized (by decide) (by decide) (by rw [e13]; exact ⟨rfl, N13, Z13, ⟨gn_r0, E_r0_c13, Fw13_made, F_rep_c13, b1, b2, k1, k2, gn_b1, gn_b2, ne_r0_b1, ne_r0_b2, ne_b1_b2, F_taken_c13, F_alt_c13, V8_b1_c13, V11_b2_c13⟩⟩)
theorem d4_11 : decode prog_8_method_3_code 11 = .ok (.aload_n 0, 1) := by decide +kernel
theorem d4_12 : decode prog_8_method_3_code 12 = .ok (.getfield 7, 3) := by decide +kernel
theorem d4_15 : decode prog_8_method_3_code 15 = .ok (.aload_n 0, 1) := by decide +kernel
theorem d4_16 : decode prog_8_method_3_code 16 = .ok (.dup, 1) := by decide +kernel
theorem d4_17 : decode prog_8_method_3_code 17 = .ok (.getfield 16, 3) := by decide +kernel
theorem d4_20 : decode prog_8_method_3_code 20 = .ok (.dup_x1, 1) := by decide +kernel
theorem d4_21 : decode prog_8_method_3_code 21 = .ok (.iconst 1, 1) := by decide +kernel
theorem d4_22 : decode prog_8_method_3_code 22 = .ok (.iadd, 1) := by decide +kernel
theorem d4_23 : decode prog_8_method_3_code 23 = .ok (.putfield 16, 3) := by decide +kernel
theorem d4_26 : decode prog_8_method_3_code 26 = .ok (.iaload, 1) := by decide +kernel
theorem d4_27 : decode prog_8_method_3_code 27 = .ok (.ireturn, 1) := by decide +kernel
theorem ef_ch0r (m : MethodId) (r0 : Addr) (p1 : Int32) : entryFrame m #[(.ref r0), (.int p1)] 2 = mkF m 0 #[.val (.ref r0), .val (.int p1)] [] := by first | (simp [entryFrame, mkF, argsToLocals, Value.category]; done) | rfl
set_option maxRecDepth 65536 in
set_option maxHeartbeats 40000000 in
theorem ch0r (l : Launch) (Z : State) (a0 : Array Value) (hw : ∀ d ∈ tables_1, d.before a0 Z = true) (ws : List Jvm.Cond) (r0 : Addr) (p1 : Int32) (rp : Int32) (t0 : Int32) (t1 : Int32) (t2 : Int32) (u0 : Int32) (u1 : Int32) (u2 : Int32) (h0 : Heap) (n0 : Nat) (Z0 : n0 ≤ h0.size) (G : own_C Z h0 n0 r0 (0 : Int32) rp t0 t1 t2 u0 u1 u2) (hmr : (0 : Int32) < rp) :
    MetFree l (⟨"com/example/mave/mave/engine/Choices", "choose", "(I)I"⟩ : MethodName) (head1 (Jvm.Cond.code (⟨"com/example/mave/mave/engine/Choices", "choose", "(I)I"⟩ : MethodName) prog_8_method_3_code 2 (some .int) :: ws) ({ frames := 0, cells := 0, slots := 0, locals := 0 } : Room)) (fun a U => a = #[(.ref r0), (.int p1)] ∧ Z.Warmed39 U.vm ∧ U.heap = h0) (fun _ _ _ _ _ => True) (fun _ U o U' => ∃ v L, o = .returned v ∧ (own_QC Z r0 (1 : Int32) rp t0 t1 t2 u0 u1 u2 (some (.int t0)) n0) v U'.heap L ∧ FrameEnd U o U' L 0 0) := by
  refine MetFree.of_bodySF (plainFor_of_name pn4) hisR ?_
  intro p e s m args below meth c s₁ Bd hml0 hP hK
  obtain ⟨rfl, hZ, hh⟩ := hP
  have hx := Bd.exec
  have hby := Bd.bytes
  have hml : c.maxLocals = 2 := hml0
  have hown : s.vm.findClass "com/example/mave/mave/engine/Choices" = some m.cls := findClass_of_methodNamed Bd.named
  have hnm := (name_of_methodNamed Bd.named Bd.method).1
  have X0 : Stand p l e ({ frames := 0, cells := 0, slots := 0, locals := 0 } : Room) s m #[(.ref r0), (.int p1)] below meth c s₁ [] 0 0 := Stand.of_body Bd
  have e0 : s₁.heap = h0 := by rw [← hh, Bd.state]; rfl
  have N0 := Fr.nil n0
  obtain ⟨gn_r0, E_r0, F_made, F_rep, b1, b2, k1, k2, gn_b1, gn_b2, ne_r0_b1, ne_r0_b2, ne_b1_b2, F_taken, F_alt, V_b1, V_b2⟩ := G
  show own_Goes p e below (own_End s (own_QC Z r0 (1 : Int32) rp t0 t1 t2 u0 u1 u2 (some (.int t0)) n0) 0 0) _
  refine own_go (G := s₁.setTop (mkF m 0 #[.val (.ref r0), .val (.int p1)] [])) (fun t k => castTop (ef_ch0r m r0 p1) k) ?_
  refine own_go (G := s₁.setTop (mkF m 1 #[.val (.ref r0), .val (.int p1)] [(.ref r0)])) (fun _ k => XS.aloadN X0.here hx rfl (hb hby d4_0) rfl rfl k) ?_
  obtain ⟨T1, X1, e1, st1⟩ := getF X0 hx hZ hown (host := "") (Or.inl (hw _ (List.mem_of_getElem? (i := 24) rfl))) Via.refl e0 F_made (g := (mkF m 1 #[.val (.ref r0), .val (.int p1)] [(.ref r0)])) rfl rfl (hb hby d4_1)
  refine own_go (G := T1.setTop (mkF m 4 #[.val (.ref r0), .val (.int p1)] [(.int (0 : Int32))])) (st1) ?_
  refine own_go (G := T1.setTop (mkF m 5 #[.val (.ref r0), .val (.int p1)] [(.ref r0), (.int (0 : Int32))])) (fun _ k => XS.aloadN X1.here hx rfl (hb hby d4_4) rfl rfl k) ?_
  obtain ⟨T2, X2, e2, st2⟩ := getF X1 hx hZ hown (host := "") (Or.inl (hw _ (List.mem_of_getElem? (i := 26) rfl))) Via.refl e1 F_rep (g := (mkF m 5 #[.val (.ref r0), .val (.int p1)] [(.ref r0), (.int (0 : Int32))])) rfl rfl (hb hby d4_5)
  refine own_go (G := T2.setTop (mkF m 8 #[.val (.ref r0), .val (.int p1)] [(.int rp), (.int (0 : Int32))])) (st2) ?_
  refine own_go (G := T2.setTop (mkF m 11 #[.val (.ref r0), .val (.int p1)] [])) (fun _ k => XS.icmpNo X2.here hx rfl (hb hby d4_8) rfl (tlt (hmr : (0 : Int32) < rp)).2.1 k) ?_
  refine own_go (G := T2.setTop (mkF m 12 #[.val (.ref r0), .val (.int p1)] [(.ref r0)])) (fun _ k => XS.aloadN X2.here hx rfl (hb hby d4_11) rfl rfl k) ?_
  obtain ⟨T3, X3, e3, st3⟩ := getF X2 hx hZ hown (host := "") (Or.inl (hw _ (List.mem_of_getElem? (i := 11) rfl))) Via.refl e2 F_taken (g := (mkF m 12 #[.val (.ref r0), .val (.int p1)] [(.ref r0)])) rfl rfl (hb hby d4_12)
  refine own_go (G := T3.setTop (mkF m 15 #[.val (.ref r0), .val (.int p1)] [(.ref b1)])) (st3) ?_
  refine own_go (G := T3.setTop (mkF m 16 #[.val (.ref r0), .val (.int p1)] [(.ref r0), (.ref b1)])) (fun _ k => XS.aloadN X3.here hx rfl (hb hby d4_15) rfl rfl k) ?_
  refine own_go (G := T3.setTop (mkF m 17 #[.val (.ref r0), .val (.int p1)] [(.ref r0), (.ref r0), (.ref b1)])) (fun _ k => XS.dup X3.here hx rfl (hb hby d4_16) rfl rfl k) ?_
  obtain ⟨T4, X4, e4, st4⟩ := getF X3 hx hZ hown (host := "") (Or.inl (hw _ (List.mem_of_getElem? (i := 24) rfl))) Via.refl e3 F_made (g := (mkF m 17 #[.val (.ref r0), .val (.int p1)] [(.ref r0), (.ref r0), (.ref b1)])) rfl rfl (hb hby d4_17)
  refine own_go (G := T4.setTop (mkF m 20 #[.val (.ref r0), .val (.int p1)] [(.int (0 : Int32)), (.ref r0), (.ref b1)])) (st4) ?_
  refine own_go (G := T4.setTop (mkF m 21 #[.val (.ref r0), .val (.int p1)] [(.int (0 : Int32)), (.ref r0), (.int (0 : Int32)), (.ref b1)])) (fun _ k => XS.dupX1 X4.here hx rfl (hb hby d4_20) rfl rfl rfl k) ?_
  refine own_go (G := T4.setTop (mkF m 22 #[.val (.ref r0), .val (.int p1)] [(.int (1 : Int32)), (.int (0 : Int32)), (.ref r0), (.int (0 : Int32)), (.ref b1)])) (fun _ k => XS.iconst X4.here hx rfl (hb hby d4_21) k) ?_
  refine own_go (G := T4.setTop (mkF m 23 #[.val (.ref r0), .val (.int p1)] [(.int ((0 : Int32) + (1 : Int32))), (.ref r0), (.int (0 : Int32)), (.ref b1)])) (fun _ k => XS.iadd X4.here hx rfl (hb hby d4_22) rfl k) ?_
  rw [show ((0 : Int32) + (1 : Int32)) = (1 : Int32) from by decide]
  obtain ⟨T5, h5, X5, e5, W5, st5⟩ := putF X4 hx hZ hown (host := "") (Or.inl (hw _ (List.mem_of_getElem? (i := 24) rfl))) Via.refl e4 F_made E_r0 (Or.inl (hw _ (List.mem_of_getElem? (i := 25) rfl))) (hw _ (List.mem_of_getElem? (i := 2) rfl)) (ty := .int) (by decide) rfl rfl (g := (mkF m 23 #[.val (.ref r0), .val (.int p1)] [(.int (1 : Int32)), (.ref r0), (.int (0 : Int32)), (.ref b1)])) rfl rfl (hb hby d4_23)
  have E_r0_c5 : Exa Z h5 r0 "com/example/mave/mave/engine/Choices" := E_r0.wr W5
  have F_rep_c5 : Fld Z h5 r0 "com/example/mave/mave/engine/Choices" "replayed" "I" (.int rp) := F_rep.other W5 (Or.inr (slot_ne (Or.inl (hw _ (List.mem_of_getElem? (i := 27) rfl))) (Or.inl (hw _ (List.mem_of_getElem? (i := 25) rfl))) (by decide) (t := .int) (t' := .int) (by decide) (by decide)))
  have F_taken_c5 : Fld Z h5 r0 "com/example/mave/mave/engine/Choices" "taken" "[I" (.ref b1) := F_taken.other W5 (Or.inr (slot_ne (Or.inl (hw _ (List.mem_of_getElem? (i := 12) rfl))) (Or.inl (hw _ (List.mem_of_getElem? (i := 25) rfl))) (by decide) (t := (.array .int)) (t' := .int) (by decide) (by decide)))
  have F_alt_c5 : Fld Z h5 r0 "com/example/mave/mave/engine/Choices" "alternatives" "[I" (.ref b2) := F_alt.other W5 (Or.inr (slot_ne (Or.inl (hw _ (List.mem_of_getElem? (i := 14) rfl))) (Or.inl (hw _ (List.mem_of_getElem? (i := 25) rfl))) (by decide) (t := (.array .int)) (t' := .int) (by decide) (by decide)))
  have V_b1_c5 : Arv Z h5 b1 k1 .int (8 : Int32) [(.int t0), (.int t1), (.int t2), (.int (0 : Int32)), (.int (0 : Int32)), (.int (0 : Int32)), (.int (0 : Int32)), (.int (0 : Int32))] (.int (0 : Int32)) := V_b1.other W5 (Ne.symm ne_r0_b1)
  have V_b2_c5 : Arv Z h5 b2 k2 .int (8 : Int32) [(.int u0), (.int u1), (.int u2), (.int (0 : Int32)), (.int (0 : Int32)), (.int (0 : Int32)), (.int (0 : Int32)), (.int (0 : Int32))] (.int (0 : Int32)) := V_b2.other W5 (Ne.symm ne_r0_b2)
  have Fw5_made : Fld Z h5 r0 "com/example/mave/mave/engine/Choices" "made" "I" (.int (1 : Int32)) := F_made.same W5
  have N5 := Fr.snoc X5 N0 gn_r0
  have Z5 : n0 ≤ h5.size := Nat.le_trans Z0 (Keep.of_wr W5).1
  refine own_go (G := T5.setTop (mkF m 26 #[.val (.ref r0), .val (.int p1)] [(.int (0 : Int32)), (.ref b1)])) (st5) ?_
  obtain ⟨cl6, Ar6, qk6, S6, N6_, Ha6, G6⟩ := id V_b1_c5
  have hin6 : ¬ ((0 : Int32) < 0 ∨ cl6.slots.size ≤ ((0 : Int32)).toNatClampNeg) := inb_of S6 ⟨by decide, by decide⟩
  have hat6 : cl6.slots[((0 : Int32)).toNatClampNeg]? = some (.int t0) := Ha6.at hin6 rfl
  refine own_go (G := T5.setTop (mkF m 27 #[.val (.ref r0), .val (.int p1)] [(.int t0)])) (X5.iaload hx (j := (0 : Int32)) (v := (.int t0)) (by rw [e5]; exact Ar6.1) (State.isArrayOf_alike hZ.alike Ar6.2.1) Ar6.2.2 hin6 hat6 (g := (mkF m 26 #[.val (.ref r0), .val (.int p1)] [(.int (0 : Int32)), (.ref b1)])) rfl rfl (hb hby d4_26)) ?_
  exact own_retI X5 hx Bd.returns (hb hby d4_27) Bd.notSynchronized (by decide) (by decide) (by rw [e5]; exact ⟨rfl, N5, Z5, ⟨gn_r0, E_r0_c5, Fw5_made, F_rep_c5, b1, b2, k1, k2, gn_b1, gn_b2, ne_r0_b1, ne_r0_b2, ne_b1_b2, F_taken_c5, F_alt_c5, V_b1_c5, V_b2_c5⟩⟩)
theorem ef_ch1f (m : MethodId) (r0 : Addr) (p1 : Int32) : entryFrame m #[(.ref r0), (.int p1)] 2 = mkF m 0 #[.val (.ref r0), .val (.int p1)] [] := by first | (simp [entryFrame, mkF, argsToLocals, Value.category]; done) | rfl
set_option maxRecDepth 65536 in
set_option maxHeartbeats 40000000 in
theorem ch1f (l : Launch) (Z : State) (a0 : Array Value) (hw : ∀ d ∈ tables_1, d.before a0 Z = true) (ws : List Jvm.Cond) (r0 : Addr) (p1 : Int32) (rp : Int32) (t0 : Int32) (t1 : Int32) (t2 : Int32) (u0 : Int32) (u1 : Int32) (u2 : Int32) (h0 : Heap) (n0 : Nat) (Z0 : n0 ≤ h0.size) (G : own_C Z h0 n0 r0 (1 : Int32) rp t0 t1 t2 u0 u1 u2) (hmr : ¬ ((1 : Int32) < rp)) :
    MetFree l (⟨"com/example/mave/mave/engine/Choices", "choose", "(I)I"⟩ : MethodName) (head1 (Jvm.Cond.code (⟨"com/example/mave/mave/engine/Choices", "choose", "(I)I"⟩ : MethodName) prog_8_method_3_code 2 (some .int) :: ws) ({ frames := 0, cells := 0, slots := 0, locals := 0 } : Room)) (fun a U => a = #[(.ref r0), (.int p1)] ∧ Z.Warmed39 U.vm ∧ U.heap = h0) (fun _ _ _ _ _ => True) (fun _ U o U' => ∃ v L, o = .returned v ∧ (own_QC Z r0 (2 : Int32) rp t0 (0 : Int32) t2 u0 p1 u2 (some (.int (0 : Int32))) n0) v U'.heap L ∧ FrameEnd U o U' L 0 0) := by
  refine MetFree.of_bodySF (plainFor_of_name pn4) hisR ?_
  intro p e s m args below meth c s₁ Bd hml0 hP hK
  obtain ⟨rfl, hZ, hh⟩ := hP
  have hx := Bd.exec
  have hby := Bd.bytes
  have hml : c.maxLocals = 2 := hml0
  have hown : s.vm.findClass "com/example/mave/mave/engine/Choices" = some m.cls := findClass_of_methodNamed Bd.named
  have hnm := (name_of_methodNamed Bd.named Bd.method).1
  have X0 : Stand p l e ({ frames := 0, cells := 0, slots := 0, locals := 0 } : Room) s m #[(.ref r0), (.int p1)] below meth c s₁ [] 0 0 := Stand.of_body Bd
  have e0 : s₁.heap = h0 := by rw [← hh, Bd.state]; rfl
  have N0 := Fr.nil n0
  obtain ⟨gn_r0, E_r0, F_made, F_rep, b1, b2, k1, k2, gn_b1, gn_b2, ne_r0_b1, ne_r0_b2, ne_b1_b2, F_taken, F_alt, V_b1, V_b2⟩ := G
  show own_Goes p e below (own_End s (own_QC Z r0 (2 : Int32) rp t0 (0 : Int32) t2 u0 p1 u2 (some (.int (0 : Int32))) n0) 0 0) _
  refine own_go (G := s₁.setTop (mkF m 0 #[.val (.ref r0), .val (.int p1)] [])) (fun t k => castTop (ef_ch1f m r0 p1) k) ?_
  refine own_go (G := s₁.setTop (mkF m 1 #[.val (.ref r0), .val (.int p1)] [(.ref r0)])) (fun _ k => XS.aloadN X0.here hx rfl (hb hby d4_0) rfl rfl k) ?_
  obtain ⟨T1, X1, e1, st1⟩ := getF X0 hx hZ hown (host := "") (Or.inl (hw _ (List.mem_of_getElem? (i := 24) rfl))) Via.refl e0 F_made (g := (mkF m 1 #[.val (.ref r0), .val (.int p1)] [(.ref r0)])) rfl rfl (hb hby d4_1)
  refine own_go (G := T1.setTop (mkF m 4 #[.val (.ref r0), .val (.int p1)] [(.int (1 : Int32))])) (st1) ?_
  refine own_go (G := T1.setTop (mkF m 5 #[.val (.ref r0), .val (.int p1)] [(.ref r0), (.int (1 : Int32))])) (fun _ k => XS.aloadN X1.here hx rfl (hb hby d4_4) rfl rfl k) ?_
  obtain ⟨T2, X2, e2, st2⟩ := getF X1 hx hZ hown (host := "") (Or.inl (hw _ (List.mem_of_getElem? (i := 26) rfl))) Via.refl e1 F_rep (g := (mkF m 5 #[.val (.ref r0), .val (.int p1)] [(.ref r0), (.int (1 : Int32))])) rfl rfl (hb hby d4_5)
  refine own_go (G := T2.setTop (mkF m 8 #[.val (.ref r0), .val (.int p1)] [(.int rp), (.int (1 : Int32))])) (st2) ?_
  refine own_go (G := T2.setTop (mkF m 28 #[.val (.ref r0), .val (.int p1)] [])) (fun _ k => XS.icmpYes X2.here hx rfl (pc0 := 8) (pc' := 28) rfl (hb hby d4_8) rfl (flt (hmr : ¬ ((1 : Int32) < rp))).2.1 (by decide) (by decide) k) ?_
  refine own_go (G := T2.setTop (mkF m 29 #[.val (.ref r0), .val (.int p1)] [(.ref r0)])) (fun _ k => XS.aloadN X2.here hx rfl (hb hby d4_28) rfl rfl k) ?_
  obtain ⟨T3, X3, e3, st3⟩ := getF X2 hx hZ hown (host := "") (Or.inl (hw _ (List.mem_of_getElem? (i := 24) rfl))) Via.refl e2 F_made (g := (mkF m 29 #[.val (.ref r0), .val (.int p1)] [(.ref r0)])) rfl rfl (hb hby d4_29)
  refine own_go (G := T3.setTop (mkF m 32 #[.val (.ref r0), .val (.int p1)] [(.int (1 : Int32))])) (st3) ?_
  refine own_go (G := T3.setTop (mkF m 33 #[.val (.ref r0), .val (.int p1)] [(.ref r0), (.int (1 : Int32))])) (fun _ k => XS.aloadN X3.here hx rfl (hb hby d4_32) rfl rfl k) ?_
  obtain ⟨T4, X4, e4, st4⟩ := getF X3 hx hZ hown (host := "") (Or.inl (hw _ (List.mem_of_getElem? (i := 11) rfl))) Via.refl e3 F_taken (g := (mkF m 33 #[.val (.ref r0), .val (.int p1)] [(.ref r0), (.int (1 : Int32))])) rfl rfl (hb hby d4_33)
  refine own_go (G := T4.setTop (mkF m 36 #[.val (.ref r0), .val (.int p1)] [(.ref b1), (.int (1 : Int32))])) (st4) ?_
  obtain ⟨cl5, Ar5, -, S5, N5_, -, -⟩ := id V_b1
  refine own_go (G := T4.setTop (mkF m 37 #[.val (.ref r0), .val (.int p1)] [(.int (8 : Int32)), (.int (1 : Int32))])) (fun t k => X4.arraylength hx (by rw [e4]; exact Ar5.1) (State.isArrayOf_alike hZ.alike Ar5.2.1) (g := (mkF m 36 #[.val (.ref r0), .val (.int p1)] [(.ref b1), (.int (1 : Int32))])) rfl rfl (hb hby d4_36) t (by rw [len_of S5 N5_]; exact k)) ?_
  refine own_go (G := T4.setTop (mkF m 74 #[.val (.ref r0), .val (.int p1)] [])) (fun _ k => XS.icmpYes X4.here hx rfl (pc0 := 37) (pc' := 74) rfl (hb hby d4_37) rfl (feq (by decide : ¬ ((1 : Int32) = (8 : Int32)))).2 (by decide) (by decide) k) ?_
  refine own_go (G := T4.setTop (mkF m 75 #[.val (.ref r0), .val (.int p1)] [(.ref r0)])) (fun _ k => XS.aloadN X4.here hx rfl (hb hby d4_74) rfl rfl k) ?_
  obtain ⟨T6, X6, e6, st6⟩ := getF X4 hx hZ hown (host := "") (Or.inl (hw _ (List.mem_of_getElem? (i := 11) rfl))) Via.refl e4 F_taken (g := (mkF m 75 #[.val (.ref r0), .val (.int p1)] [(.ref r0)])) rfl rfl (hb hby d4_75)
  refine own_go (G := T6.setTop (mkF m 78 #[.val (.ref r0), .val (.int p1)] [(.ref b1)])) (st6) ?_
  refine own_go (G := T6.setTop (mkF m 79 #[.val (.ref r0), .val (.int p1)] [(.ref r0), (.ref b1)])) (fun _ k => XS.aloadN X6.here hx rfl (hb hby d4_78) rfl rfl k) ?_
  obtain ⟨T7, X7, e7, st7⟩ := getF X6 hx hZ hown (host := "") (Or.inl (hw _ (List.mem_of_getElem? (i := 24) rfl))) Via.refl e6 F_made (g := (mkF m 79 #[.val (.ref r0), .val (.int p1)] [(.ref r0), (.ref b1)])) rfl rfl (hb hby d4_79)
  refine own_go (G := T7.setTop (mkF m 82 #[.val (.ref r0), .val (.int p1)] [(.int (1 : Int32)), (.ref b1)])) (st7) ?_
  refine own_go (G := T7.setTop (mkF m 83 #[.val (.ref r0), .val (.int p1)] [(.int (0 : Int32)), (.int (1 : Int32)), (.ref b1)])) (fun _ k => XS.iconst X7.here hx rfl (hb hby d4_82) k) ?_
  obtain ⟨cl8, Ar8, qk8, S8, N8_, Ha8, G8⟩ := id V_b1
  have hin8 : ¬ ((1 : Int32) < 0 ∨ cl8.slots.size ≤ ((1 : Int32)).toNatClampNeg) := inb_of S8 ⟨by decide, by decide⟩
  obtain ⟨T8, h8, X8, e8, W8, st8⟩ := stI X7 hx hZ e7 Ar8 (j := (1 : Int32)) hin8 (g := (mkF m 83 #[.val (.ref r0), .val (.int p1)] [(.int (0 : Int32)), (.int (1 : Int32)), (.ref b1)])) rfl rfl (hb hby d4_83)
  have V8_b1 : Arv Z h8 b1 k1 .int (8 : Int32) [(.int t0), (.int (0 : Int32)), (.int t2), (.int (0 : Int32)), (.int (0 : Int32)), (.int (0 : Int32)), (.int (0 : Int32)), (.int (0 : Int32))] (.int (0 : Int32)) := Arv.set Ar8 qk8 S8 N8_ Ha8 G8 rfl W8 1 rfl (Nat.le_of_ble_eq_true rfl)
  have E_r0_c8 : Exa Z h8 r0 "com/example/mave/mave/engine/Choices" := E_r0.wr W8
  have F_made_c8 : Fld Z h8 r0 "com/example/mave/mave/engine/Choices" "made" "I" (.int (1 : Int32)) := F_made.other W8 (Or.inl ne_r0_b1)
  have F_rep_c8 : Fld Z h8 r0 "com/example/mave/mave/engine/Choices" "replayed" "I" (.int rp) := F_rep.other W8 (Or.inl ne_r0_b1)
  have F_taken_c8 : Fld Z h8 r0 "com/example/mave/mave/engine/Choices" "taken" "[I" (.ref b1) := F_taken.other W8 (Or.inl ne_r0_b1)
  have F_alt_c8 : Fld Z h8 r0 "com/example/mave/mave/engine/Choices" "alternatives" "[I" (.ref b2) := F_alt.other W8 (Or.inl ne_r0_b1)
  have V_b2_c8 : Arv Z h8 b2 k2 .int (8 : Int32) [(.int u0), (.int u1), (.int u2), (.int (0 : Int32)), (.int (0 : Int32)), (.int (0 : Int32)), (.int (0 : Int32)), (.int (0 : Int32))] (.int (0 : Int32)) := V_b2.other W8 (Ne.symm ne_b1_b2)
  have N8 := Fr.snoc X8 N0 gn_b1
  have Z8 : n0 ≤ h8.size := Nat.le_trans Z0 (Keep.of_wr W8).1
  refine own_go (G := T8.setTop (mkF m 84 #[.val (.ref r0), .val (.int p1)] [])) (st8) ?_
  refine own_go (G := T8.setTop (mkF m 85 #[.val (.ref r0), .val (.int p1)] [(.ref r0)])) (fun _ k => XS.aloadN X8.here hx rfl (hb hby d4_84) rfl rfl k) ?_
  obtain ⟨T9, X9, e9, st9⟩ := getF X8 hx hZ hown (host := "") (Or.inl (hw _ (List.mem_of_getElem? (i := 13) rfl))) Via.refl e8 F_alt_c8 (g := (mkF m 85 #[.val (.ref r0), .val (.int p1)] [(.ref r0)])) rfl rfl (hb hby d4_85)
  refine own_go (G := T9.setTop (mkF m 88 #[.val (.ref r0), .val (.int p1)] [(.ref b2)])) (st9) ?_
  refine own_go (G := T9.setTop (mkF m 89 #[.val (.ref r0), .val (.int p1)] [(.ref r0), (.ref b2)])) (fun _ k => XS.aloadN X9.here hx rfl (hb hby d4_88) rfl rfl k) ?_
  obtain ⟨T10, X10, e10, st10⟩ := getF X9 hx hZ hown (host := "") (Or.inl (hw _ (List.mem_of_getElem? (i := 24) rfl))) Via.refl e9 F_made_c8 (g := (mkF m 89 #[.val (.ref r0), .val (.int p1)] [(.ref r0), (.ref b2)])) rfl rfl (hb hby d4_89)
  refine own_go (G := T10.setTop (mkF m 92 #[.val (.ref r0), .val (.int p1)] [(.int (1 : Int32)), (.ref b2)])) (st10) ?_
  refine own_go (G := T10.setTop (mkF m 93 #[.val (.ref r0), .val (.int p1)] [(.int p1), (.int (1 : Int32)), (.ref b2)])) (fun _ k => XS.iloadN X10.here hx rfl (hb hby d4_92) rfl k) ?_
  obtain ⟨cl11, Ar11, qk11, S11, N11_, Ha11, G11⟩ := id V_b2_c8
  have hin11 : ¬ ((1 : Int32) < 0 ∨ cl11.slots.size ≤ ((1 : Int32)).toNatClampNeg) := inb_of S11 ⟨by decide, by decide⟩
  obtain ⟨T11, h11, X11, e11, W11, st11⟩ := stI X10 hx hZ e10 Ar11 (j := (1 : Int32)) hin11 (g := (mkF m 93 #[.val (.ref r0), .val (.int p1)] [(.int p1), (.int (1 : Int32)), (.ref b2)])) rfl rfl (hb hby d4_93)
  have V11_b2 : Arv Z h11 b2 k2 .int (8 : Int32) [(.int u0), (.int p1), (.int u2), (.int (0 : Int32)), (.int (0 : Int32)), (.int (0 : Int32)), (.int (0 : Int32)), (.int (0 : Int32))] (.int (0 : Int32)) := Arv.set Ar11 qk11 S11 N11_ Ha11 G11 rfl W11 1 rfl (Nat.le_of_ble_eq_true rfl)
  have E_r0_c11 : Exa Z h11 r0 "com/example/mave/mave/engine/Choices" := E_r0_c8.wr W11
  have F_made_c11 : Fld Z h11 r0 "com/example/mave/mave/engine/Choices" "made" "I" (.int (1 : Int32)) := F_made_c8.other W11 (Or.inl ne_r0_b2)
  have F_rep_c11 : Fld Z h11 r0 "com/example/mave/mave/engine/Choices" "replayed" "I" (.int rp) := F_rep_c8.other W11 (Or.inl ne_r0_b2)
  have F_taken_c11 : Fld Z h11 r0 "com/example/mave/mave/engine/Choices" "taken" "[I" (.ref b1) := F_taken_c8.other W11 (Or.inl ne_r0_b2)
  have F_alt_c11 : Fld Z h11 r0 "com/example/mave/mave/engine/Choices" "alternatives" "[I" (.ref b2) := F_alt_c8.other W11 (Or.inl ne_r0_b2)
  have V8_b1_c11 : Arv Z h11 b1 k1 .int (8 : Int32) [(.int t0), (.int (0 : Int32)), (.int t2), (.int (0 : Int32)), (.int (0 : Int32)), (.int (0 : Int32)), (.int (0 : Int32)), (.int (0 : Int32))] (.int (0 : Int32)) := V8_b1.other W11 ne_b1_b2
  have N11 := Fr.snoc X11 N8 gn_b2
  have Z11 : n0 ≤ h11.size := Nat.le_trans Z8 (Keep.of_wr W11).1
  refine own_go (G := T11.setTop (mkF m 94 #[.val (.ref r0), .val (.int p1)] [])) (st11) ?_
  refine own_go (G := T11.setTop (mkF m 95 #[.val (.ref r0), .val (.int p1)] [(.ref r0)])) (fun _ k => XS.aloadN X11.here hx rfl (hb hby d4_94) rfl rfl k) ?_
  refine own_go (G := T11.setTop (mkF m 96 #[.val (.ref r0), .val (.int p1)] [(.ref r0), (.ref r0)])) (fun _ k => XS.dup X11.here hx rfl (hb hby d4_95) rfl rfl k) ?_
  obtain ⟨T12, X12, e12, st12⟩ := getF X11 hx hZ hown (host := "") (Or.inl (hw _ (List.mem_of_getElem? (i := 24) rfl))) Via.refl e11 F_made_c11 (g := (mkF m 96 #[.val (.ref r0), .val (.int p1)] [(.ref r0), (.ref r0)])) rfl rfl (hb hby d4_96)
  refine own_go (G := T12.setTop (mkF m 99 #[.val (.ref r0), .val (.int p1)] [(.int (1 : Int32)), (.ref r0)])) (st12) ?_
  refine own_go (G := T12.setTop (mkF m 100 #[.val (.ref r0), .val (.int p1)] [(.int (1 : Int32)), (.int (1 : Int32)), (.ref r0)])) (fun _ k => XS.iconst X12.here hx rfl (hb hby d4_99) k) ?_
  refine own_go (G := T12.setTop (mkF m 101 #[.val (.ref r0), .val (.int p1)] [(.int ((1 : Int32) + (1 : Int32))), (.ref r0)])) (fun _ k => XS.iadd X12.here hx rfl (hb hby d4_100) rfl k) ?_
  rw [show ((1 : Int32) + (1 : Int32)) = (2 : Int32) from by decide]
  obtain ⟨T13, h13, X13, e13, W13, st13⟩ := putF X12 hx hZ hown (host := "") (Or.inl (hw _ (List.mem_of_getElem? (i := 24) rfl))) Via.refl e12 F_made_c11 E_r0_c11 (Or.inl (hw _ (List.mem_of_getElem? (i := 25) rfl))) (hw _ (List.mem_of_getElem? (i := 2) rfl)) (ty := .int) (by decide) rfl rfl (g := (mkF m 101 #[.val (.ref r0), .val (.int p1)] [(.int (2 : Int32)), (.ref r0)])) rfl rfl (hb hby d4_101)
  have E_r0_c13 : Exa Z h13 r0 "com/example/mave/mave/engine/Choices" := E_r0_c11.wr W13
  have F_rep_c13 : Fld Z h13 r0 "com/example/mave/mave/engine/Choices" "replayed" "I" (.int rp) := F_rep_c11.other W13 (Or.inr (slot_ne (Or.inl (hw _ (List.mem_of_getElem? (i := 27) rfl))) (Or.inl (hw _ (List.mem_of_getElem? (i := 25) rfl))) (by decide) (t := .int) (t' := .int) (by decide) (by decide)))
  have F_taken_c13 : Fld Z h13 r0 "com/example/mave/mave/engine/Choices" "taken" "[I" (.ref b1) := F_taken_c11.other W13 (Or.inr (slot_ne (Or.inl (hw _ (List.mem_of_getElem? (i := 12) rfl))) (Or.inl (hw _ (List.mem_of_getElem? (i := 25) rfl))) (by decide) (t := (.array .int)) (t' := .int) (by decide) (by decide)))
  have F_alt_c13 : Fld Z h13 r0 "com/example/mave/mave/engine/Choices" "alternatives" "[I" (.ref b2) := F_alt_c11.other W13 (Or.inr (slot_ne (Or.inl (hw _ (List.mem_of_getElem? (i := 14) rfl))) (Or.inl (hw _ (List.mem_of_getElem? (i := 25) rfl))) (by decide) (t := (.array .int)) (t' := .int) (by decide) (by decide)))
  have V8_b1_c13 : Arv Z h13 b1 k1 .int (8 : Int32) [(.int t0), (.int (0 : Int32)), (.int t2), (.int (0 : Int32)), (.int (0 : Int32)), (.int (0 : Int32)), (.int (0 : Int32)), (.int (0 : Int32))] (.int (0 : Int32)) := V8_b1_c11.other W13 (Ne.symm ne_r0_b1)
  have V11_b2_c13 : Arv Z h13 b2 k2 .int (8 : Int32) [(.int u0), (.int p1), (.int u2), (.int (0 : Int32)), (.int (0 : Int32)), (.int (0 : Int32)), (.int (0 : Int32)), (.int (0 : Int32))] (.int (0 : Int32)) := V11_b2.other W13 (Ne.symm ne_r0_b2)
  have Fw13_made : Fld Z h13 r0 "com/example/mave/mave/engine/Choices" "made" "I" (.int (2 : Int32)) := F_made_c11.same W13
  have N13 := Fr.snoc X13 N11 gn_r0
  have Z13 : n0 ≤ h13.size := Nat.le_trans Z11 (Keep.of_wr W13).1
  refine own_go (G := T13.setTop (mkF m 104 #[.val (.ref r0), .val (.int p1)] [])) (st13) ?_
  refine own_go (G := T13.setTop (mkF m 105 #[.val (.ref r0), .val (.int p1)] [(.int (0 : Int32))])) (fun _ k => XS.iconst X13.here hx rfl (hb hby d4_104) k) ?_
  exact own_retI X13 hx Bd.returns (hb hby d4_105) Bd.notSynchronized (by decide) (by decide) (by rw [e13]; exact ⟨rfl, N13, Z13, ⟨gn_r0, E_r0_c13, Fw13_made, F_rep_c13, b1, b2, k1, k2, gn_b1, gn_b2, ne_r0_b1, ne_r0_b2, ne_b1_b2, F_taken_c13, F_alt_c13, V8_b1_c13, V11_b2_c13⟩⟩)
theorem ef_ch1r (m : MethodId) (r0 : Addr) (p1 : Int32) : entryFrame m #[(.ref r0), (.int p1)] 2 = mkF m 0 #[.val (.ref r0), .val (.int p1)] [] := by first | (simp [entryFrame, mkF, argsToLocals, Value.category]; done) | rfl
set_option maxRecDepth 65536 in
set_option maxHeartbeats 40000000 in
theorem ch1r (l : Launch) (Z : State) (a0 : Array Value) (hw : ∀ d ∈ tables_1, d.before a0 Z = true) (ws : List Jvm.Cond) (r0 : Addr) (p1 : Int32) (rp : Int32) (t0 : Int32) (t1 : Int32) (t2 : Int32) (u0 : Int32) (u1 : Int32) (u2 : Int32) (h0 : Heap) (n0 : Nat) (Z0 : n0 ≤ h0.size) (G : own_C Z h0 n0 r0 (1 : Int32) rp t0 t1 t2 u0 u1 u2) (hmr : (1 : Int32) < rp) :
    MetFree l (⟨"com/example/mave/mave/engine/Choices", "choose", "(I)I"⟩ : MethodName) (head1 (Jvm.Cond.code (⟨"com/example/mave/mave/engine/Choices", "choose", "(I)I"⟩ : MethodName) prog_8_method_3_code 2 (some .int) :: ws) ({ frames := 0, cells := 0, slots := 0, locals := 0 } : Room)) (fun a U => a = #[(.ref r0), (.int p1)] ∧ Z.Warmed39 U.vm ∧ U.heap = h0) (fun _ _ _ _ _ => True) (fun _ U o U' => ∃ v L, o = .returned v ∧ (own_QC Z r0 (2 : Int32) rp t0 t1 t2 u0 u1 u2 (some (.int t1)) n0) v U'.heap L ∧ FrameEnd U o U' L 0 0) := by
  refine MetFree.of_bodySF (plainFor_of_name pn4) hisR ?_
  intro p e s m args below meth c s₁ Bd hml0 hP hK
  obtain ⟨rfl, hZ, hh⟩ := hP
  have hx := Bd.exec
  have hby := Bd.bytes
  have hml : c.maxLocals = 2 := hml0
  have hown : s.vm.findClass "com/example/mave/mave/engine/Choices" = some m.cls := findClass_of_methodNamed Bd.named
  have hnm := (name_of_methodNamed Bd.named Bd.method).1
  have X0 : Stand p l e ({ frames := 0, cells := 0, slots := 0, locals := 0 } : Room) s m #[(.ref r0), (.int p1)] below meth c s₁ [] 0 0 := Stand.of_body Bd
  have e0 : s₁.heap = h0 := by rw [← hh, Bd.state]; rfl
  have N0 := Fr.nil n0
  obtain ⟨gn_r0, E_r0, F_made, F_rep, b1, b2, k1, k2, gn_b1, gn_b2, ne_r0_b1, ne_r0_b2, ne_b1_b2, F_taken, F_alt, V_b1, V_b2⟩ := G
  show own_Goes p e below (own_End s (own_QC Z r0 (2 : Int32) rp t0 t1 t2 u0 u1 u2 (some (.int t1)) n0) 0 0) _
  refine own_go (G := s₁.setTop (mkF m 0 #[.val (.ref r0), .val (.int p1)] [])) (fun t k => castTop (ef_ch1r m r0 p1) k) ?_
  refine own_go (G := s₁.setTop (mkF m 1 #[.val (.ref r0), .val (.int p1)] [(.ref r0)])) (fun _ k => XS.aloadN X0.here hx rfl (hb hby d4_0) rfl rfl k) ?_
  obtain ⟨T1, X1, e1, st1⟩ := getF X0 hx hZ hown (host := "") (Or.inl (hw _ (List.mem_of_getElem? (i := 24) rfl))) Via.refl e0 F_made (g := (mkF m 1 #[.val (.ref r0), .val (.int p1)] [(.ref r0)])) rfl rfl (hb hby d4_1)
  refine own_go (G := T1.setTop (mkF m 4 #[.val (.ref r0), .val (.int p1)] [(.int (1 : Int32))])) (st1) ?_
  refine own_go (G := T1.setTop (mkF m 5 #[.val (.ref r0), .val (.int p1)] [(.ref r0), (.int (1 : Int32))])) (fun _ k => XS.aloadN X1.here hx rfl (hb hby d4_4) rfl rfl k) ?_
  obtain ⟨T2, X2, e2, st2⟩ := getF X1 hx hZ hown (host := "") (Or.inl (hw _ (List.mem_of_getElem? (i := 26) rfl))) Via.refl e1 F_rep (g := (mkF m 5 #[.val (.ref r0), .val (.int p1)] [(.ref r0), (.int (1 : Int32))])) rfl rfl (hb hby d4_5)
  refine own_go (G := T2.setTop (mkF m 8 #[.val (.ref r0), .val (.int p1)] [(.int rp), (.int (1 : Int32))])) (st2) ?_
  refine own_go (G := T2.setTop (mkF m 11 #[.val (.ref r0), .val (.int p1)] [])) (fun _ k => XS.icmpNo X2.here hx rfl (hb hby d4_8) rfl (tlt (hmr : (1 : Int32) < rp)).2.1 k) ?_
  refine own_go (G := T2.setTop (mkF m 12 #[.val (.ref r0), .val (.int p1)] [(.ref r0)])) (fun _ k => XS.aloadN X2.here hx rfl (hb hby d4_11) rfl rfl k) ?_
  obtain ⟨T3, X3, e3, st3⟩ := getF X2 hx hZ hown (host := "") (Or.inl (hw _ (List.mem_of_getElem? (i := 11) rfl))) Via.refl e2 F_taken (g := (mkF m 12 #[.val (.ref r0), .val (.int p1)] [(.ref r0)])) rfl rfl (hb hby d4_12)
  refine own_go (G := T3.setTop (mkF m 15 #[.val (.ref r0), .val (.int p1)] [(.ref b1)])) (st3) ?_
  refine own_go (G := T3.setTop (mkF m 16 #[.val (.ref r0), .val (.int p1)] [(.ref r0), (.ref b1)])) (fun _ k => XS.aloadN X3.here hx rfl (hb hby d4_15) rfl rfl k) ?_
  refine own_go (G := T3.setTop (mkF m 17 #[.val (.ref r0), .val (.int p1)] [(.ref r0), (.ref r0), (.ref b1)])) (fun _ k => XS.dup X3.here hx rfl (hb hby d4_16) rfl rfl k) ?_
  obtain ⟨T4, X4, e4, st4⟩ := getF X3 hx hZ hown (host := "") (Or.inl (hw _ (List.mem_of_getElem? (i := 24) rfl))) Via.refl e3 F_made (g := (mkF m 17 #[.val (.ref r0), .val (.int p1)] [(.ref r0), (.ref r0), (.ref b1)])) rfl rfl (hb hby d4_17)
  refine own_go (G := T4.setTop (mkF m 20 #[.val (.ref r0), .val (.int p1)] [(.int (1 : Int32)), (.ref r0), (.ref b1)])) (st4) ?_
  refine own_go (G := T4.setTop (mkF m 21 #[.val (.ref r0), .val (.int p1)] [(.int (1 : Int32)), (.ref r0), (.int (1 : Int32)), (.ref b1)])) (fun _ k => XS.dupX1 X4.here hx rfl (hb hby d4_20) rfl rfl rfl k) ?_
  refine own_go (G := T4.setTop (mkF m 22 #[.val (.ref r0), .val (.int p1)] [(.int (1 : Int32)), (.int (1 : Int32)), (.ref r0), (.int (1 : Int32)), (.ref b1)])) (fun _ k => XS.iconst X4.here hx rfl (hb hby d4_21) k) ?_
  refine own_go (G := T4.setTop (mkF m 23 #[.val (.ref r0), .val (.int p1)] [(.int ((1 : Int32) + (1 : Int32))), (.ref r0), (.int (1 : Int32)), (.ref b1)])) (fun _ k => XS.iadd X4.here hx rfl (hb hby d4_22) rfl k) ?_
  rw [show ((1 : Int32) + (1 : Int32)) = (2 : Int32) from by decide]
  obtain ⟨T5, h5, X5, e5, W5, st5⟩ := putF X4 hx hZ hown (host := "") (Or.inl (hw _ (List.mem_of_getElem? (i := 24) rfl))) Via.refl e4 F_made E_r0 (Or.inl (hw _ (List.mem_of_getElem? (i := 25) rfl))) (hw _ (List.mem_of_getElem? (i := 2) rfl)) (ty := .int) (by decide) rfl rfl (g := (mkF m 23 #[.val (.ref r0), .val (.int p1)] [(.int (2 : Int32)), (.ref r0), (.int (1 : Int32)), (.ref b1)])) rfl rfl (hb hby d4_23)
  have E_r0_c5 : Exa Z h5 r0 "com/example/mave/mave/engine/Choices" := E_r0.wr W5
  have F_rep_c5 : Fld Z h5 r0 "com/example/mave/mave/engine/Choices" "replayed" "I" (.int rp) := F_rep.other W5 (Or.inr (slot_ne (Or.inl (hw _ (List.mem_of_getElem? (i := 27) rfl))) (Or.inl (hw _ (List.mem_of_getElem? (i := 25) rfl))) (by decide) (t := .int) (t' := .int) (by decide) (by decide)))
  have F_taken_c5 : Fld Z h5 r0 "com/example/mave/mave/engine/Choices" "taken" "[I" (.ref b1) := F_taken.other W5 (Or.inr (slot_ne (Or.inl (hw _ (List.mem_of_getElem? (i := 12) rfl))) (Or.inl (hw _ (List.mem_of_getElem? (i := 25) rfl))) (by decide) (t := (.array .int)) (t' := .int) (by decide) (by decide)))
  have F_alt_c5 : Fld Z h5 r0 "com/example/mave/mave/engine/Choices" "alternatives" "[I" (.ref b2) := F_alt.other W5 (Or.inr (slot_ne (Or.inl (hw _ (List.mem_of_getElem? (i := 14) rfl))) (Or.inl (hw _ (List.mem_of_getElem? (i := 25) rfl))) (by decide) (t := (.array .int)) (t' := .int) (by decide) (by decide)))
  have V_b1_c5 : Arv Z h5 b1 k1 .int (8 : Int32) [(.int t0), (.int t1), (.int t2), (.int (0 : Int32)), (.int (0 : Int32)), (.int (0 : Int32)), (.int (0 : Int32)), (.int (0 : Int32))] (.int (0 : Int32)) := V_b1.other W5 (Ne.symm ne_r0_b1)
  have V_b2_c5 : Arv Z h5 b2 k2 .int (8 : Int32) [(.int u0), (.int u1), (.int u2), (.int (0 : Int32)), (.int (0 : Int32)), (.int (0 : Int32)), (.int (0 : Int32)), (.int (0 : Int32))] (.int (0 : Int32)) := V_b2.other W5 (Ne.symm ne_r0_b2)
  have Fw5_made : Fld Z h5 r0 "com/example/mave/mave/engine/Choices" "made" "I" (.int (2 : Int32)) := F_made.same W5
  have N5 := Fr.snoc X5 N0 gn_r0
  have Z5 : n0 ≤ h5.size := Nat.le_trans Z0 (Keep.of_wr W5).1
  refine own_go (G := T5.setTop (mkF m 26 #[.val (.ref r0), .val (.int p1)] [(.int (1 : Int32)), (.ref b1)])) (st5) ?_
  obtain ⟨cl6, Ar6, qk6, S6, N6_, Ha6, G6⟩ := id V_b1_c5
  have hin6 : ¬ ((1 : Int32) < 0 ∨ cl6.slots.size ≤ ((1 : Int32)).toNatClampNeg) := inb_of S6 ⟨by decide, by decide⟩
  have hat6 : cl6.slots[((1 : Int32)).toNatClampNeg]? = some (.int t1) := Ha6.at hin6 rfl
  refine own_go (G := T5.setTop (mkF m 27 #[.val (.ref r0), .val (.int p1)] [(.int t1)])) (X5.iaload hx (j := (1 : Int32)) (v := (.int t1)) (by rw [e5]; exact Ar6.1) (State.isArrayOf_alike hZ.alike Ar6.2.1) Ar6.2.2 hin6 hat6 (g := (mkF m 26 #[.val (.ref r0), .val (.int p1)] [(.int (1 : Int32)), (.ref b1)])) rfl rfl (hb hby d4_26)) ?_
  exact own_retI X5 hx Bd.returns (hb hby d4_27) Bd.notSynchronized (by decide) (by decide) (by rw [e5]; exact ⟨rfl, N5, Z5, ⟨gn_r0, E_r0_c5, Fw5_made, F_rep_c5, b1, b2, k1, k2, gn_b1, gn_b2, ne_r0_b1, ne_r0_b2, ne_b1_b2, F_taken_c5, F_alt_c5, V_b1_c5, V_b2_c5⟩⟩)
theorem ef_ch2f (m : MethodId) (r0 : Addr) (p1 : Int32) : entryFrame m #[(.ref r0), (.int p1)] 2 = mkF m 0 #[.val (.ref r0), .val (.int p1)] [] := by first | (simp [entryFrame, mkF, argsToLocals, Value.category]; done) | rfl
set_option maxRecDepth 65536 in
set_option maxHeartbeats 40000000 in
theorem ch2f (l : Launch) (Z : State) (a0 : Array Value) (hw : ∀ d ∈ tables_1, d.before a0 Z = true) (ws : List Jvm.Cond) (r0 : Addr) (p1 : Int32) (rp : Int32) (t0 : Int32) (t1 : Int32) (t2 : Int32) (u0 : Int32) (u1 : Int32) (u2 : Int32) (h0 : Heap) (n0 : Nat) (Z0 : n0 ≤ h0.size) (G : own_C Z h0 n0 r0 (2 : Int32) rp t0 t1 t2 u0 u1 u2) (hmr : ¬ ((2 : Int32) < rp)) :
    MetFree l (⟨"com/example/mave/mave/engine/Choices", "choose", "(I)I"⟩ : MethodName) (head1 (Jvm.Cond.code (⟨"com/example/mave/mave/engine/Choices", "choose", "(I)I"⟩ : MethodName) prog_8_method_3_code 2 (some .int) :: ws) ({ frames := 0, cells := 0, slots := 0, locals := 0 } : Room)) (fun a U => a = #[(.ref r0), (.int p1)] ∧ Z.Warmed39 U.vm ∧ U.heap = h0) (fun _ _ _ _ _ => True) (fun _ U o U' => ∃ v L, o = .returned v ∧ (own_QC Z r0 (3 : Int32) rp t0 t1 (0 : Int32) u0 u1 p1 (some (.int (0 : Int32))) n0) v U'.heap L ∧ FrameEnd U o U' L 0 0) := by
  refine MetFree.of_bodySF (plainFor_of_name pn4) hisR ?_
  intro p e s m args below meth c s₁ Bd hml0 hP hK
  obtain ⟨rfl, hZ, hh⟩ := hP
  have hx := Bd.exec
  have hby := Bd.bytes
  have hml : c.maxLocals = 2 := hml0
  have hown : s.vm.findClass "com/example/mave/mave/engine/Choices" = some m.cls := findClass_of_methodNamed Bd.named
  have hnm := (name_of_methodNamed Bd.named Bd.method).1
  have X0 : Stand p l e ({ frames := 0, cells := 0, slots := 0, locals := 0 } : Room) s m #[(.ref r0), (.int p1)] below meth c s₁ [] 0 0 := Stand.of_body Bd
  have e0 : s₁.heap = h0 := by rw [← hh, Bd.state]; rfl
  have N0 := Fr.nil n0
  obtain ⟨gn_r0, E_r0, F_made, F_rep, b1, b2, k1, k2, gn_b1, gn_b2, ne_r0_b1, ne_r0_b2, ne_b1_b2, F_taken, F_alt, V_b1, V_b2⟩ := G
  show own_Goes p e below (own_End s (own_QC Z r0 (3 : Int32) rp t0 t1 (0 : Int32) u0 u1 p1 (some (.int (0 : Int32))) n0) 0 0) _
  refine own_go (G := s₁.setTop (mkF m 0 #[.val (.ref r0), .val (.int p1)] [])) (fun t k => castTop (ef_ch2f m r0 p1) k) ?_
  refine own_go (G := s₁.setTop (mkF m 1 #[.val (.ref r0), .val (.int p1)] [(.ref r0)])) (fun _ k => XS.aloadN X0.here hx rfl (hb hby d4_0) rfl rfl k) ?_
  obtain ⟨T1, X1, e1, st1⟩ := getF X0 hx hZ hown (host := "") (Or.inl (hw _ (List.mem_of_getElem? (i := 24) rfl))) Via.refl e0 F_made (g := (mkF m 1 #[.val (.ref r0), .val (.int p1)] [(.ref r0)])) rfl rfl (hb hby d4_1)
  refine own_go (G := T1.setTop (mkF m 4 #[.val (.ref r0), .val (.int p1)] [(.int (2 : Int32))])) (st1) ?_
  refine own_go (G := T1.setTop (mkF m 5 #[.val (.ref r0), .val (.int p1)] [(.ref r0), (.int (2 : Int32))])) (fun _ k => XS.aloadN X1.here hx rfl (hb hby d4_4) rfl rfl k) ?_
  obtain ⟨T2, X2, e2, st2⟩ := getF X1 hx hZ hown (host := "") (Or.inl (hw _ (List.mem_of_getElem? (i := 26) rfl))) Via.refl e1 F_rep (g := (mkF m 5 #[.val (.ref r0), .val (.int p1)] [(.ref r0), (.int (2 : Int32))])) rfl rfl (hb hby d4_5)
  refine own_go (G := T2.setTop (mkF m 8 #[.val (.ref r0), .val (.int p1)] [(.int rp), (.int (2 : Int32))])) (st2) ?_
  refine own_go (G := T2.setTop (mkF m 28 #[.val (.ref r0), .val (.int p1)] [])) (fun _ k => XS.icmpYes X2.here hx rfl (pc0 := 8) (pc' := 28) rfl (hb hby d4_8) rfl (flt (hmr : ¬ ((2 : Int32) < rp))).2.1 (by decide) (by decide) k) ?_
  refine own_go (G := T2.setTop (mkF m 29 #[.val (.ref r0), .val (.int p1)] [(.ref r0)])) (fun _ k => XS.aloadN X2.here hx rfl (hb hby d4_28) rfl rfl k) ?_
  obtain ⟨T3, X3, e3, st3⟩ := getF X2 hx hZ hown (host := "") (Or.inl (hw _ (List.mem_of_getElem? (i := 24) rfl))) Via.refl e2 F_made (g := (mkF m 29 #[.val (.ref r0), .val (.int p1)] [(.ref r0)])) rfl rfl (hb hby d4_29)
  refine own_go (G := T3.setTop (mkF m 32 #[.val (.ref r0), .val (.int p1)] [(.int (2 : Int32))])) (st3) ?_
  refine own_go (G := T3.setTop (mkF m 33 #[.val (.ref r0), .val (.int p1)] [(.ref r0), (.int (2 : Int32))])) (fun _ k => XS.aloadN X3.here hx rfl (hb hby d4_32) rfl rfl k) ?_
  obtain ⟨T4, X4, e4, st4⟩ := getF X3 hx hZ hown (host := "") (Or.inl (hw _ (List.mem_of_getElem? (i := 11) rfl))) Via.refl e3 F_taken (g := (mkF m 33 #[.val (.ref r0), .val (.int p1)] [(.ref r0), (.int (2 : Int32))])) rfl rfl (hb hby d4_33)
  refine own_go (G := T4.setTop (mkF m 36 #[.val (.ref r0), .val (.int p1)] [(.ref b1), (.int (2 : Int32))])) (st4) ?_
  obtain ⟨cl5, Ar5, -, S5, N5_, -, -⟩ := id V_b1
  refine own_go (G := T4.setTop (mkF m 37 #[.val (.ref r0), .val (.int p1)] [(.int (8 : Int32)), (.int (2 : Int32))])) (fun t k => X4.arraylength hx (by rw [e4]; exact Ar5.1) (State.isArrayOf_alike hZ.alike Ar5.2.1) (g := (mkF m 36 #[.val (.ref r0), .val (.int p1)] [(.ref b1), (.int (2 : Int32))])) rfl rfl (hb hby d4_36) t (by rw [len_of S5 N5_]; exact k)) ?_
  refine own_go (G := T4.setTop (mkF m 74 #[.val (.ref r0), .val (.int p1)] [])) (fun _ k => XS.icmpYes X4.here hx rfl (pc0 := 37) (pc' := 74) rfl (hb hby d4_37) rfl (feq (by decide : ¬ ((2 : Int32) = (8 : Int32)))).2 (by decide) (by decide) k) ?_
  refine own_go (G := T4.setTop (mkF m 75 #[.val (.ref r0), .val (.int p1)] [(.ref r0)])) (fun _ k => XS.aloadN X4.here hx rfl (hb hby d4_74) rfl rfl k) ?_
  obtain ⟨T6, X6, e6, st6⟩ := getF X4 hx hZ hown (host := "") (Or.inl (hw _ (List.mem_of_getElem? (i := 11) rfl))) Via.refl e4 F_taken (g := (mkF m 75 #[.val (.ref r0), .val (.int p1)] [(.ref r0)])) rfl rfl (hb hby d4_75)
  refine own_go (G := T6.setTop (mkF m 78 #[.val (.ref r0), .val (.int p1)] [(.ref b1)])) (st6) ?_
  refine own_go (G := T6.setTop (mkF m 79 #[.val (.ref r0), .val (.int p1)] [(.ref r0), (.ref b1)])) (fun _ k => XS.aloadN X6.here hx rfl (hb hby d4_78) rfl rfl k) ?_
  obtain ⟨T7, X7, e7, st7⟩ := getF X6 hx hZ hown (host := "") (Or.inl (hw _ (List.mem_of_getElem? (i := 24) rfl))) Via.refl e6 F_made (g := (mkF m 79 #[.val (.ref r0), .val (.int p1)] [(.ref r0), (.ref b1)])) rfl rfl (hb hby d4_79)
  refine own_go (G := T7.setTop (mkF m 82 #[.val (.ref r0), .val (.int p1)] [(.int (2 : Int32)), (.ref b1)])) (st7) ?_
  refine own_go (G := T7.setTop (mkF m 83 #[.val (.ref r0), .val (.int p1)] [(.int (0 : Int32)), (.int (2 : Int32)), (.ref b1)])) (fun _ k => XS.iconst X7.here hx rfl (hb hby d4_82) k) ?_
  obtain ⟨cl8, Ar8, qk8, S8, N8_, Ha8, G8⟩ := id V_b1
  have hin8 : ¬ ((2 : Int32) < 0 ∨ cl8.slots.size ≤ ((2 : Int32)).toNatClampNeg) := inb_of S8 ⟨by decide, by decide⟩
  obtain ⟨T8, h8, X8, e8, W8, st8⟩ := stI X7 hx hZ e7 Ar8 (j := (2 : Int32)) hin8 (g := (mkF m 83 #[.val (.ref r0), .val (.int p1)] [(.int (0 : Int32)), (.int (2 : Int32)), (.ref b1)])) rfl rfl (hb hby d4_83)
  have V8_b1 : Arv Z h8 b1 k1 .int (8 : Int32) [(.int t0), (.int t1), (.int (0 : Int32)), (.int (0 : Int32)), (.int (0 : Int32)), (.int (0 : Int32)), (.int (0 : Int32)), (.int (0 : Int32))] (.int (0 : Int32)) := Arv.set Ar8 qk8 S8 N8_ Ha8 G8 rfl W8 2 rfl (Nat.le_of_ble_eq_true rfl)
  have E_r0_c8 : Exa Z h8 r0 "com/example/mave/mave/engine/Choices" := E_r0.wr W8
  have F_made_c8 : Fld Z h8 r0 "com/example/mave/mave/engine/Choices" "made" "I" (.int (2 : Int32)) := F_made.other W8 (Or.inl ne_r0_b1)
  have F_rep_c8 : Fld Z h8 r0 "com/example/mave/mave/engine/Choices" "replayed" "I" (.int rp) := F_rep.other W8 (Or.inl ne_r0_b1)
  have F_taken_c8 : Fld Z h8 r0 "com/example/mave/mave/engine/Choices" "taken" "[I" (.ref b1) := F_taken.other W8 (Or.inl ne_r0_b1)
  have F_alt_c8 : Fld Z h8 r0 "com/example/mave/mave/engine/Choices" "alternatives" "[I" (.ref b2) := F_alt.other W8 (Or.inl ne_r0_b1)
  have V_b2_c8 : Arv Z h8 b2 k2 .int (8 : Int32) [(.int u0), (.int u1), (.int u2), (.int (0 : Int32)), (.int (0 : Int32)), (.int (0 : Int32)), (.int (0 : Int32)), (.int (0 : Int32))] (.int (0 : Int32)) := V_b2.other W8 (Ne.symm ne_b1_b2)
  have N8 := Fr.snoc X8 N0 gn_b1
  have Z8 : n0 ≤ h8.size := Nat.le_trans Z0 (Keep.of_wr W8).1
  refine own_go (G := T8.setTop (mkF m 84 #[.val (.ref r0), .val (.int p1)] [])) (st8) ?_
  refine own_go (G := T8.setTop (mkF m 85 #[.val (.ref r0), .val (.int p1)] [(.ref r0)])) (fun _ k => XS.aloadN X8.here hx rfl (hb hby d4_84) rfl rfl k) ?_
  obtain ⟨T9, X9, e9, st9⟩ := getF X8 hx hZ hown (host := "") (Or.inl (hw _ (List.mem_of_getElem? (i := 13) rfl))) Via.refl e8 F_alt_c8 (g := (mkF m 85 #[.val (.ref r0), .val (.int p1)] [(.ref r0)])) rfl rfl (hb hby d4_85)
  refine own_go (G := T9.setTop (mkF m 88 #[.val (.ref r0), .val (.int p1)] [(.ref b2)])) (st9) ?_
  refine own_go (G := T9.setTop (mkF m 89 #[.val (.ref r0), .val (.int p1)] [(.ref r0), (.ref b2)])) (fun _ k => XS.aloadN X9.here hx rfl (hb hby d4_88) rfl rfl k) ?_
  obtain ⟨T10, X10, e10, st10⟩ := getF X9 hx hZ hown (host := "") (Or.inl (hw _ (List.mem_of_getElem? (i := 24) rfl))) Via.refl e9 F_made_c8 (g := (mkF m 89 #[.val (.ref r0), .val (.int p1)] [(.ref r0), (.ref b2)])) rfl rfl (hb hby d4_89)
  refine own_go (G := T10.setTop (mkF m 92 #[.val (.ref r0), .val (.int p1)] [(.int (2 : Int32)), (.ref b2)])) (st10) ?_
  refine own_go (G := T10.setTop (mkF m 93 #[.val (.ref r0), .val (.int p1)] [(.int p1), (.int (2 : Int32)), (.ref b2)])) (fun _ k => XS.iloadN X10.here hx rfl (hb hby d4_92) rfl k) ?_
  obtain ⟨cl11, Ar11, qk11, S11, N11_, Ha11, G11⟩ := id V_b2_c8
  have hin11 : ¬ ((2 : Int32) < 0 ∨ cl11.slots.size ≤ ((2 : Int32)).toNatClampNeg) := inb_of S11 ⟨by decide, by decide⟩
  obtain ⟨T11, h11, X11, e11, W11, st11⟩ := stI X10 hx hZ e10 Ar11 (j := (2 : Int32)) hin11 (g := (mkF m 93 #[.val (.ref r0), .val (.int p1)] [(.int p1), (.int (2 : Int32)), (.ref b2)])) rfl rfl (hb hby d4_93)
  have V11_b2 : Arv Z h11 b2 k2 .int (8 : Int32) [(.int u0), (.int u1), (.int p1), (.int (0 : Int32)), (.int (0 : Int32)), (.int (0 : Int32)), (.int (0 : Int32)), (.int (0 : Int32))] (.int (0 : Int32)) := Arv.set Ar11 qk11 S11 N11_ Ha11 G11 rfl W11 2 rfl (Nat.le_of_ble_eq_true rfl)
  have E_r0_c11 : Exa Z h11 r0 "com/example/mave/mave/engine/Choices" := E_r0_c8.wr W11
  have F_made_c11 : Fld Z h11 r0 "com/example/mave/mave/engine/Choices" "made" "I" (.int (2 : Int32)) := F_made_c8.other W11 (Or.inl ne_r0_b2)
  have F_rep_c11 : Fld Z h11 r0 "com/example/mave/mave/engine/Choices" "replayed" "I" (.int rp) := F_rep_c8.other W11 (Or.inl ne_r0_b2)
  have F_taken_c11 : Fld Z h11 r0 "com/example/mave/mave/engine/Choices" "taken" "[I" (.ref b1) := F_taken_c8.other W11 (Or.inl ne_r0_b2)
  have F_alt_c11 : Fld Z h11 r0 "com/example/mave/mave/engine/Choices" "alternatives" "[I" (.ref b2) := F_alt_c8.other W11 (Or.inl ne_r0_b2)
  have V8_b1_c11 : Arv Z h11 b1 k1 .int (8 : Int32) [(.int t0), (.int t1), (.int (0 : Int32)), (.int (0 : Int32)), (.int (0 : Int32)), (.int (0 : Int32)), (.int (0 : Int32)), (.int (0 : Int32))] (.int (0 : Int32)) := V8_b1.other W11 ne_b1_b2
  have N11 := Fr.snoc X11 N8 gn_b2
  have Z11 : n0 ≤ h11.size := Nat.le_trans Z8 (Keep.of_wr W11).1
  refine own_go (G := T11.setTop (mkF m 94 #[.val (.ref r0), .val (.int p1)] [])) (st11) ?_
  refine own_go (G := T11.setTop (mkF m 95 #[.val (.ref r0), .val (.int p1)] [(.ref r0)])) (fun _ k => XS.aloadN X11.here hx rfl (hb hby d4_94) rfl rfl k) ?_
  refine own_go (G := T11.setTop (mkF m 96 #[.val (.ref r0), .val (.int p1)] [(.ref r0), (.ref r0)])) (fun _ k => XS.dup X11.here hx rfl (hb hby d4_95) rfl rfl k) ?_
  obtain ⟨T12, X12, e12, st12⟩ := getF X11 hx hZ hown (host := "") (Or.inl (hw _ (List.mem_of_getElem? (i := 24) rfl))) Via.refl e11 F_made_c11 (g := (mkF m 96 #[.val (.ref r0), .val (.int p1)] [(.ref r0), (.ref r0)])) rfl rfl (hb hby d4_96)
  refine own_go (G := T12.setTop (mkF m 99 #[.val (.ref r0), .val (.int p1)] [(.int (2 : Int32)), (.ref r0)])) (st12) ?_
  refine own_go (G := T12.setTop (mkF m 100 #[.val (.ref r0), .val (.int p1)] [(.int (1 : Int32)), (.int (2 : Int32)), (.ref r0)])) (fun _ k => XS.iconst X12.here hx rfl (hb hby d4_99) k) ?_
  refine own_go (G := T12.setTop (mkF m 101 #[.val (.ref r0), .val (.int p1)] [(.int ((2 : Int32) + (1 : Int32))), (.ref r0)])) (fun _ k => XS.iadd X12.here hx rfl (hb hby d4_100) rfl k) ?_
  rw [show ((2 : Int32) + (1 : Int32)) = (3 : Int32) from by decide]
  obtain ⟨T13, h13, X13, e13, W13, st13⟩ := putF X12 hx hZ hown (host := "") (Or.inl (hw _ (List.mem_of_getElem? (i := 24) rfl))) Via.refl e12 F_made_c11 E_r0_c11 (Or.inl (hw _ (List.mem_of_getElem? (i := 25) rfl))) (hw _ (List.mem_of_getElem? (i := 2) rfl)) (ty := .int) (by decide) rfl rfl (g := (mkF m 101 #[.val (.ref r0), .val (.int p1)] [(.int (3 : Int32)), (.ref r0)])) rfl rfl (hb hby d4_101)
  have E_r0_c13 : Exa Z h13 r0 "com/example/mave/mave/engine/Choices" := E_r0_c11.wr W13
  have F_rep_c13 : Fld Z h13 r0 "com/example/mave/mave/engine/Choices" "replayed" "I" (.int rp) := F_rep_c11.other W13 (Or.inr (slot_ne (Or.inl (hw _ (List.mem_of_getElem? (i := 27) rfl))) (Or.inl (hw _ (List.mem_of_getElem? (i := 25) rfl))) (by decide) (t := .int) (t' := .int) (by decide) (by decide)))
  have F_taken_c13 : Fld Z h13 r0 "com/example/mave/mave/engine/Choices" "taken" "[I" (.ref b1) := F_taken_c11.other W13 (Or.inr (slot_ne (Or.inl (hw _ (List.mem_of_getElem? (i := 12) rfl))) (Or.inl (hw _ (List.mem_of_getElem? (i := 25) rfl))) (by decide) (t := (.array .int)) (t' := .int) (by decide) (by decide)))
  have F_alt_c13 : Fld Z h13 r0 "com/example/mave/mave/engine/Choices" "alternatives" "[I" (.ref b2) := F_alt_c11.other W13 (Or.inr (slot_ne (Or.inl (hw _ (List.mem_of_getElem? (i := 14) rfl))) (Or.inl (hw _ (List.mem_of_getElem? (i := 25) rfl))) (by decide) (t := (.array .int)) (t' := .int) (by decide) (by decide)))
  have V8_b1_c13 : Arv Z h13 b1 k1 .int (8 : Int32) [(.int t0), (.int t1), (.int (0 : Int32)), (.int (0 : Int32)), (.int (0 : Int32)), (.int (0 : Int32)), (.int (0 : Int32)), (.int (0 : Int32))] (.int (0 : Int32)) := V8_b1_c11.other W13 (Ne.symm ne_r0_b1)
  have V11_b2_c13 : Arv Z h13 b2 k2 .int (8 : Int32) [(.int u0), (.int u1), (.int p1), (.int (0 : Int32)), (.int (0 : Int32)), (.int (0 : Int32)), (.int (0 : Int32)), (.int (0 : Int32))] (.int (0 : Int32)) := V11_b2.other W13 (Ne.symm ne_r0_b2)
  have Fw13_made : Fld Z h13 r0 "com/example/mave/mave/engine/Choices" "made" "I" (.int (3 : Int32)) := F_made_c11.same W13
  have N13 := Fr.snoc X13 N11 gn_r0
  have Z13 : n0 ≤ h13.size := Nat.le_trans Z11 (Keep.of_wr W13).1
  refine own_go (G := T13.setTop (mkF m 104 #[.val (.ref r0), .val (.int p1)] [])) (st13) ?_
  refine own_go (G := T13.setTop (mkF m 105 #[.val (.ref r0), .val (.int p1)] [(.int (0 : Int32))])) (fun _ k => XS.iconst X13.here hx rfl (hb hby d4_104) k) ?_
  exact own_retI X13 hx Bd.returns (hb hby d4_105) Bd.notSynchronized (by decide) (by decide) (by rw [e13]; exact ⟨rfl, N13, Z13, ⟨gn_r0, E_r0_c13, Fw13_made, F_rep_c13, b1, b2, k1, k2, gn_b1, gn_b2, ne_r0_b1, ne_r0_b2, ne_b1_b2, F_taken_c13, F_alt_c13, V8_b1_c13, V11_b2_c13⟩⟩)
theorem ef_ch2r (m : MethodId) (r0 : Addr) (p1 : Int32) : entryFrame m #[(.ref r0), (.int p1)] 2 = mkF m 0 #[.val (.ref r0), .val (.int p1)] [] := by first | (simp [entryFrame, mkF, argsToLocals, Value.category]; done) | rfl
set_option maxRecDepth 65536 in
set_option maxHeartbeats 40000000 in
theorem ch2r (l : Launch) (Z : State) (a0 : Array Value) (hw : ∀ d ∈ tables_1, d.before a0 Z = true) (ws : List Jvm.Cond) (r0 : Addr) (p1 : Int32) (rp : Int32) (t0 : Int32) (t1 : Int32) (t2 : Int32) (u0 : Int32) (u1 : Int32) (u2 : Int32) (h0 : Heap) (n0 : Nat) (Z0 : n0 ≤ h0.size) (G : own_C Z h0 n0 r0 (2 : Int32) rp t0 t1 t2 u0 u1 u2) (hmr : (2 : Int32) < rp) :
    MetFree l (⟨"com/example/mave/mave/engine/Choices", "choose", "(I)I"⟩ : MethodName) (head1 (Jvm.Cond.code (⟨"com/example/mave/mave/engine/Choices", "choose", "(I)I"⟩ : MethodName) prog_8_method_3_code 2 (some .int) :: ws) ({ frames := 0, cells := 0, slots := 0, locals := 0 } : Room)) (fun a U => a = #[(.ref r0), (.int p1)] ∧ Z.Warmed39 U.vm ∧ U.heap = h0) (fun _ _ _ _ _ => True) (fun _ U o U' => ∃ v L, o = .returned v ∧ (own_QC Z r0 (3 : Int32) rp t0 t1 t2 u0 u1 u2 (some (.int t2)) n0) v U'.heap L ∧ FrameEnd U o U' L 0 0) := by
  refine MetFree.of_bodySF (plainFor_of_name pn4) hisR ?_
  intro p e s m args below meth c s₁ Bd hml0 hP hK
  obtain ⟨rfl, hZ, hh⟩ := hP
  have hx := Bd.exec
  have hby := Bd.bytes
  have hml : c.maxLocals = 2 := hml0
  have hown : s.vm.findClass "com/example/mave/mave/engine/Choices" = some m.cls := findClass_of_methodNamed Bd.named
  have hnm := (name_of_methodNamed Bd.named Bd.method).1
  have X0 : Stand p l e ({ frames := 0, cells := 0, slots := 0, locals := 0 } : Room) s m #[(.ref r0), (.int p1)] below meth c s₁ [] 0 0 := Stand.of_body Bd
  have e0 : s₁.heap = h0 := by rw [← hh, Bd.state]; rfl
  have N0 := Fr.nil n0
  obtain ⟨gn_r0, E_r0, F_made, F_rep, b1, b2, k1, k2, gn_b1, gn_b2, ne_r0_b1, ne_r0_b2, ne_b1_b2, F_taken, F_alt, V_b1, V_b2⟩ := G
  show own_Goes p e below (own_End s (own_QC Z r0 (3 : Int32) rp t0 t1 t2 u0 u1 u2 (some (.int t2)) n0) 0 0) _
  refine own_go (G := s₁.setTop (mkF m 0 #[.val (.ref r0), .val (.int p1)] [])) (fun t k => castTop (ef_ch2r m r0 p1) k) ?_
  refine own_go (G := s₁.setTop (mkF m 1 #[.val (.ref r0), .val (.int p1)] [(.ref r0)])) (fun _ k => XS.aloadN X0.here hx rfl (hb hby d4_0) rfl rfl k) ?_
  obtain ⟨T1, X1, e1, st1⟩ := getF X0 hx hZ hown (host := "") (Or.inl (hw _ (List.mem_of_getElem? (i := 24) rfl))) Via.refl e0 F_made (g := (mkF m 1 #[.val (.ref r0), .val (.int p1)] [(.ref r0)])) rfl rfl (hb hby d4_1)
  refine own_go (G := T1.setTop (mkF m 4 #[.val (.ref r0), .val (.int p1)] [(.int (2 : Int32))])) (st1) ?_
  refine own_go (G := T1.setTop (mkF m 5 #[.val (.ref r0), .val (.int p1)] [(.ref r0), (.int (2 : Int32))])) (fun _ k => XS.aloadN X1.here hx rfl (hb hby d4_4) rfl rfl k) ?_
  obtain ⟨T2, X2, e2, st2⟩ := getF X1 hx hZ hown (host := "") (Or.inl (hw _ (List.mem_of_getElem? (i := 26) rfl))) Via.refl e1 F_rep (g := (mkF m 5 #[.val (.ref r0), .val (.int p1)] [(.ref r0), (.int (2 : Int32))])) rfl rfl (hb hby d4_5)
  refine own_go (G := T2.setTop (mkF m 8 #[.val (.ref r0), .val (.int p1)] [(.int rp), (.int (2 : Int32))])) (st2) ?_
  refine own_go (G := T2.setTop (mkF m 11 #[.val (.ref r0), .val (.int p1)] [])) (fun _ k => XS.icmpNo X2.here hx rfl (hb hby d4_8) rfl (tlt (hmr : (2 : Int32) < rp)).2.1 k) ?_
  refine own_go (G := T2.setTop (mkF m 12 #[.val (.ref r0), .val (.int p1)] [(.ref r0)])) (fun _ k => XS.aloadN X2.here hx rfl (hb hby d4_11) rfl rfl k) ?_
  obtain ⟨T3, X3, e3, st3⟩ := getF X2 hx hZ hown (host := "") (Or.inl (hw _ (List.mem_of_getElem? (i := 11) rfl))) Via.refl e2 F_taken (g := (mkF m 12 #[.val (.ref r0), .val (.int p1)] [(.ref r0)])) rfl rfl (hb hby d4_12)
  refine own_go (G := T3.setTop (mkF m 15 #[.val (.ref r0), .val (.int p1)] [(.ref b1)])) (st3) ?_
  refine own_go (G := T3.setTop (mkF m 16 #[.val (.ref r0), .val (.int p1)] [(.ref r0), (.ref b1)])) (fun _ k => XS.aloadN X3.here hx rfl (hb hby d4_15) rfl rfl k) ?_
  refine own_go (G := T3.setTop (mkF m 17 #[.val (.ref r0), .val (.int p1)] [(.ref r0), (.ref r0), (.ref b1)])) (fun _ k => XS.dup X3.here hx rfl (hb hby d4_16) rfl rfl k) ?_
  obtain ⟨T4, X4, e4, st4⟩ := getF X3 hx hZ hown (host := "") (Or.inl (hw _ (List.mem_of_getElem? (i := 24) rfl))) Via.refl e3 F_made (g := (mkF m 17 #[.val (.ref r0), .val (.int p1)] [(.ref r0), (.ref r0), (.ref b1)])) rfl rfl (hb hby d4_17)
  refine own_go (G := T4.setTop (mkF m 20 #[.val (.ref r0), .val (.int p1)] [(.int (2 : Int32)), (.ref r0), (.ref b1)])) (st4) ?_
  refine own_go (G := T4.setTop (mkF m 21 #[.val (.ref r0), .val (.int p1)] [(.int (2 : Int32)), (.ref r0), (.int (2 : Int32)), (.ref b1)])) (fun _ k => XS.dupX1 X4.here hx rfl (hb hby d4_20) rfl rfl rfl k) ?_
  refine own_go (G := T4.setTop (mkF m 22 #[.val (.ref r0), .val (.int p1)] [(.int (1 : Int32)), (.int (2 : Int32)), (.ref r0), (.int (2 : Int32)), (.ref b1)])) (fun _ k => XS.iconst X4.here hx rfl (hb hby d4_21) k) ?_
  refine own_go (G := T4.setTop (mkF m 23 #[.val (.ref r0), .val (.int p1)] [(.int ((2 : Int32) + (1 : Int32))), (.ref r0), (.int (2 : Int32)), (.ref b1)])) (fun _ k => XS.iadd X4.here hx rfl (hb hby d4_22) rfl k) ?_
  rw [show ((2 : Int32) + (1 : Int32)) = (3 : Int32) from by decide]
  obtain ⟨T5, h5, X5, e5, W5, st5⟩ := putF X4 hx hZ hown (host := "") (Or.inl (hw _ (List.mem_of_getElem? (i := 24) rfl))) Via.refl e4 F_made E_r0 (Or.inl (hw _ (List.mem_of_getElem? (i := 25) rfl))) (hw _ (List.mem_of_getElem? (i := 2) rfl)) (ty := .int) (by decide) rfl rfl (g := (mkF m 23 #[.val (.ref r0), .val (.int p1)] [(.int (3 : Int32)), (.ref r0), (.int (2 : Int32)), (.ref b1)])) rfl rfl (hb hby d4_23)
  have E_r0_c5 : Exa Z h5 r0 "com/example/mave/mave/engine/Choices" := E_r0.wr W5
  have F_rep_c5 : Fld Z h5 r0 "com/example/mave/mave/engine/Choices" "replayed" "I" (.int rp) := F_rep.other W5 (Or.inr (slot_ne (Or.inl (hw _ (List.mem_of_getElem? (i := 27) rfl))) (Or.inl (hw _ (List.mem_of_getElem? (i := 25) rfl))) (by decide) (t := .int) (t' := .int) (by decide) (by decide)))
  have F_taken_c5 : Fld Z h5 r0 "com/example/mave/mave/engine/Choices" "taken" "[I" (.ref b1) := F_taken.other W5 (Or.inr (slot_ne (Or.inl (hw _ (List.mem_of_getElem? (i := 12) rfl))) (Or.inl (hw _ (List.mem_of_getElem? (i := 25) rfl))) (by decide) (t := (.array .int)) (t' := .int) (by decide) (by decide)))
  have F_alt_c5 : Fld Z h5 r0 "com/example/mave/mave/engine/Choices" "alternatives" "[I" (.ref b2) := F_alt.other W5 (Or.inr (slot_ne (Or.inl (hw _ (List.mem_of_getElem? (i := 14) rfl))) (Or.inl (hw _ (List.mem_of_getElem? (i := 25) rfl))) (by decide) (t := (.array .int)) (t' := .int) (by decide) (by decide)))
  have V_b1_c5 : Arv Z h5 b1 k1 .int (8 : Int32) [(.int t0), (.int t1), (.int t2), (.int (0 : Int32)), (.int (0 : Int32)), (.int (0 : Int32)), (.int (0 : Int32)), (.int (0 : Int32))] (.int (0 : Int32)) := V_b1.other W5 (Ne.symm ne_r0_b1)
  have V_b2_c5 : Arv Z h5 b2 k2 .int (8 : Int32) [(.int u0), (.int u1), (.int u2), (.int (0 : Int32)), (.int (0 : Int32)), (.int (0 : Int32)), (.int (0 : Int32)), (.int (0 : Int32))] (.int (0 : Int32)) := V_b2.other W5 (Ne.symm ne_r0_b2)
  have Fw5_made : Fld Z h5 r0 "com/example/mave/mave/engine/Choices" "made" "I" (.int (3 : Int32)) := F_made.same W5
  have N5 := Fr.snoc X5 N0 gn_r0
  have Z5 : n0 ≤ h5.size := Nat.le_trans Z0 (Keep.of_wr W5).1
  refine own_go (G := T5.setTop (mkF m 26 #[.val (.ref r0), .val (.int p1)] [(.int (2 : Int32)), (.ref b1)])) (st5) ?_
  obtain ⟨cl6, Ar6, qk6, S6, N6_, Ha6, G6⟩ := id V_b1_c5
  have hin6 : ¬ ((2 : Int32) < 0 ∨ cl6.slots.size ≤ ((2 : Int32)).toNatClampNeg) := inb_of S6 ⟨by decide, by decide⟩
  have hat6 : cl6.slots[((2 : Int32)).toNatClampNeg]? = some (.int t2) := Ha6.at hin6 rfl
  refine own_go (G := T5.setTop (mkF m 27 #[.val (.ref r0), .val (.int p1)] [(.int t2)])) (X5.iaload hx (j := (2 : Int32)) (v := (.int t2)) (by rw [e5]; exact Ar6.1) (State.isArrayOf_alike hZ.alike Ar6.2.1) Ar6.2.2 hin6 hat6 (g := (mkF m 26 #[.val (.ref r0), .val (.int p1)] [(.int (2 : Int32)), (.ref b1)])) rfl rfl (hb hby d4_26)) ?_
  exact own_retI X5 hx Bd.returns (hb hby d4_27) Bd.notSynchronized (by decide) (by decide) (by rw [e5]; exact ⟨rfl, N5, Z5, ⟨gn_r0, E_r0_c5, Fw5_made, F_rep_c5, b1, b2, k1, k2, gn_b1, gn_b2, ne_r0_b1, ne_r0_b2, ne_b1_b2, F_taken_c5, F_alt_c5, V_b1_c5, V_b2_c5⟩⟩)
theorem d3_0 : decode method_3_code 0 = .ok (.iload 4, 2) := by decide +kernel
theorem d3_2 : decode method_3_code 2 = .ok (.iload_n 2, 1) := by decide +kernel
theorem d3_3 : decode method_3_code 3 = .ok (.iload_n 3, 1) := by decide +kernel
theorem d3_4 : decode method_3_code 4 = .ok (.imul, 1) := by decide +kernel
theorem d3_5 : decode method_3_code 5 = .ok (.idiv, 1) := by decide +kernel
theorem d3_6 : decode method_3_code 6 = .ok (.istore 5, 2) := by decide +kernel
theorem d3_8 : decode method_3_code 8 = .ok (.iload 4, 2) := by decide +kernel
theorem d3_10 : decode method_3_code 10 = .ok (.iload_n 3, 1) := by decide +kernel
theorem d3_11 : decode method_3_code 11 = .ok (.idiv, 1) := by decide +kernel
theorem d3_12 : decode method_3_code 12 = .ok (.iload_n 2, 1) := by decide +kernel
theorem d3_13 : decode method_3_code 13 = .ok (.irem, 1) := by decide +kernel
theorem d3_14 : decode method_3_code 14 = .ok (.istore 6, 2) := by decide +kernel
theorem d3_16 : decode method_3_code 16 = .ok (.iload 4, 2) := by decide +kernel
theorem d3_18 : decode method_3_code 18 = .ok (.iload_n 3, 1) := by decide +kernel
theorem d3_19 : decode method_3_code 19 = .ok (.irem, 1) := by decide +kernel
theorem d3_20 : decode method_3_code 20 = .ok (.istore 7, 2) := by decide +kernel
theorem d3_22 : decode method_3_code 22 = .ok (.aload_n 0, 1) := by decide +kernel
theorem d3_23 : decode method_3_code 23 = .ok (.iload_n 1, 1) := by decide +kernel
theorem d3_24 : decode method_3_code 24 = .ok (.invokevirtual 21, 3) := by decide +kernel
theorem d3_27 : decode method_3_code 27 = .ok (.istore 8, 2) := by decide +kernel
theorem d3_29 : decode method_3_code 29 = .ok (.aload_n 0, 1) := by decide +kernel
theorem d3_30 : decode method_3_code 30 = .ok (.iload_n 2, 1) := by decide +kernel
theorem d3_31 : decode method_3_code 31 = .ok (.invokevirtual 21, 3) := by decide +kernel
theorem d3_34 : decode method_3_code 34 = .ok (.istore 9, 2) := by decide +kernel
theorem d3_36 : decode method_3_code 36 = .ok (.aload_n 0, 1) := by decide +kernel
theorem d3_37 : decode method_3_code 37 = .ok (.iload_n 3, 1) := by decide +kernel
theorem d3_38 : decode method_3_code 38 = .ok (.invokevirtual 21, 3) := by decide +kernel
theorem d3_41 : decode method_3_code 41 = .ok (.istore 10, 2) := by decide +kernel
theorem d3_43 : decode method_3_code 43 = .ok (.iload 8, 2) := by decide +kernel
theorem d3_45 : decode method_3_code 45 = .ok (.iload 5, 2) := by decide +kernel
theorem d3_47 : decode method_3_code 47 = .ok (.if_icmp .ne 21, 3) := by decide +kernel
theorem d3_50 : decode method_3_code 50 = .ok (.iload 9, 2) := by decide +kernel
theorem d3_52 : decode method_3_code 52 = .ok (.iload 6, 2) := by decide +kernel
theorem d3_54 : decode method_3_code 54 = .ok (.if_icmp .ne 14, 3) := by decide +kernel
theorem d3_57 : decode method_3_code 57 = .ok (.iload 10, 2) := by decide +kernel
theorem d3_59 : decode method_3_code 59 = .ok (.iload 7, 2) := by decide +kernel
theorem d3_61 : decode method_3_code 61 = .ok (.if_icmp .ne 7, 3) := by decide +kernel
theorem d3_64 : decode method_3_code 64 = .ok (.iconst 1, 1) := by decide +kernel
theorem d3_65 : decode method_3_code 65 = .ok (.goto 4, 3) := by decide +kernel
theorem d3_68 : decode method_3_code 68 = .ok (.iconst 0, 1) := by decide +kernel
theorem d3_69 : decode method_3_code 69 = .ok (.ireturn, 1) := by decide +kernel
theorem pn3 : plainName "com/example/mave/mave/engine/ChoicesNextPinLaw" = true := by first | (simp [plainName, overriddenIn]; done) | decide +kernel
theorem pd0 : parseMethodDescriptor "(I)I" = some ⟨[.int], some .int⟩ := by decide +kernel
theorem ef_run0 (m : MethodId) (r0 : Addr) (p1 : Int32) (p2 : Int32) (p3 : Int32) (p4 : Int32) : entryFrame m #[(.ref r0), (.int p1), (.int p2), (.int p3), (.int p4)] 11 = mkF m 0 #[.val (.ref r0), .val (.int p1), .val (.int p2), .val (.int p3), .val (.int p4), .unset, .unset, .unset, .unset, .unset, .unset] [] := by first | (simp [entryFrame, mkF, argsToLocals, Value.category]; done) | rfl
set_option maxRecDepth 65536 in
set_option maxHeartbeats 40000000 in
theorem run0 (l : Launch) (Z : State) (a0 : Array Value) (hw : ∀ d ∈ tables_1, d.before a0 Z = true) (ws : List Jvm.Cond) (r0 : Addr) (p1 : Int32) (p2 : Int32) (p3 : Int32) (p4 : Int32) (t0 : Int32) (t1 : Int32) (t2 : Int32) (u0 : Int32) (u1 : Int32) (u2 : Int32) (h0 : Heap) (n0 : Nat) (Z0 : n0 ≤ h0.size) (G : own_C Z h0 n0 r0 (0 : Int32) (0 : Int32) t0 t1 t2 u0 u1 u2) (z1 : (p2 * p3) ≠ 0) (z2 : p2 ≠ 0) (z3 : p3 ≠ 0) :
    MetFree l (⟨"com/example/mave/mave/engine/ChoicesNextPinLaw", "runIs", "(Lcom/example/mave/mave/engine/Choices;IIII)Z"⟩ : MethodName) (head1 (Jvm.Cond.code (⟨"com/example/mave/mave/engine/ChoicesNextPinLaw", "runIs", "(Lcom/example/mave/mave/engine/Choices;IIII)Z"⟩ : MethodName) method_3_code 11 (some .boolean) :: ws) ({ frames := 1, cells := 0, slots := 0, locals := 13 } : Room)) (fun a U => a = #[(.ref r0), (.int p1), (.int p2), (.int p3), (.int p4)] ∧ Z.Warmed39 U.vm ∧ U.heap = h0) (fun _ _ _ _ _ => True) (fun _ U o U' => ∃ v L, o = .returned v ∧ (own_QC Z r0 (3 : Int32) (0 : Int32) (0 : Int32) (0 : Int32) (0 : Int32) p1 p2 p3 (some (.int (own_R (0 : Int32) (0 : Int32) (0 : Int32) p2 p3 p4))) n0) v U'.heap L ∧ FrameEnd U o U' L 0 0) := by
  refine MetFree.of_bodySF (plainFor_of_name pn3) hisR ?_
  intro p e s m args below meth c s₁ Bd hml0 hP hK
  obtain ⟨rfl, hZ, hh⟩ := hP
  have hx := Bd.exec
  have hby := Bd.bytes
  have hml : c.maxLocals = 11 := hml0
  have hown : s.vm.findClass "com/example/mave/mave/engine/ChoicesNextPinLaw" = some m.cls := findClass_of_methodNamed Bd.named
  have hnm := (name_of_methodNamed Bd.named Bd.method).1
  have X0 : Stand p l e ({ frames := 1, cells := 0, slots := 0, locals := 13 } : Room) s m #[(.ref r0), (.int p1), (.int p2), (.int p3), (.int p4)] below meth c s₁ [] 0 0 := Stand.of_body Bd
  have e0 : s₁.heap = h0 := by rw [← hh, Bd.state]; rfl
  have N0 := Fr.nil n0
  obtain ⟨-, E_r0, -⟩ := id G
  show own_Goes p e below (own_End s (own_QC Z r0 (3 : Int32) (0 : Int32) (0 : Int32) (0 : Int32) (0 : Int32) p1 p2 p3 (some (.int (own_R (0 : Int32) (0 : Int32) (0 : Int32) p2 p3 p4))) n0) 0 0) _
  refine own_go (G := s₁.setTop (mkF m 0 #[.val (.ref r0), .val (.int p1), .val (.int p2), .val (.int p3), .val (.int p4), .unset, .unset, .unset, .unset, .unset, .unset] [])) (fun t k => castTop (ef_run0 m r0 p1 p2 p3 p4) k) ?_
  refine own_go (G := s₁.setTop (mkF m 2 #[.val (.ref r0), .val (.int p1), .val (.int p2), .val (.int p3), .val (.int p4), .unset, .unset, .unset, .unset, .unset, .unset] [(.int p4)])) (fun _ k => XS.iload X0.here hx rfl (hb hby d3_0) rfl k) ?_
  refine own_go (G := s₁.setTop (mkF m 3 #[.val (.ref r0), .val (.int p1), .val (.int p2), .val (.int p3), .val (.int p4), .unset, .unset, .unset, .unset, .unset, .unset] [(.int p2), (.int p4)])) (fun _ k => XS.iloadN X0.here hx rfl (hb hby d3_2) rfl k) ?_
  refine own_go (G := s₁.setTop (mkF m 4 #[.val (.ref r0), .val (.int p1), .val (.int p2), .val (.int p3), .val (.int p4), .unset, .unset, .unset, .unset, .unset, .unset] [(.int p3), (.int p2), (.int p4)])) (fun _ k => XS.iloadN X0.here hx rfl (hb hby d3_3) rfl k) ?_
  refine own_go (G := s₁.setTop (mkF m 5 #[.val (.ref r0), .val (.int p1), .val (.int p2), .val (.int p3), .val (.int p4), .unset, .unset, .unset, .unset, .unset, .unset] [(.int (p2 * p3)), (.int p4)])) (fun _ k => XS.imul X0.here hx rfl (hb hby d3_4) rfl k) ?_
  refine own_go (G := s₁.setTop (mkF m 6 #[.val (.ref r0), .val (.int p1), .val (.int p2), .val (.int p3), .val (.int p4), .unset, .unset, .unset, .unset, .unset, .unset] [(.int (p4 / (p2 * p3)))])) (fun _ k => XS.idiv X0.here hx rfl (hb hby d3_5) rfl z1 k) ?_
  refine own_go (G := s₁.setTop (mkF m 8 #[.val (.ref r0), .val (.int p1), .val (.int p2), .val (.int p3), .val (.int p4), .val (.int (p4 / (p2 * p3))), .unset, .unset, .unset, .unset, .unset] [])) (fun _ k => XS.istore X0.here hx rfl (hb hby d3_6) rfl (l' := #[.val (.ref r0), .val (.int p1), .val (.int p2), .val (.int p3), .val (.int p4), .val (.int (p4 / (p2 * p3))), .unset, .unset, .unset, .unset, .unset]) rfl k) ?_
  refine own_go (G := s₁.setTop (mkF m 10 #[.val (.ref r0), .val (.int p1), .val (.int p2), .val (.int p3), .val (.int p4), .val (.int (p4 / (p2 * p3))), .unset, .unset, .unset, .unset, .unset] [(.int p4)])) (fun _ k => XS.iload X0.here hx rfl (hb hby d3_8) rfl k) ?_
  refine own_go (G := s₁.setTop (mkF m 11 #[.val (.ref r0), .val (.int p1), .val (.int p2), .val (.int p3), .val (.int p4), .val (.int (p4 / (p2 * p3))), .unset, .unset, .unset, .unset, .unset] [(.int p3), (.int p4)])) (fun _ k => XS.iloadN X0.here hx rfl (hb hby d3_10) rfl k) ?_
  refine own_go (G := s₁.setTop (mkF m 12 #[.val (.ref r0), .val (.int p1), .val (.int p2), .val (.int p3), .val (.int p4), .val (.int (p4 / (p2 * p3))), .unset, .unset, .unset, .unset, .unset] [(.int (p4 / p3))])) (fun _ k => XS.idiv X0.here hx rfl (hb hby d3_11) rfl z3 k) ?_
  refine own_go (G := s₁.setTop (mkF m 13 #[.val (.ref r0), .val (.int p1), .val (.int p2), .val (.int p3), .val (.int p4), .val (.int (p4 / (p2 * p3))), .unset, .unset, .unset, .unset, .unset] [(.int p2), (.int (p4 / p3))])) (fun _ k => XS.iloadN X0.here hx rfl (hb hby d3_12) rfl k) ?_
  refine own_go (G := s₁.setTop (mkF m 14 #[.val (.ref r0), .val (.int p1), .val (.int p2), .val (.int p3), .val (.int p4), .val (.int (p4 / (p2 * p3))), .unset, .unset, .unset, .unset, .unset] [(.int ((p4 / p3) % p2))])) (fun _ k => iremM X0 hx rfl (hb hby d3_13) rfl z2 k) ?_
  refine own_go (G := s₁.setTop (mkF m 16 #[.val (.ref r0), .val (.int p1), .val (.int p2), .val (.int p3), .val (.int p4), .val (.int (p4 / (p2 * p3))), .val (.int ((p4 / p3) % p2)), .unset, .unset, .unset, .unset] [])) (fun _ k => XS.istore X0.here hx rfl (hb hby d3_14) rfl (l' := #[.val (.ref r0), .val (.int p1), .val (.int p2), .val (.int p3), .val (.int p4), .val (.int (p4 / (p2 * p3))), .val (.int ((p4 / p3) % p2)), .unset, .unset, .unset, .unset]) rfl k) ?_
  refine own_go (G := s₁.setTop (mkF m 18 #[.val (.ref r0), .val (.int p1), .val (.int p2), .val (.int p3), .val (.int p4), .val (.int (p4 / (p2 * p3))), .val (.int ((p4 / p3) % p2)), .unset, .unset, .unset, .unset] [(.int p4)])) (fun _ k => XS.iload X0.here hx rfl (hb hby d3_16) rfl k) ?_
  refine own_go (G := s₁.setTop (mkF m 19 #[.val (.ref r0), .val (.int p1), .val (.int p2), .val (.int p3), .val (.int p4), .val (.int (p4 / (p2 * p3))), .val (.int ((p4 / p3) % p2)), .unset, .unset, .unset, .unset] [(.int p3), (.int p4)])) (fun _ k => XS.iloadN X0.here hx rfl (hb hby d3_18) rfl k) ?_
  refine own_go (G := s₁.setTop (mkF m 20 #[.val (.ref r0), .val (.int p1), .val (.int p2), .val (.int p3), .val (.int p4), .val (.int (p4 / (p2 * p3))), .val (.int ((p4 / p3) % p2)), .unset, .unset, .unset, .unset] [(.int (p4 % p3))])) (fun _ k => iremM X0 hx rfl (hb hby d3_19) rfl z3 k) ?_
  refine own_go (G := s₁.setTop (mkF m 22 #[.val (.ref r0), .val (.int p1), .val (.int p2), .val (.int p3), .val (.int p4), .val (.int (p4 / (p2 * p3))), .val (.int ((p4 / p3) % p2)), .val (.int (p4 % p3)), .unset, .unset, .unset] [])) (fun _ k => XS.istore X0.here hx rfl (hb hby d3_20) rfl (l' := #[.val (.ref r0), .val (.int p1), .val (.int p2), .val (.int p3), .val (.int p4), .val (.int (p4 / (p2 * p3))), .val (.int ((p4 / p3) % p2)), .val (.int (p4 % p3)), .unset, .unset, .unset]) rfl k) ?_
  refine own_go (G := s₁.setTop (mkF m 23 #[.val (.ref r0), .val (.int p1), .val (.int p2), .val (.int p3), .val (.int p4), .val (.int (p4 / (p2 * p3))), .val (.int ((p4 / p3) % p2)), .val (.int (p4 % p3)), .unset, .unset, .unset] [(.ref r0)])) (fun _ k => XS.aloadN X0.here hx rfl (hb hby d3_22) rfl rfl k) ?_
  refine own_go (G := s₁.setTop (mkF m 24 #[.val (.ref r0), .val (.int p1), .val (.int p2), .val (.int p3), .val (.int p4), .val (.int (p4 / (p2 * p3))), .val (.int ((p4 / p3) % p2)), .val (.int (p4 % p3)), .unset, .unset, .unset] [(.int p1), (.ref r0)])) (fun _ k => XS.iloadN X0.here hx rfl (hb hby d3_23) rfl k) ?_
  obtain ⟨cq1, kq1, qk1a, qk1b, qk1c⟩ := isOf hZ e0 E_r0
  obtain ⟨_, _, ⟨T1, L1, k1, n1⟩, -, X1, ⟨Lc1, hQ1, l1, y1, z1⟩, st1⟩ := X0.virtualBack hx (y := (⟨"com/example/mave/mave/engine/Choices", "choose", "(I)I"⟩ : MethodName)) (z := (⟨"com/example/mave/mave/engine/Choices", "choose", "(I)I"⟩ : MethodName)) hown (mvT hZ (hw _ (List.mem_of_getElem? (i := 19) rfl))) (mvT hZ (hw _ (List.mem_of_getElem? (i := 20) rfl))) (notFace_of_selects (args := #[]) (mvT hZ (hw _ (List.mem_of_getElem? (i := 22) rfl)))) (mvT hZ (hw _ (List.mem_of_getElem? (i := 22) rfl))) (mvT hZ (hw _ (List.mem_of_getElem? (i := 21) rfl))) (by decide) (backOf (W := 0) (ch0f l Z a0 hw [] r0 p1 (0 : Int32) t0 t1 t2 u0 u1 u2 h0 n0 Z0 G (by decide)) hZ (hw _ (List.mem_of_getElem? (i := 23) rfl)) (hw _ (List.mem_of_getElem? (i := 3) rfl)) (by decide) (by decide)) qk1a qk1c (g := (mkF m 24 #[.val (.ref r0), .val (.int p1), .val (.int p2), .val (.int p3), .val (.int p4), .val (.int (p4 / (p2 * p3))), .val (.int ((p4 / p3) % p2)), .val (.int (p4 % p3)), .unset, .unset, .unset] [(.int p1), (.ref r0)])) rfl (by rw [hml]; rfl) (Steps.refl _) (argsL := [(.int p1)]) (rest := []) (lenOf pd0 rfl) rfl (by show 2 * 0 + _ ≤ _; exact Nat.le_of_eq rfl) (hb hby d3_24) (fun _ _ => ⟨rfl, e0, (by decide : 0 + 0 ≤ _), (by decide : 0 + 0 ≤ _)⟩)
  dsimp only [Pt.U, Pt.locs, Pt.cells, Pt.slots] at X1 l1 y1 z1 st1 hQ1
  subst l1 y1 z1
  obtain ⟨rfl, Nq1, Z1, Gq1⟩ := hQ1
  have N1 := Fr.app N0 Nq1
  have Gn1 : own_C Z T1.heap n0 r0 (1 : Int32) (0 : Int32) (0 : Int32) t1 t2 p1 u1 u2 := Gq1
  obtain ⟨-, Eg1, -⟩ := id Gn1
  refine own_go (G := T1.setTop (mkF m 27 #[.val (.ref r0), .val (.int p1), .val (.int p2), .val (.int p3), .val (.int p4), .val (.int (p4 / (p2 * p3))), .val (.int ((p4 / p3) % p2)), .val (.int (p4 % p3)), .unset, .unset, .unset] [(.int (0 : Int32))])) (fun _ k => st1.trans k) ?_
  refine own_go (G := T1.setTop (mkF m 29 #[.val (.ref r0), .val (.int p1), .val (.int p2), .val (.int p3), .val (.int p4), .val (.int (p4 / (p2 * p3))), .val (.int ((p4 / p3) % p2)), .val (.int (p4 % p3)), .val (.int (0 : Int32)), .unset, .unset] [])) (fun _ k => XS.istore X1.here hx rfl (hb hby d3_27) rfl (l' := #[.val (.ref r0), .val (.int p1), .val (.int p2), .val (.int p3), .val (.int p4), .val (.int (p4 / (p2 * p3))), .val (.int ((p4 / p3) % p2)), .val (.int (p4 % p3)), .val (.int (0 : Int32)), .unset, .unset]) rfl k) ?_
  refine own_go (G := T1.setTop (mkF m 30 #[.val (.ref r0), .val (.int p1), .val (.int p2), .val (.int p3), .val (.int p4), .val (.int (p4 / (p2 * p3))), .val (.int ((p4 / p3) % p2)), .val (.int (p4 % p3)), .val (.int (0 : Int32)), .unset, .unset] [(.ref r0)])) (fun _ k => XS.aloadN X1.here hx rfl (hb hby d3_29) rfl rfl k) ?_
  refine own_go (G := T1.setTop (mkF m 31 #[.val (.ref r0), .val (.int p1), .val (.int p2), .val (.int p3), .val (.int p4), .val (.int (p4 / (p2 * p3))), .val (.int ((p4 / p3) % p2)), .val (.int (p4 % p3)), .val (.int (0 : Int32)), .unset, .unset] [(.int p2), (.ref r0)])) (fun _ k => XS.iloadN X1.here hx rfl (hb hby d3_30) rfl k) ?_
  obtain ⟨cq2, kq2, qk2a, qk2b, qk2c⟩ := isOf hZ rfl Eg1
  obtain ⟨_, _, ⟨T2, L2, k2, n2⟩, -, X2, ⟨Lc2, hQ2, l2, y2, z2⟩, st2⟩ := X1.virtualBack hx (y := (⟨"com/example/mave/mave/engine/Choices", "choose", "(I)I"⟩ : MethodName)) (z := (⟨"com/example/mave/mave/engine/Choices", "choose", "(I)I"⟩ : MethodName)) hown (mvT hZ (hw _ (List.mem_of_getElem? (i := 19) rfl))) (mvT hZ (hw _ (List.mem_of_getElem? (i := 20) rfl))) (notFace_of_selects (args := #[]) (mvT hZ (hw _ (List.mem_of_getElem? (i := 22) rfl)))) (mvT hZ (hw _ (List.mem_of_getElem? (i := 22) rfl))) (mvT hZ (hw _ (List.mem_of_getElem? (i := 21) rfl))) (by decide) (backOf (W := 0) (ch1f l Z a0 hw [] r0 p2 (0 : Int32) (0 : Int32) t1 t2 p1 u1 u2 T1.heap n0 Z1 Gn1 (by decide)) hZ (hw _ (List.mem_of_getElem? (i := 23) rfl)) (hw _ (List.mem_of_getElem? (i := 3) rfl)) (by decide) (by decide)) qk2a qk2c (g := (mkF m 31 #[.val (.ref r0), .val (.int p1), .val (.int p2), .val (.int p3), .val (.int p4), .val (.int (p4 / (p2 * p3))), .val (.int ((p4 / p3) % p2)), .val (.int (p4 % p3)), .val (.int (0 : Int32)), .unset, .unset] [(.int p2), (.ref r0)])) rfl (by rw [hml]; rfl) (Steps.refl _) (argsL := [(.int p2)]) (rest := []) (lenOf pd0 rfl) rfl (by show 2 * 0 + _ ≤ _; exact Nat.le_of_eq rfl) (hb hby d3_31) (fun _ _ => ⟨rfl, rfl, (by decide : 0 + 0 ≤ _), (by decide : 0 + 0 ≤ _)⟩)
  dsimp only [Pt.U, Pt.locs, Pt.cells, Pt.slots] at X2 l2 y2 z2 st2 hQ2
  subst l2 y2 z2
  obtain ⟨rfl, Nq2, Z2, Gq2⟩ := hQ2
  have N2 := Fr.app N1 Nq2
  have Gn2 : own_C Z T2.heap n0 r0 (2 : Int32) (0 : Int32) (0 : Int32) (0 : Int32) t2 p1 p2 u2 := Gq2
  obtain ⟨-, Eg2, -⟩ := id Gn2
  refine own_go (G := T2.setTop (mkF m 34 #[.val (.ref r0), .val (.int p1), .val (.int p2), .val (.int p3), .val (.int p4), .val (.int (p4 / (p2 * p3))), .val (.int ((p4 / p3) % p2)), .val (.int (p4 % p3)), .val (.int (0 : Int32)), .unset, .unset] [(.int (0 : Int32))])) (fun _ k => st2.trans k) ?_
  refine own_go (G := T2.setTop (mkF m 36 #[.val (.ref r0), .val (.int p1), .val (.int p2), .val (.int p3), .val (.int p4), .val (.int (p4 / (p2 * p3))), .val (.int ((p4 / p3) % p2)), .val (.int (p4 % p3)), .val (.int (0 : Int32)), .val (.int (0 : Int32)), .unset] [])) (fun _ k => XS.istore X2.here hx rfl (hb hby d3_34) rfl (l' := #[.val (.ref r0), .val (.int p1), .val (.int p2), .val (.int p3), .val (.int p4), .val (.int (p4 / (p2 * p3))), .val (.int ((p4 / p3) % p2)), .val (.int (p4 % p3)), .val (.int (0 : Int32)), .val (.int (0 : Int32)), .unset]) rfl k) ?_
  refine own_go (G := T2.setTop (mkF m 37 #[.val (.ref r0), .val (.int p1), .val (.int p2), .val (.int p3), .val (.int p4), .val (.int (p4 / (p2 * p3))), .val (.int ((p4 / p3) % p2)), .val (.int (p4 % p3)), .val (.int (0 : Int32)), .val (.int (0 : Int32)), .unset] [(.ref r0)])) (fun _ k => XS.aloadN X2.here hx rfl (hb hby d3_36) rfl rfl k) ?_
  refine own_go (G := T2.setTop (mkF m 38 #[.val (.ref r0), .val (.int p1), .val (.int p2), .val (.int p3), .val (.int p4), .val (.int (p4 / (p2 * p3))), .val (.int ((p4 / p3) % p2)), .val (.int (p4 % p3)), .val (.int (0 : Int32)), .val (.int (0 : Int32)), .unset] [(.int p3), (.ref r0)])) (fun _ k => XS.iloadN X2.here hx rfl (hb hby d3_37) rfl k) ?_
  obtain ⟨cq3, kq3, qk3a, qk3b, qk3c⟩ := isOf hZ rfl Eg2
  obtain ⟨_, _, ⟨T3, L3, k3, n3⟩, -, X3, ⟨Lc3, hQ3, l3, y3, z3⟩, st3⟩ := X2.virtualBack hx (y := (⟨"com/example/mave/mave/engine/Choices", "choose", "(I)I"⟩ : MethodName)) (z := (⟨"com/example/mave/mave/engine/Choices", "choose", "(I)I"⟩ : MethodName)) hown (mvT hZ (hw _ (List.mem_of_getElem? (i := 19) rfl))) (mvT hZ (hw _ (List.mem_of_getElem? (i := 20) rfl))) (notFace_of_selects (args := #[]) (mvT hZ (hw _ (List.mem_of_getElem? (i := 22) rfl)))) (mvT hZ (hw _ (List.mem_of_getElem? (i := 22) rfl))) (mvT hZ (hw _ (List.mem_of_getElem? (i := 21) rfl))) (by decide) (backOf (W := 0) (ch2f l Z a0 hw [] r0 p3 (0 : Int32) (0 : Int32) (0 : Int32) t2 p1 p2 u2 T2.heap n0 Z2 Gn2 (by decide)) hZ (hw _ (List.mem_of_getElem? (i := 23) rfl)) (hw _ (List.mem_of_getElem? (i := 3) rfl)) (by decide) (by decide)) qk3a qk3c (g := (mkF m 38 #[.val (.ref r0), .val (.int p1), .val (.int p2), .val (.int p3), .val (.int p4), .val (.int (p4 / (p2 * p3))), .val (.int ((p4 / p3) % p2)), .val (.int (p4 % p3)), .val (.int (0 : Int32)), .val (.int (0 : Int32)), .unset] [(.int p3), (.ref r0)])) rfl (by rw [hml]; rfl) (Steps.refl _) (argsL := [(.int p3)]) (rest := []) (lenOf pd0 rfl) rfl (by show 2 * 0 + _ ≤ _; exact Nat.le_of_eq rfl) (hb hby d3_38) (fun _ _ => ⟨rfl, rfl, (by decide : 0 + 0 ≤ _), (by decide : 0 + 0 ≤ _)⟩)
  dsimp only [Pt.U, Pt.locs, Pt.cells, Pt.slots] at X3 l3 y3 z3 st3 hQ3
  subst l3 y3 z3
  obtain ⟨rfl, Nq3, Z3, Gq3⟩ := hQ3
  have N3 := Fr.app N2 Nq3
  have Gn3 : own_C Z T3.heap n0 r0 (3 : Int32) (0 : Int32) (0 : Int32) (0 : Int32) (0 : Int32) p1 p2 p3 := Gq3
  obtain ⟨-, Eg3, -⟩ := id Gn3
  refine own_go (G := T3.setTop (mkF m 41 #[.val (.ref r0), .val (.int p1), .val (.int p2), .val (.int p3), .val (.int p4), .val (.int (p4 / (p2 * p3))), .val (.int ((p4 / p3) % p2)), .val (.int (p4 % p3)), .val (.int (0 : Int32)), .val (.int (0 : Int32)), .unset] [(.int (0 : Int32))])) (fun _ k => st3.trans k) ?_
  refine own_go (G := T3.setTop (mkF m 43 #[.val (.ref r0), .val (.int p1), .val (.int p2), .val (.int p3), .val (.int p4), .val (.int (p4 / (p2 * p3))), .val (.int ((p4 / p3) % p2)), .val (.int (p4 % p3)), .val (.int (0 : Int32)), .val (.int (0 : Int32)), .val (.int (0 : Int32))] [])) (fun _ k => XS.istore X3.here hx rfl (hb hby d3_41) rfl (l' := #[.val (.ref r0), .val (.int p1), .val (.int p2), .val (.int p3), .val (.int p4), .val (.int (p4 / (p2 * p3))), .val (.int ((p4 / p3) % p2)), .val (.int (p4 % p3)), .val (.int (0 : Int32)), .val (.int (0 : Int32)), .val (.int (0 : Int32))]) rfl k) ?_
  refine own_go (G := T3.setTop (mkF m 45 #[.val (.ref r0), .val (.int p1), .val (.int p2), .val (.int p3), .val (.int p4), .val (.int (p4 / (p2 * p3))), .val (.int ((p4 / p3) % p2)), .val (.int (p4 % p3)), .val (.int (0 : Int32)), .val (.int (0 : Int32)), .val (.int (0 : Int32))] [(.int (0 : Int32))])) (fun _ k => XS.iload X3.here hx rfl (hb hby d3_43) rfl k) ?_
  refine own_go (G := T3.setTop (mkF m 47 #[.val (.ref r0), .val (.int p1), .val (.int p2), .val (.int p3), .val (.int p4), .val (.int (p4 / (p2 * p3))), .val (.int ((p4 / p3) % p2)), .val (.int (p4 % p3)), .val (.int (0 : Int32)), .val (.int (0 : Int32)), .val (.int (0 : Int32))] [(.int (p4 / (p2 * p3))), (.int (0 : Int32))])) (fun _ k => XS.iload X3.here hx rfl (hb hby d3_45) rfl k) ?_
  by_cases hc47 : (0 : Int32) = (p4 / (p2 * p3))
  · skip
    refine own_go (G := T3.setTop (mkF m 50 #[.val (.ref r0), .val (.int p1), .val (.int p2), .val (.int p3), .val (.int p4), .val (.int (p4 / (p2 * p3))), .val (.int ((p4 / p3) % p2)), .val (.int (p4 % p3)), .val (.int (0 : Int32)), .val (.int (0 : Int32)), .val (.int (0 : Int32))] [])) (fun _ k => XS.icmpNo X3.here hx rfl (hb hby d3_47) rfl (teq hc47).2 k) ?_
    refine own_go (G := T3.setTop (mkF m 52 #[.val (.ref r0), .val (.int p1), .val (.int p2), .val (.int p3), .val (.int p4), .val (.int (p4 / (p2 * p3))), .val (.int ((p4 / p3) % p2)), .val (.int (p4 % p3)), .val (.int (0 : Int32)), .val (.int (0 : Int32)), .val (.int (0 : Int32))] [(.int (0 : Int32))])) (fun _ k => XS.iload X3.here hx rfl (hb hby d3_50) rfl k) ?_
    refine own_go (G := T3.setTop (mkF m 54 #[.val (.ref r0), .val (.int p1), .val (.int p2), .val (.int p3), .val (.int p4), .val (.int (p4 / (p2 * p3))), .val (.int ((p4 / p3) % p2)), .val (.int (p4 % p3)), .val (.int (0 : Int32)), .val (.int (0 : Int32)), .val (.int (0 : Int32))] [(.int ((p4 / p3) % p2)), (.int (0 : Int32))])) (fun _ k => XS.iload X3.here hx rfl (hb hby d3_52) rfl k) ?_
    by_cases hc54 : (0 : Int32) = ((p4 / p3) % p2)
    · skip
      refine own_go (G := T3.setTop (mkF m 57 #[.val (.ref r0), .val (.int p1), .val (.int p2), .val (.int p3), .val (.int p4), .val (.int (p4 / (p2 * p3))), .val (.int ((p4 / p3) % p2)), .val (.int (p4 % p3)), .val (.int (0 : Int32)), .val (.int (0 : Int32)), .val (.int (0 : Int32))] [])) (fun _ k => XS.icmpNo X3.here hx rfl (hb hby d3_54) rfl (teq hc54).2 k) ?_
      refine own_go (G := T3.setTop (mkF m 59 #[.val (.ref r0), .val (.int p1), .val (.int p2), .val (.int p3), .val (.int p4), .val (.int (p4 / (p2 * p3))), .val (.int ((p4 / p3) % p2)), .val (.int (p4 % p3)), .val (.int (0 : Int32)), .val (.int (0 : Int32)), .val (.int (0 : Int32))] [(.int (0 : Int32))])) (fun _ k => XS.iload X3.here hx rfl (hb hby d3_57) rfl k) ?_
      refine own_go (G := T3.setTop (mkF m 61 #[.val (.ref r0), .val (.int p1), .val (.int p2), .val (.int p3), .val (.int p4), .val (.int (p4 / (p2 * p3))), .val (.int ((p4 / p3) % p2)), .val (.int (p4 % p3)), .val (.int (0 : Int32)), .val (.int (0 : Int32)), .val (.int (0 : Int32))] [(.int (p4 % p3)), (.int (0 : Int32))])) (fun _ k => XS.iload X3.here hx rfl (hb hby d3_59) rfl k) ?_
      by_cases hc61 : (0 : Int32) = (p4 % p3)
      · skip
        refine own_go (G := T3.setTop (mkF m 64 #[.val (.ref r0), .val (.int p1), .val (.int p2), .val (.int p3), .val (.int p4), .val (.int (p4 / (p2 * p3))), .val (.int ((p4 / p3) % p2)), .val (.int (p4 % p3)), .val (.int (0 : Int32)), .val (.int (0 : Int32)), .val (.int (0 : Int32))] [])) (fun _ k => XS.icmpNo X3.here hx rfl (hb hby d3_61) rfl (teq hc61).2 k) ?_
        refine own_go (G := T3.setTop (mkF m 65 #[.val (.ref r0), .val (.int p1), .val (.int p2), .val (.int p3), .val (.int p4), .val (.int (p4 / (p2 * p3))), .val (.int ((p4 / p3) % p2)), .val (.int (p4 % p3)), .val (.int (0 : Int32)), .val (.int (0 : Int32)), .val (.int (0 : Int32))] [(.int (1 : Int32))])) (fun _ k => XS.iconst X3.here hx rfl (hb hby d3_64) k) ?_
        refine own_go (G := T3.setTop (mkF m 69 #[.val (.ref r0), .val (.int p1), .val (.int p2), .val (.int p3), .val (.int p4), .val (.int (p4 / (p2 * p3))), .val (.int ((p4 / p3) % p2)), .val (.int (p4 % p3)), .val (.int (0 : Int32)), .val (.int (0 : Int32)), .val (.int (0 : Int32))] [(.int (1 : Int32))])) (fun _ k => XS.goto X3.here hx rfl (pc0 := 65) (pc' := 69) rfl (hb hby d3_65) (by decide) (by decide) k) ?_
        exact own_ret1 X3 hx Bd.returns (hb hby d3_69) Bd.notSynchronized (by decide) (by decide) ⟨congrArg (fun z => some (Value.int z)) (by simp only [own_R, if_pos hc47, if_pos hc54, if_pos hc61]), N3, Z3, Gn3⟩
      · skip
        refine own_go (G := T3.setTop (mkF m 68 #[.val (.ref r0), .val (.int p1), .val (.int p2), .val (.int p3), .val (.int p4), .val (.int (p4 / (p2 * p3))), .val (.int ((p4 / p3) % p2)), .val (.int (p4 % p3)), .val (.int (0 : Int32)), .val (.int (0 : Int32)), .val (.int (0 : Int32))] [])) (fun _ k => XS.icmpYes X3.here hx rfl (pc0 := 61) (pc' := 68) rfl (hb hby d3_61) rfl (feq hc61).2 (by decide) (by decide) k) ?_
        refine own_go (G := T3.setTop (mkF m 69 #[.val (.ref r0), .val (.int p1), .val (.int p2), .val (.int p3), .val (.int p4), .val (.int (p4 / (p2 * p3))), .val (.int ((p4 / p3) % p2)), .val (.int (p4 % p3)), .val (.int (0 : Int32)), .val (.int (0 : Int32)), .val (.int (0 : Int32))] [(.int (0 : Int32))])) (fun _ k => XS.iconst X3.here hx rfl (hb hby d3_68) k) ?_
        exact own_ret0 X3 hx Bd.returns (hb hby d3_69) Bd.notSynchronized (by decide) (by decide) ⟨congrArg (fun z => some (Value.int z)) (by simp only [own_R, if_pos hc47, if_pos hc54, if_neg hc61]), N3, Z3, Gn3⟩
    · skip
      refine own_go (G := T3.setTop (mkF m 68 #[.val (.ref r0), .val (.int p1), .val (.int p2), .val (.int p3), .val (.int p4), .val (.int (p4 / (p2 * p3))), .val (.int ((p4 / p3) % p2)), .val (.int (p4 % p3)), .val (.int (0 : Int32)), .val (.int (0 : Int32)), .val (.int (0 : Int32))] [])) (fun _ k => XS.icmpYes X3.here hx rfl (pc0 := 54) (pc' := 68) rfl (hb hby d3_54) rfl (feq hc54).2 (by decide) (by decide) k) ?_
      refine own_go (G := T3.setTop (mkF m 69 #[.val (.ref r0), .val (.int p1), .val (.int p2), .val (.int p3), .val (.int p4), .val (.int (p4 / (p2 * p3))), .val (.int ((p4 / p3) % p2)), .val (.int (p4 % p3)), .val (.int (0 : Int32)), .val (.int (0 : Int32)), .val (.int (0 : Int32))] [(.int (0 : Int32))])) (fun _ k => XS.iconst X3.here hx rfl (hb hby d3_68) k) ?_
      exact own_ret0 X3 hx Bd.returns (hb hby d3_69) Bd.notSynchronized (by decide) (by decide) ⟨congrArg (fun z => some (Value.int z)) (by simp only [own_R, if_pos hc47, if_neg hc54]), N3, Z3, Gn3⟩
  · skip
    refine own_go (G := T3.setTop (mkF m 68 #[.val (.ref r0), .val (.int p1), .val (.int p2), .val (.int p3), .val (.int p4), .val (.int (p4 / (p2 * p3))), .val (.int ((p4 / p3) % p2)), .val (.int (p4 % p3)), .val (.int (0 : Int32)), .val (.int (0 : Int32)), .val (.int (0 : Int32))] [])) (fun _ k => XS.icmpYes X3.here hx rfl (pc0 := 47) (pc' := 68) rfl (hb hby d3_47) rfl (feq hc47).2 (by decide) (by decide) k) ?_
    refine own_go (G := T3.setTop (mkF m 69 #[.val (.ref r0), .val (.int p1), .val (.int p2), .val (.int p3), .val (.int p4), .val (.int (p4 / (p2 * p3))), .val (.int ((p4 / p3) % p2)), .val (.int (p4 % p3)), .val (.int (0 : Int32)), .val (.int (0 : Int32)), .val (.int (0 : Int32))] [(.int (0 : Int32))])) (fun _ k => XS.iconst X3.here hx rfl (hb hby d3_68) k) ?_
    exact own_ret0 X3 hx Bd.returns (hb hby d3_69) Bd.notSynchronized (by decide) (by decide) ⟨congrArg (fun z => some (Value.int z)) (by simp only [own_R, if_neg hc47]), N3, Z3, Gn3⟩
theorem ef_run1 (m : MethodId) (r0 : Addr) (p1 : Int32) (p2 : Int32) (p3 : Int32) (p4 : Int32) : entryFrame m #[(.ref r0), (.int p1), (.int p2), (.int p3), (.int p4)] 11 = mkF m 0 #[.val (.ref r0), .val (.int p1), .val (.int p2), .val (.int p3), .val (.int p4), .unset, .unset, .unset, .unset, .unset, .unset] [] := by first | (simp [entryFrame, mkF, argsToLocals, Value.category]; done) | rfl
set_option maxRecDepth 65536 in
set_option maxHeartbeats 40000000 in
theorem run1 (l : Launch) (Z : State) (a0 : Array Value) (hw : ∀ d ∈ tables_1, d.before a0 Z = true) (ws : List Jvm.Cond) (r0 : Addr) (p1 : Int32) (p2 : Int32) (p3 : Int32) (p4 : Int32) (t0 : Int32) (t1 : Int32) (t2 : Int32) (u0 : Int32) (u1 : Int32) (u2 : Int32) (h0 : Heap) (n0 : Nat) (Z0 : n0 ≤ h0.size) (G : own_C Z h0 n0 r0 (0 : Int32) (1 : Int32) t0 t1 t2 u0 u1 u2) (z1 : (p2 * p3) ≠ 0) (z2 : p2 ≠ 0) (z3 : p3 ≠ 0) :
    MetFree l (⟨"com/example/mave/mave/engine/ChoicesNextPinLaw", "runIs", "(Lcom/example/mave/mave/engine/Choices;IIII)Z"⟩ : MethodName) (head1 (Jvm.Cond.code (⟨"com/example/mave/mave/engine/ChoicesNextPinLaw", "runIs", "(Lcom/example/mave/mave/engine/Choices;IIII)Z"⟩ : MethodName) method_3_code 11 (some .boolean) :: ws) ({ frames := 1, cells := 0, slots := 0, locals := 13 } : Room)) (fun a U => a = #[(.ref r0), (.int p1), (.int p2), (.int p3), (.int p4)] ∧ Z.Warmed39 U.vm ∧ U.heap = h0) (fun _ _ _ _ _ => True) (fun _ U o U' => ∃ v L, o = .returned v ∧ (own_QC Z r0 (3 : Int32) (1 : Int32) t0 (0 : Int32) (0 : Int32) u0 p2 p3 (some (.int (own_R t0 (0 : Int32) (0 : Int32) p2 p3 p4))) n0) v U'.heap L ∧ FrameEnd U o U' L 0 0) := by
  refine MetFree.of_bodySF (plainFor_of_name pn3) hisR ?_
  intro p e s m args below meth c s₁ Bd hml0 hP hK
  obtain ⟨rfl, hZ, hh⟩ := hP
  have hx := Bd.exec
  have hby := Bd.bytes
  have hml : c.maxLocals = 11 := hml0
  have hown : s.vm.findClass "com/example/mave/mave/engine/ChoicesNextPinLaw" = some m.cls := findClass_of_methodNamed Bd.named
  have hnm := (name_of_methodNamed Bd.named Bd.method).1
  have X0 : Stand p l e ({ frames := 1, cells := 0, slots := 0, locals := 13 } : Room) s m #[(.ref r0), (.int p1), (.int p2), (.int p3), (.int p4)] below meth c s₁ [] 0 0 := Stand.of_body Bd
  have e0 : s₁.heap = h0 := by rw [← hh, Bd.state]; rfl
  have N0 := Fr.nil n0
  obtain ⟨-, E_r0, -⟩ := id G
  show own_Goes p e below (own_End s (own_QC Z r0 (3 : Int32) (1 : Int32) t0 (0 : Int32) (0 : Int32) u0 p2 p3 (some (.int (own_R t0 (0 : Int32) (0 : Int32) p2 p3 p4))) n0) 0 0) _
  refine own_go (G := s₁.setTop (mkF m 0 #[.val (.ref r0), .val (.int p1), .val (.int p2), .val (.int p3), .val (.int p4), .unset, .unset, .unset, .unset, .unset, .unset] [])) (fun t k => castTop (ef_run1 m r0 p1 p2 p3 p4) k) ?_
  refine own_go (G := s₁.setTop (mkF m 2 #[.val (.ref r0), .val (.int p1), .val (.int p2), .val (.int p3), .val (.int p4), .unset, .unset, .unset, .unset, .unset, .unset] [(.int p4)])) (fun _ k => XS.iload X0.here hx rfl (hb hby d3_0) rfl k) ?_
  refine own_go (G := s₁.setTop (mkF m 3 #[.val (.ref r0), .val (.int p1), .val (.int p2), .val (.int p3), .val (.int p4), .unset, .unset, .unset, .unset, .unset, .unset] [(.int p2), (.int p4)])) (fun _ k => XS.iloadN X0.here hx rfl (hb hby d3_2) rfl k) ?_
  refine own_go (G := s₁.setTop (mkF m 4 #[.val (.ref r0), .val (.int p1), .val (.int p2), .val (.int p3), .val (.int p4), .unset, .unset, .unset, .unset, .unset, .unset] [(.int p3), (.int p2), (.int p4)])) (fun _ k => XS.iloadN X0.here hx rfl (hb hby d3_3) rfl k) ?_
  refine own_go (G := s₁.setTop (mkF m 5 #[.val (.ref r0), .val (.int p1), .val (.int p2), .val (.int p3), .val (.int p4), .unset, .unset, .unset, .unset, .unset, .unset] [(.int (p2 * p3)), (.int p4)])) (fun _ k => XS.imul X0.here hx rfl (hb hby d3_4) rfl k) ?_
  refine own_go (G := s₁.setTop (mkF m 6 #[.val (.ref r0), .val (.int p1), .val (.int p2), .val (.int p3), .val (.int p4), .unset, .unset, .unset, .unset, .unset, .unset] [(.int (p4 / (p2 * p3)))])) (fun _ k => XS.idiv X0.here hx rfl (hb hby d3_5) rfl z1 k) ?_
  refine own_go (G := s₁.setTop (mkF m 8 #[.val (.ref r0), .val (.int p1), .val (.int p2), .val (.int p3), .val (.int p4), .val (.int (p4 / (p2 * p3))), .unset, .unset, .unset, .unset, .unset] [])) (fun _ k => XS.istore X0.here hx rfl (hb hby d3_6) rfl (l' := #[.val (.ref r0), .val (.int p1), .val (.int p2), .val (.int p3), .val (.int p4), .val (.int (p4 / (p2 * p3))), .unset, .unset, .unset, .unset, .unset]) rfl k) ?_
  refine own_go (G := s₁.setTop (mkF m 10 #[.val (.ref r0), .val (.int p1), .val (.int p2), .val (.int p3), .val (.int p4), .val (.int (p4 / (p2 * p3))), .unset, .unset, .unset, .unset, .unset] [(.int p4)])) (fun _ k => XS.iload X0.here hx rfl (hb hby d3_8) rfl k) ?_
  refine own_go (G := s₁.setTop (mkF m 11 #[.val (.ref r0), .val (.int p1), .val (.int p2), .val (.int p3), .val (.int p4), .val (.int (p4 / (p2 * p3))), .unset, .unset, .unset, .unset, .unset] [(.int p3), (.int p4)])) (fun _ k => XS.iloadN X0.here hx rfl (hb hby d3_10) rfl k) ?_
  refine own_go (G := s₁.setTop (mkF m 12 #[.val (.ref r0), .val (.int p1), .val (.int p2), .val (.int p3), .val (.int p4), .val (.int (p4 / (p2 * p3))), .unset, .unset, .unset, .unset, .unset] [(.int (p4 / p3))])) (fun _ k => XS.idiv X0.here hx rfl (hb hby d3_11) rfl z3 k) ?_
  refine own_go (G := s₁.setTop (mkF m 13 #[.val (.ref r0), .val (.int p1), .val (.int p2), .val (.int p3), .val (.int p4), .val (.int (p4 / (p2 * p3))), .unset, .unset, .unset, .unset, .unset] [(.int p2), (.int (p4 / p3))])) (fun _ k => XS.iloadN X0.here hx rfl (hb hby d3_12) rfl k) ?_
  refine own_go (G := s₁.setTop (mkF m 14 #[.val (.ref r0), .val (.int p1), .val (.int p2), .val (.int p3), .val (.int p4), .val (.int (p4 / (p2 * p3))), .unset, .unset, .unset, .unset, .unset] [(.int ((p4 / p3) % p2))])) (fun _ k => iremM X0 hx rfl (hb hby d3_13) rfl z2 k) ?_
  refine own_go (G := s₁.setTop (mkF m 16 #[.val (.ref r0), .val (.int p1), .val (.int p2), .val (.int p3), .val (.int p4), .val (.int (p4 / (p2 * p3))), .val (.int ((p4 / p3) % p2)), .unset, .unset, .unset, .unset] [])) (fun _ k => XS.istore X0.here hx rfl (hb hby d3_14) rfl (l' := #[.val (.ref r0), .val (.int p1), .val (.int p2), .val (.int p3), .val (.int p4), .val (.int (p4 / (p2 * p3))), .val (.int ((p4 / p3) % p2)), .unset, .unset, .unset, .unset]) rfl k) ?_
  refine own_go (G := s₁.setTop (mkF m 18 #[.val (.ref r0), .val (.int p1), .val (.int p2), .val (.int p3), .val (.int p4), .val (.int (p4 / (p2 * p3))), .val (.int ((p4 / p3) % p2)), .unset, .unset, .unset, .unset] [(.int p4)])) (fun _ k => XS.iload X0.here hx rfl (hb hby d3_16) rfl k) ?_
  refine own_go (G := s₁.setTop (mkF m 19 #[.val (.ref r0), .val (.int p1), .val (.int p2), .val (.int p3), .val (.int p4), .val (.int (p4 / (p2 * p3))), .val (.int ((p4 / p3) % p2)), .unset, .unset, .unset, .unset] [(.int p3), (.int p4)])) (fun _ k => XS.iloadN X0.here hx rfl (hb hby d3_18) rfl k) ?_
  refine own_go (G := s₁.setTop (mkF m 20 #[.val (.ref r0), .val (.int p1), .val (.int p2), .val (.int p3), .val (.int p4), .val (.int (p4 / (p2 * p3))), .val (.int ((p4 / p3) % p2)), .unset, .unset, .unset, .unset] [(.int (p4 % p3))])) (fun _ k => iremM X0 hx rfl (hb hby d3_19) rfl z3 k) ?_
  refine own_go (G := s₁.setTop (mkF m 22 #[.val (.ref r0), .val (.int p1), .val (.int p2), .val (.int p3), .val (.int p4), .val (.int (p4 / (p2 * p3))), .val (.int ((p4 / p3) % p2)), .val (.int (p4 % p3)), .unset, .unset, .unset] [])) (fun _ k => XS.istore X0.here hx rfl (hb hby d3_20) rfl (l' := #[.val (.ref r0), .val (.int p1), .val (.int p2), .val (.int p3), .val (.int p4), .val (.int (p4 / (p2 * p3))), .val (.int ((p4 / p3) % p2)), .val (.int (p4 % p3)), .unset, .unset, .unset]) rfl k) ?_
  refine own_go (G := s₁.setTop (mkF m 23 #[.val (.ref r0), .val (.int p1), .val (.int p2), .val (.int p3), .val (.int p4), .val (.int (p4 / (p2 * p3))), .val (.int ((p4 / p3) % p2)), .val (.int (p4 % p3)), .unset, .unset, .unset] [(.ref r0)])) (fun _ k => XS.aloadN X0.here hx rfl (hb hby d3_22) rfl rfl k) ?_
  refine own_go (G := s₁.setTop (mkF m 24 #[.val (.ref r0), .val (.int p1), .val (.int p2), .val (.int p3), .val (.int p4), .val (.int (p4 / (p2 * p3))), .val (.int ((p4 / p3) % p2)), .val (.int (p4 % p3)), .unset, .unset, .unset] [(.int p1), (.ref r0)])) (fun _ k => XS.iloadN X0.here hx rfl (hb hby d3_23) rfl k) ?_
  obtain ⟨cq1, kq1, qk1a, qk1b, qk1c⟩ := isOf hZ e0 E_r0
  obtain ⟨_, _, ⟨T1, L1, k1, n1⟩, -, X1, ⟨Lc1, hQ1, l1, y1, z1⟩, st1⟩ := X0.virtualBack hx (y := (⟨"com/example/mave/mave/engine/Choices", "choose", "(I)I"⟩ : MethodName)) (z := (⟨"com/example/mave/mave/engine/Choices", "choose", "(I)I"⟩ : MethodName)) hown (mvT hZ (hw _ (List.mem_of_getElem? (i := 19) rfl))) (mvT hZ (hw _ (List.mem_of_getElem? (i := 20) rfl))) (notFace_of_selects (args := #[]) (mvT hZ (hw _ (List.mem_of_getElem? (i := 22) rfl)))) (mvT hZ (hw _ (List.mem_of_getElem? (i := 22) rfl))) (mvT hZ (hw _ (List.mem_of_getElem? (i := 21) rfl))) (by decide) (backOf (W := 0) (ch0r l Z a0 hw [] r0 p1 (1 : Int32) t0 t1 t2 u0 u1 u2 h0 n0 Z0 G (by decide)) hZ (hw _ (List.mem_of_getElem? (i := 23) rfl)) (hw _ (List.mem_of_getElem? (i := 3) rfl)) (by decide) (by decide)) qk1a qk1c (g := (mkF m 24 #[.val (.ref r0), .val (.int p1), .val (.int p2), .val (.int p3), .val (.int p4), .val (.int (p4 / (p2 * p3))), .val (.int ((p4 / p3) % p2)), .val (.int (p4 % p3)), .unset, .unset, .unset] [(.int p1), (.ref r0)])) rfl (by rw [hml]; rfl) (Steps.refl _) (argsL := [(.int p1)]) (rest := []) (lenOf pd0 rfl) rfl (by show 2 * 0 + _ ≤ _; exact Nat.le_of_eq rfl) (hb hby d3_24) (fun _ _ => ⟨rfl, e0, (by decide : 0 + 0 ≤ _), (by decide : 0 + 0 ≤ _)⟩)
  dsimp only [Pt.U, Pt.locs, Pt.cells, Pt.slots] at X1 l1 y1 z1 st1 hQ1
  subst l1 y1 z1
  obtain ⟨rfl, Nq1, Z1, Gq1⟩ := hQ1
  have N1 := Fr.app N0 Nq1
  have Gn1 : own_C Z T1.heap n0 r0 (1 : Int32) (1 : Int32) t0 t1 t2 u0 u1 u2 := Gq1
  obtain ⟨-, Eg1, -⟩ := id Gn1
  refine own_go (G := T1.setTop (mkF m 27 #[.val (.ref r0), .val (.int p1), .val (.int p2), .val (.int p3), .val (.int p4), .val (.int (p4 / (p2 * p3))), .val (.int ((p4 / p3) % p2)), .val (.int (p4 % p3)), .unset, .unset, .unset] [(.int t0)])) (fun _ k => st1.trans k) ?_
  refine own_go (G := T1.setTop (mkF m 29 #[.val (.ref r0), .val (.int p1), .val (.int p2), .val (.int p3), .val (.int p4), .val (.int (p4 / (p2 * p3))), .val (.int ((p4 / p3) % p2)), .val (.int (p4 % p3)), .val (.int t0), .unset, .unset] [])) (fun _ k => XS.istore X1.here hx rfl (hb hby d3_27) rfl (l' := #[.val (.ref r0), .val (.int p1), .val (.int p2), .val (.int p3), .val (.int p4), .val (.int (p4 / (p2 * p3))), .val (.int ((p4 / p3) % p2)), .val (.int (p4 % p3)), .val (.int t0), .unset, .unset]) rfl k) ?_
  refine own_go (G := T1.setTop (mkF m 30 #[.val (.ref r0), .val (.int p1), .val (.int p2), .val (.int p3), .val (.int p4), .val (.int (p4 / (p2 * p3))), .val (.int ((p4 / p3) % p2)), .val (.int (p4 % p3)), .val (.int t0), .unset, .unset] [(.ref r0)])) (fun _ k => XS.aloadN X1.here hx rfl (hb hby d3_29) rfl rfl k) ?_
  refine own_go (G := T1.setTop (mkF m 31 #[.val (.ref r0), .val (.int p1), .val (.int p2), .val (.int p3), .val (.int p4), .val (.int (p4 / (p2 * p3))), .val (.int ((p4 / p3) % p2)), .val (.int (p4 % p3)), .val (.int t0), .unset, .unset] [(.int p2), (.ref r0)])) (fun _ k => XS.iloadN X1.here hx rfl (hb hby d3_30) rfl k) ?_
  obtain ⟨cq2, kq2, qk2a, qk2b, qk2c⟩ := isOf hZ rfl Eg1
  obtain ⟨_, _, ⟨T2, L2, k2, n2⟩, -, X2, ⟨Lc2, hQ2, l2, y2, z2⟩, st2⟩ := X1.virtualBack hx (y := (⟨"com/example/mave/mave/engine/Choices", "choose", "(I)I"⟩ : MethodName)) (z := (⟨"com/example/mave/mave/engine/Choices", "choose", "(I)I"⟩ : MethodName)) hown (mvT hZ (hw _ (List.mem_of_getElem? (i := 19) rfl))) (mvT hZ (hw _ (List.mem_of_getElem? (i := 20) rfl))) (notFace_of_selects (args := #[]) (mvT hZ (hw _ (List.mem_of_getElem? (i := 22) rfl)))) (mvT hZ (hw _ (List.mem_of_getElem? (i := 22) rfl))) (mvT hZ (hw _ (List.mem_of_getElem? (i := 21) rfl))) (by decide) (backOf (W := 0) (ch1f l Z a0 hw [] r0 p2 (1 : Int32) t0 t1 t2 u0 u1 u2 T1.heap n0 Z1 Gn1 (by decide)) hZ (hw _ (List.mem_of_getElem? (i := 23) rfl)) (hw _ (List.mem_of_getElem? (i := 3) rfl)) (by decide) (by decide)) qk2a qk2c (g := (mkF m 31 #[.val (.ref r0), .val (.int p1), .val (.int p2), .val (.int p3), .val (.int p4), .val (.int (p4 / (p2 * p3))), .val (.int ((p4 / p3) % p2)), .val (.int (p4 % p3)), .val (.int t0), .unset, .unset] [(.int p2), (.ref r0)])) rfl (by rw [hml]; rfl) (Steps.refl _) (argsL := [(.int p2)]) (rest := []) (lenOf pd0 rfl) rfl (by show 2 * 0 + _ ≤ _; exact Nat.le_of_eq rfl) (hb hby d3_31) (fun _ _ => ⟨rfl, rfl, (by decide : 0 + 0 ≤ _), (by decide : 0 + 0 ≤ _)⟩)
  dsimp only [Pt.U, Pt.locs, Pt.cells, Pt.slots] at X2 l2 y2 z2 st2 hQ2
  subst l2 y2 z2
  obtain ⟨rfl, Nq2, Z2, Gq2⟩ := hQ2
  have N2 := Fr.app N1 Nq2
  have Gn2 : own_C Z T2.heap n0 r0 (2 : Int32) (1 : Int32) t0 (0 : Int32) t2 u0 p2 u2 := Gq2
  obtain ⟨-, Eg2, -⟩ := id Gn2
  refine own_go (G := T2.setTop (mkF m 34 #[.val (.ref r0), .val (.int p1), .val (.int p2), .val (.int p3), .val (.int p4), .val (.int (p4 / (p2 * p3))), .val (.int ((p4 / p3) % p2)), .val (.int (p4 % p3)), .val (.int t0), .unset, .unset] [(.int (0 : Int32))])) (fun _ k => st2.trans k) ?_
  refine own_go (G := T2.setTop (mkF m 36 #[.val (.ref r0), .val (.int p1), .val (.int p2), .val (.int p3), .val (.int p4), .val (.int (p4 / (p2 * p3))), .val (.int ((p4 / p3) % p2)), .val (.int (p4 % p3)), .val (.int t0), .val (.int (0 : Int32)), .unset] [])) (fun _ k => XS.istore X2.here hx rfl (hb hby d3_34) rfl (l' := #[.val (.ref r0), .val (.int p1), .val (.int p2), .val (.int p3), .val (.int p4), .val (.int (p4 / (p2 * p3))), .val (.int ((p4 / p3) % p2)), .val (.int (p4 % p3)), .val (.int t0), .val (.int (0 : Int32)), .unset]) rfl k) ?_
  refine own_go (G := T2.setTop (mkF m 37 #[.val (.ref r0), .val (.int p1), .val (.int p2), .val (.int p3), .val (.int p4), .val (.int (p4 / (p2 * p3))), .val (.int ((p4 / p3) % p2)), .val (.int (p4 % p3)), .val (.int t0), .val (.int (0 : Int32)), .unset] [(.ref r0)])) (fun _ k => XS.aloadN X2.here hx rfl (hb hby d3_36) rfl rfl k) ?_
  refine own_go (G := T2.setTop (mkF m 38 #[.val (.ref r0), .val (.int p1), .val (.int p2), .val (.int p3), .val (.int p4), .val (.int (p4 / (p2 * p3))), .val (.int ((p4 / p3) % p2)), .val (.int (p4 % p3)), .val (.int t0), .val (.int (0 : Int32)), .unset] [(.int p3), (.ref r0)])) (fun _ k => XS.iloadN X2.here hx rfl (hb hby d3_37) rfl k) ?_
  obtain ⟨cq3, kq3, qk3a, qk3b, qk3c⟩ := isOf hZ rfl Eg2
  obtain ⟨_, _, ⟨T3, L3, k3, n3⟩, -, X3, ⟨Lc3, hQ3, l3, y3, z3⟩, st3⟩ := X2.virtualBack hx (y := (⟨"com/example/mave/mave/engine/Choices", "choose", "(I)I"⟩ : MethodName)) (z := (⟨"com/example/mave/mave/engine/Choices", "choose", "(I)I"⟩ : MethodName)) hown (mvT hZ (hw _ (List.mem_of_getElem? (i := 19) rfl))) (mvT hZ (hw _ (List.mem_of_getElem? (i := 20) rfl))) (notFace_of_selects (args := #[]) (mvT hZ (hw _ (List.mem_of_getElem? (i := 22) rfl)))) (mvT hZ (hw _ (List.mem_of_getElem? (i := 22) rfl))) (mvT hZ (hw _ (List.mem_of_getElem? (i := 21) rfl))) (by decide) (backOf (W := 0) (ch2f l Z a0 hw [] r0 p3 (1 : Int32) t0 (0 : Int32) t2 u0 p2 u2 T2.heap n0 Z2 Gn2 (by decide)) hZ (hw _ (List.mem_of_getElem? (i := 23) rfl)) (hw _ (List.mem_of_getElem? (i := 3) rfl)) (by decide) (by decide)) qk3a qk3c (g := (mkF m 38 #[.val (.ref r0), .val (.int p1), .val (.int p2), .val (.int p3), .val (.int p4), .val (.int (p4 / (p2 * p3))), .val (.int ((p4 / p3) % p2)), .val (.int (p4 % p3)), .val (.int t0), .val (.int (0 : Int32)), .unset] [(.int p3), (.ref r0)])) rfl (by rw [hml]; rfl) (Steps.refl _) (argsL := [(.int p3)]) (rest := []) (lenOf pd0 rfl) rfl (by show 2 * 0 + _ ≤ _; exact Nat.le_of_eq rfl) (hb hby d3_38) (fun _ _ => ⟨rfl, rfl, (by decide : 0 + 0 ≤ _), (by decide : 0 + 0 ≤ _)⟩)
  dsimp only [Pt.U, Pt.locs, Pt.cells, Pt.slots] at X3 l3 y3 z3 st3 hQ3
  subst l3 y3 z3
  obtain ⟨rfl, Nq3, Z3, Gq3⟩ := hQ3
  have N3 := Fr.app N2 Nq3
  have Gn3 : own_C Z T3.heap n0 r0 (3 : Int32) (1 : Int32) t0 (0 : Int32) (0 : Int32) u0 p2 p3 := Gq3
  obtain ⟨-, Eg3, -⟩ := id Gn3
  refine own_go (G := T3.setTop (mkF m 41 #[.val (.ref r0), .val (.int p1), .val (.int p2), .val (.int p3), .val (.int p4), .val (.int (p4 / (p2 * p3))), .val (.int ((p4 / p3) % p2)), .val (.int (p4 % p3)), .val (.int t0), .val (.int (0 : Int32)), .unset] [(.int (0 : Int32))])) (fun _ k => st3.trans k) ?_
  refine own_go (G := T3.setTop (mkF m 43 #[.val (.ref r0), .val (.int p1), .val (.int p2), .val (.int p3), .val (.int p4), .val (.int (p4 / (p2 * p3))), .val (.int ((p4 / p3) % p2)), .val (.int (p4 % p3)), .val (.int t0), .val (.int (0 : Int32)), .val (.int (0 : Int32))] [])) (fun _ k => XS.istore X3.here hx rfl (hb hby d3_41) rfl (l' := #[.val (.ref r0), .val (.int p1), .val (.int p2), .val (.int p3), .val (.int p4), .val (.int (p4 / (p2 * p3))), .val (.int ((p4 / p3) % p2)), .val (.int (p4 % p3)), .val (.int t0), .val (.int (0 : Int32)), .val (.int (0 : Int32))]) rfl k) ?_
  refine own_go (G := T3.setTop (mkF m 45 #[.val (.ref r0), .val (.int p1), .val (.int p2), .val (.int p3), .val (.int p4), .val (.int (p4 / (p2 * p3))), .val (.int ((p4 / p3) % p2)), .val (.int (p4 % p3)), .val (.int t0), .val (.int (0 : Int32)), .val (.int (0 : Int32))] [(.int t0)])) (fun _ k => XS.iload X3.here hx rfl (hb hby d3_43) rfl k) ?_
  refine own_go (G := T3.setTop (mkF m 47 #[.val (.ref r0), .val (.int p1), .val (.int p2), .val (.int p3), .val (.int p4), .val (.int (p4 / (p2 * p3))), .val (.int ((p4 / p3) % p2)), .val (.int (p4 % p3)), .val (.int t0), .val (.int (0 : Int32)), .val (.int (0 : Int32))] [(.int (p4 / (p2 * p3))), (.int t0)])) (fun _ k => XS.iload X3.here hx rfl (hb hby d3_45) rfl k) ?_
  by_cases hc47 : t0 = (p4 / (p2 * p3))
  · skip
    refine own_go (G := T3.setTop (mkF m 50 #[.val (.ref r0), .val (.int p1), .val (.int p2), .val (.int p3), .val (.int p4), .val (.int (p4 / (p2 * p3))), .val (.int ((p4 / p3) % p2)), .val (.int (p4 % p3)), .val (.int t0), .val (.int (0 : Int32)), .val (.int (0 : Int32))] [])) (fun _ k => XS.icmpNo X3.here hx rfl (hb hby d3_47) rfl (teq hc47).2 k) ?_
    refine own_go (G := T3.setTop (mkF m 52 #[.val (.ref r0), .val (.int p1), .val (.int p2), .val (.int p3), .val (.int p4), .val (.int (p4 / (p2 * p3))), .val (.int ((p4 / p3) % p2)), .val (.int (p4 % p3)), .val (.int t0), .val (.int (0 : Int32)), .val (.int (0 : Int32))] [(.int (0 : Int32))])) (fun _ k => XS.iload X3.here hx rfl (hb hby d3_50) rfl k) ?_
    refine own_go (G := T3.setTop (mkF m 54 #[.val (.ref r0), .val (.int p1), .val (.int p2), .val (.int p3), .val (.int p4), .val (.int (p4 / (p2 * p3))), .val (.int ((p4 / p3) % p2)), .val (.int (p4 % p3)), .val (.int t0), .val (.int (0 : Int32)), .val (.int (0 : Int32))] [(.int ((p4 / p3) % p2)), (.int (0 : Int32))])) (fun _ k => XS.iload X3.here hx rfl (hb hby d3_52) rfl k) ?_
    by_cases hc54 : (0 : Int32) = ((p4 / p3) % p2)
    · skip
      refine own_go (G := T3.setTop (mkF m 57 #[.val (.ref r0), .val (.int p1), .val (.int p2), .val (.int p3), .val (.int p4), .val (.int (p4 / (p2 * p3))), .val (.int ((p4 / p3) % p2)), .val (.int (p4 % p3)), .val (.int t0), .val (.int (0 : Int32)), .val (.int (0 : Int32))] [])) (fun _ k => XS.icmpNo X3.here hx rfl (hb hby d3_54) rfl (teq hc54).2 k) ?_
      refine own_go (G := T3.setTop (mkF m 59 #[.val (.ref r0), .val (.int p1), .val (.int p2), .val (.int p3), .val (.int p4), .val (.int (p4 / (p2 * p3))), .val (.int ((p4 / p3) % p2)), .val (.int (p4 % p3)), .val (.int t0), .val (.int (0 : Int32)), .val (.int (0 : Int32))] [(.int (0 : Int32))])) (fun _ k => XS.iload X3.here hx rfl (hb hby d3_57) rfl k) ?_
      refine own_go (G := T3.setTop (mkF m 61 #[.val (.ref r0), .val (.int p1), .val (.int p2), .val (.int p3), .val (.int p4), .val (.int (p4 / (p2 * p3))), .val (.int ((p4 / p3) % p2)), .val (.int (p4 % p3)), .val (.int t0), .val (.int (0 : Int32)), .val (.int (0 : Int32))] [(.int (p4 % p3)), (.int (0 : Int32))])) (fun _ k => XS.iload X3.here hx rfl (hb hby d3_59) rfl k) ?_
      by_cases hc61 : (0 : Int32) = (p4 % p3)
      · skip
        refine own_go (G := T3.setTop (mkF m 64 #[.val (.ref r0), .val (.int p1), .val (.int p2), .val (.int p3), .val (.int p4), .val (.int (p4 / (p2 * p3))), .val (.int ((p4 / p3) % p2)), .val (.int (p4 % p3)), .val (.int t0), .val (.int (0 : Int32)), .val (.int (0 : Int32))] [])) (fun _ k => XS.icmpNo X3.here hx rfl (hb hby d3_61) rfl (teq hc61).2 k) ?_
        refine own_go (G := T3.setTop (mkF m 65 #[.val (.ref r0), .val (.int p1), .val (.int p2), .val (.int p3), .val (.int p4), .val (.int (p4 / (p2 * p3))), .val (.int ((p4 / p3) % p2)), .val (.int (p4 % p3)), .val (.int t0), .val (.int (0 : Int32)), .val (.int (0 : Int32))] [(.int (1 : Int32))])) (fun _ k => XS.iconst X3.here hx rfl (hb hby d3_64) k) ?_
        refine own_go (G := T3.setTop (mkF m 69 #[.val (.ref r0), .val (.int p1), .val (.int p2), .val (.int p3), .val (.int p4), .val (.int (p4 / (p2 * p3))), .val (.int ((p4 / p3) % p2)), .val (.int (p4 % p3)), .val (.int t0), .val (.int (0 : Int32)), .val (.int (0 : Int32))] [(.int (1 : Int32))])) (fun _ k => XS.goto X3.here hx rfl (pc0 := 65) (pc' := 69) rfl (hb hby d3_65) (by decide) (by decide) k) ?_
        exact own_ret1 X3 hx Bd.returns (hb hby d3_69) Bd.notSynchronized (by decide) (by decide) ⟨congrArg (fun z => some (Value.int z)) (by simp only [own_R, if_pos hc47, if_pos hc54, if_pos hc61]), N3, Z3, Gn3⟩
      · skip
        refine own_go (G := T3.setTop (mkF m 68 #[.val (.ref r0), .val (.int p1), .val (.int p2), .val (.int p3), .val (.int p4), .val (.int (p4 / (p2 * p3))), .val (.int ((p4 / p3) % p2)), .val (.int (p4 % p3)), .val (.int t0), .val (.int (0 : Int32)), .val (.int (0 : Int32))] [])) (fun _ k => XS.icmpYes X3.here hx rfl (pc0 := 61) (pc' := 68) rfl (hb hby d3_61) rfl (feq hc61).2 (by decide) (by decide) k) ?_
        refine own_go (G := T3.setTop (mkF m 69 #[.val (.ref r0), .val (.int p1), .val (.int p2), .val (.int p3), .val (.int p4), .val (.int (p4 / (p2 * p3))), .val (.int ((p4 / p3) % p2)), .val (.int (p4 % p3)), .val (.int t0), .val (.int (0 : Int32)), .val (.int (0 : Int32))] [(.int (0 : Int32))])) (fun _ k => XS.iconst X3.here hx rfl (hb hby d3_68) k) ?_
        exact own_ret0 X3 hx Bd.returns (hb hby d3_69) Bd.notSynchronized (by decide) (by decide) ⟨congrArg (fun z => some (Value.int z)) (by simp only [own_R, if_pos hc47, if_pos hc54, if_neg hc61]), N3, Z3, Gn3⟩
    · skip
      refine own_go (G := T3.setTop (mkF m 68 #[.val (.ref r0), .val (.int p1), .val (.int p2), .val (.int p3), .val (.int p4), .val (.int (p4 / (p2 * p3))), .val (.int ((p4 / p3) % p2)), .val (.int (p4 % p3)), .val (.int t0), .val (.int (0 : Int32)), .val (.int (0 : Int32))] [])) (fun _ k => XS.icmpYes X3.here hx rfl (pc0 := 54) (pc' := 68) rfl (hb hby d3_54) rfl (feq hc54).2 (by decide) (by decide) k) ?_
      refine own_go (G := T3.setTop (mkF m 69 #[.val (.ref r0), .val (.int p1), .val (.int p2), .val (.int p3), .val (.int p4), .val (.int (p4 / (p2 * p3))), .val (.int ((p4 / p3) % p2)), .val (.int (p4 % p3)), .val (.int t0), .val (.int (0 : Int32)), .val (.int (0 : Int32))] [(.int (0 : Int32))])) (fun _ k => XS.iconst X3.here hx rfl (hb hby d3_68) k) ?_
      exact own_ret0 X3 hx Bd.returns (hb hby d3_69) Bd.notSynchronized (by decide) (by decide) ⟨congrArg (fun z => some (Value.int z)) (by simp only [own_R, if_pos hc47, if_neg hc54]), N3, Z3, Gn3⟩
  · skip
    refine own_go (G := T3.setTop (mkF m 68 #[.val (.ref r0), .val (.int p1), .val (.int p2), .val (.int p3), .val (.int p4), .val (.int (p4 / (p2 * p3))), .val (.int ((p4 / p3) % p2)), .val (.int (p4 % p3)), .val (.int t0), .val (.int (0 : Int32)), .val (.int (0 : Int32))] [])) (fun _ k => XS.icmpYes X3.here hx rfl (pc0 := 47) (pc' := 68) rfl (hb hby d3_47) rfl (feq hc47).2 (by decide) (by decide) k) ?_
    refine own_go (G := T3.setTop (mkF m 69 #[.val (.ref r0), .val (.int p1), .val (.int p2), .val (.int p3), .val (.int p4), .val (.int (p4 / (p2 * p3))), .val (.int ((p4 / p3) % p2)), .val (.int (p4 % p3)), .val (.int t0), .val (.int (0 : Int32)), .val (.int (0 : Int32))] [(.int (0 : Int32))])) (fun _ k => XS.iconst X3.here hx rfl (hb hby d3_68) k) ?_
    exact own_ret0 X3 hx Bd.returns (hb hby d3_69) Bd.notSynchronized (by decide) (by decide) ⟨congrArg (fun z => some (Value.int z)) (by simp only [own_R, if_neg hc47]), N3, Z3, Gn3⟩
theorem ef_run2 (m : MethodId) (r0 : Addr) (p1 : Int32) (p2 : Int32) (p3 : Int32) (p4 : Int32) : entryFrame m #[(.ref r0), (.int p1), (.int p2), (.int p3), (.int p4)] 11 = mkF m 0 #[.val (.ref r0), .val (.int p1), .val (.int p2), .val (.int p3), .val (.int p4), .unset, .unset, .unset, .unset, .unset, .unset] [] := by first | (simp [entryFrame, mkF, argsToLocals, Value.category]; done) | rfl
set_option maxRecDepth 65536 in
set_option maxHeartbeats 40000000 in
theorem run2 (l : Launch) (Z : State) (a0 : Array Value) (hw : ∀ d ∈ tables_1, d.before a0 Z = true) (ws : List Jvm.Cond) (r0 : Addr) (p1 : Int32) (p2 : Int32) (p3 : Int32) (p4 : Int32) (t0 : Int32) (t1 : Int32) (t2 : Int32) (u0 : Int32) (u1 : Int32) (u2 : Int32) (h0 : Heap) (n0 : Nat) (Z0 : n0 ≤ h0.size) (G : own_C Z h0 n0 r0 (0 : Int32) (2 : Int32) t0 t1 t2 u0 u1 u2) (z1 : (p2 * p3) ≠ 0) (z2 : p2 ≠ 0) (z3 : p3 ≠ 0) :
    MetFree l (⟨"com/example/mave/mave/engine/ChoicesNextPinLaw", "runIs", "(Lcom/example/mave/mave/engine/Choices;IIII)Z"⟩ : MethodName) (head1 (Jvm.Cond.code (⟨"com/example/mave/mave/engine/ChoicesNextPinLaw", "runIs", "(Lcom/example/mave/mave/engine/Choices;IIII)Z"⟩ : MethodName) method_3_code 11 (some .boolean) :: ws) ({ frames := 1, cells := 0, slots := 0, locals := 13 } : Room)) (fun a U => a = #[(.ref r0), (.int p1), (.int p2), (.int p3), (.int p4)] ∧ Z.Warmed39 U.vm ∧ U.heap = h0) (fun _ _ _ _ _ => True) (fun _ U o U' => ∃ v L, o = .returned v ∧ (own_QC Z r0 (3 : Int32) (2 : Int32) t0 t1 (0 : Int32) u0 u1 p3 (some (.int (own_R t0 t1 (0 : Int32) p2 p3 p4))) n0) v U'.heap L ∧ FrameEnd U o U' L 0 0) := by
  refine MetFree.of_bodySF (plainFor_of_name pn3) hisR ?_
  intro p e s m args below meth c s₁ Bd hml0 hP hK
  obtain ⟨rfl, hZ, hh⟩ := hP
  have hx := Bd.exec
  have hby := Bd.bytes
  have hml : c.maxLocals = 11 := hml0
  have hown : s.vm.findClass "com/example/mave/mave/engine/ChoicesNextPinLaw" = some m.cls := findClass_of_methodNamed Bd.named
  have hnm := (name_of_methodNamed Bd.named Bd.method).1
  have X0 : Stand p l e ({ frames := 1, cells := 0, slots := 0, locals := 13 } : Room) s m #[(.ref r0), (.int p1), (.int p2), (.int p3), (.int p4)] below meth c s₁ [] 0 0 := Stand.of_body Bd
  have e0 : s₁.heap = h0 := by rw [← hh, Bd.state]; rfl
  have N0 := Fr.nil n0
  obtain ⟨-, E_r0, -⟩ := id G
  show own_Goes p e below (own_End s (own_QC Z r0 (3 : Int32) (2 : Int32) t0 t1 (0 : Int32) u0 u1 p3 (some (.int (own_R t0 t1 (0 : Int32) p2 p3 p4))) n0) 0 0) _
  refine own_go (G := s₁.setTop (mkF m 0 #[.val (.ref r0), .val (.int p1), .val (.int p2), .val (.int p3), .val (.int p4), .unset, .unset, .unset, .unset, .unset, .unset] [])) (fun t k => castTop (ef_run2 m r0 p1 p2 p3 p4) k) ?_
  refine own_go (G := s₁.setTop (mkF m 2 #[.val (.ref r0), .val (.int p1), .val (.int p2), .val (.int p3), .val (.int p4), .unset, .unset, .unset, .unset, .unset, .unset] [(.int p4)])) (fun _ k => XS.iload X0.here hx rfl (hb hby d3_0) rfl k) ?_
  refine own_go (G := s₁.setTop (mkF m 3 #[.val (.ref r0), .val (.int p1), .val (.int p2), .val (.int p3), .val (.int p4), .unset, .unset, .unset, .unset, .unset, .unset] [(.int p2), (.int p4)])) (fun _ k => XS.iloadN X0.here hx rfl (hb hby d3_2) rfl k) ?_
  refine own_go (G := s₁.setTop (mkF m 4 #[.val (.ref r0), .val (.int p1), .val (.int p2), .val (.int p3), .val (.int p4), .unset, .unset, .unset, .unset, .unset, .unset] [(.int p3), (.int p2), (.int p4)])) (fun _ k => XS.iloadN X0.here hx rfl (hb hby d3_3) rfl k) ?_
  refine own_go (G := s₁.setTop (mkF m 5 #[.val (.ref r0), .val (.int p1), .val (.int p2), .val (.int p3), .val (.int p4), .unset, .unset, .unset, .unset, .unset, .unset] [(.int (p2 * p3)), (.int p4)])) (fun _ k => XS.imul X0.here hx rfl (hb hby d3_4) rfl k) ?_
  refine own_go (G := s₁.setTop (mkF m 6 #[.val (.ref r0), .val (.int p1), .val (.int p2), .val (.int p3), .val (.int p4), .unset, .unset, .unset, .unset, .unset, .unset] [(.int (p4 / (p2 * p3)))])) (fun _ k => XS.idiv X0.here hx rfl (hb hby d3_5) rfl z1 k) ?_
  refine own_go (G := s₁.setTop (mkF m 8 #[.val (.ref r0), .val (.int p1), .val (.int p2), .val (.int p3), .val (.int p4), .val (.int (p4 / (p2 * p3))), .unset, .unset, .unset, .unset, .unset] [])) (fun _ k => XS.istore X0.here hx rfl (hb hby d3_6) rfl (l' := #[.val (.ref r0), .val (.int p1), .val (.int p2), .val (.int p3), .val (.int p4), .val (.int (p4 / (p2 * p3))), .unset, .unset, .unset, .unset, .unset]) rfl k) ?_
  refine own_go (G := s₁.setTop (mkF m 10 #[.val (.ref r0), .val (.int p1), .val (.int p2), .val (.int p3), .val (.int p4), .val (.int (p4 / (p2 * p3))), .unset, .unset, .unset, .unset, .unset] [(.int p4)])) (fun _ k => XS.iload X0.here hx rfl (hb hby d3_8) rfl k) ?_
  refine own_go (G := s₁.setTop (mkF m 11 #[.val (.ref r0), .val (.int p1), .val (.int p2), .val (.int p3), .val (.int p4), .val (.int (p4 / (p2 * p3))), .unset, .unset, .unset, .unset, .unset] [(.int p3), (.int p4)])) (fun _ k => XS.iloadN X0.here hx rfl (hb hby d3_10) rfl k) ?_
  refine own_go (G := s₁.setTop (mkF m 12 #[.val (.ref r0), .val (.int p1), .val (.int p2), .val (.int p3), .val (.int p4), .val (.int (p4 / (p2 * p3))), .unset, .unset, .unset, .unset, .unset] [(.int (p4 / p3))])) (fun _ k => XS.idiv X0.here hx rfl (hb hby d3_11) rfl z3 k) ?_
  refine own_go (G := s₁.setTop (mkF m 13 #[.val (.ref r0), .val (.int p1), .val (.int p2), .val (.int p3), .val (.int p4), .val (.int (p4 / (p2 * p3))), .unset, .unset, .unset, .unset, .unset] [(.int p2), (.int (p4 / p3))])) (fun _ k => XS.iloadN X0.here hx rfl (hb hby d3_12) rfl k) ?_
  refine own_go (G := s₁.setTop (mkF m 14 #[.val (.ref r0), .val (.int p1), .val (.int p2), .val (.int p3), .val (.int p4), .val (.int (p4 / (p2 * p3))), .unset, .unset, .unset, .unset, .unset] [(.int ((p4 / p3) % p2))])) (fun _ k => iremM X0 hx rfl (hb hby d3_13) rfl z2 k) ?_
  refine own_go (G := s₁.setTop (mkF m 16 #[.val (.ref r0), .val (.int p1), .val (.int p2), .val (.int p3), .val (.int p4), .val (.int (p4 / (p2 * p3))), .val (.int ((p4 / p3) % p2)), .unset, .unset, .unset, .unset] [])) (fun _ k => XS.istore X0.here hx rfl (hb hby d3_14) rfl (l' := #[.val (.ref r0), .val (.int p1), .val (.int p2), .val (.int p3), .val (.int p4), .val (.int (p4 / (p2 * p3))), .val (.int ((p4 / p3) % p2)), .unset, .unset, .unset, .unset]) rfl k) ?_
  refine own_go (G := s₁.setTop (mkF m 18 #[.val (.ref r0), .val (.int p1), .val (.int p2), .val (.int p3), .val (.int p4), .val (.int (p4 / (p2 * p3))), .val (.int ((p4 / p3) % p2)), .unset, .unset, .unset, .unset] [(.int p4)])) (fun _ k => XS.iload X0.here hx rfl (hb hby d3_16) rfl k) ?_
  refine own_go (G := s₁.setTop (mkF m 19 #[.val (.ref r0), .val (.int p1), .val (.int p2), .val (.int p3), .val (.int p4), .val (.int (p4 / (p2 * p3))), .val (.int ((p4 / p3) % p2)), .unset, .unset, .unset, .unset] [(.int p3), (.int p4)])) (fun _ k => XS.iloadN X0.here hx rfl (hb hby d3_18) rfl k) ?_
  refine own_go (G := s₁.setTop (mkF m 20 #[.val (.ref r0), .val (.int p1), .val (.int p2), .val (.int p3), .val (.int p4), .val (.int (p4 / (p2 * p3))), .val (.int ((p4 / p3) % p2)), .unset, .unset, .unset, .unset] [(.int (p4 % p3))])) (fun _ k => iremM X0 hx rfl (hb hby d3_19) rfl z3 k) ?_
  refine own_go (G := s₁.setTop (mkF m 22 #[.val (.ref r0), .val (.int p1), .val (.int p2), .val (.int p3), .val (.int p4), .val (.int (p4 / (p2 * p3))), .val (.int ((p4 / p3) % p2)), .val (.int (p4 % p3)), .unset, .unset, .unset] [])) (fun _ k => XS.istore X0.here hx rfl (hb hby d3_20) rfl (l' := #[.val (.ref r0), .val (.int p1), .val (.int p2), .val (.int p3), .val (.int p4), .val (.int (p4 / (p2 * p3))), .val (.int ((p4 / p3) % p2)), .val (.int (p4 % p3)), .unset, .unset, .unset]) rfl k) ?_
  refine own_go (G := s₁.setTop (mkF m 23 #[.val (.ref r0), .val (.int p1), .val (.int p2), .val (.int p3), .val (.int p4), .val (.int (p4 / (p2 * p3))), .val (.int ((p4 / p3) % p2)), .val (.int (p4 % p3)), .unset, .unset, .unset] [(.ref r0)])) (fun _ k => XS.aloadN X0.here hx rfl (hb hby d3_22) rfl rfl k) ?_
  refine own_go (G := s₁.setTop (mkF m 24 #[.val (.ref r0), .val (.int p1), .val (.int p2), .val (.int p3), .val (.int p4), .val (.int (p4 / (p2 * p3))), .val (.int ((p4 / p3) % p2)), .val (.int (p4 % p3)), .unset, .unset, .unset] [(.int p1), (.ref r0)])) (fun _ k => XS.iloadN X0.here hx rfl (hb hby d3_23) rfl k) ?_
  obtain ⟨cq1, kq1, qk1a, qk1b, qk1c⟩ := isOf hZ e0 E_r0
  obtain ⟨_, _, ⟨T1, L1, k1, n1⟩, -, X1, ⟨Lc1, hQ1, l1, y1, z1⟩, st1⟩ := X0.virtualBack hx (y := (⟨"com/example/mave/mave/engine/Choices", "choose", "(I)I"⟩ : MethodName)) (z := (⟨"com/example/mave/mave/engine/Choices", "choose", "(I)I"⟩ : MethodName)) hown (mvT hZ (hw _ (List.mem_of_getElem? (i := 19) rfl))) (mvT hZ (hw _ (List.mem_of_getElem? (i := 20) rfl))) (notFace_of_selects (args := #[]) (mvT hZ (hw _ (List.mem_of_getElem? (i := 22) rfl)))) (mvT hZ (hw _ (List.mem_of_getElem? (i := 22) rfl))) (mvT hZ (hw _ (List.mem_of_getElem? (i := 21) rfl))) (by decide) (backOf (W := 0) (ch0r l Z a0 hw [] r0 p1 (2 : Int32) t0 t1 t2 u0 u1 u2 h0 n0 Z0 G (by decide)) hZ (hw _ (List.mem_of_getElem? (i := 23) rfl)) (hw _ (List.mem_of_getElem? (i := 3) rfl)) (by decide) (by decide)) qk1a qk1c (g := (mkF m 24 #[.val (.ref r0), .val (.int p1), .val (.int p2), .val (.int p3), .val (.int p4), .val (.int (p4 / (p2 * p3))), .val (.int ((p4 / p3) % p2)), .val (.int (p4 % p3)), .unset, .unset, .unset] [(.int p1), (.ref r0)])) rfl (by rw [hml]; rfl) (Steps.refl _) (argsL := [(.int p1)]) (rest := []) (lenOf pd0 rfl) rfl (by show 2 * 0 + _ ≤ _; exact Nat.le_of_eq rfl) (hb hby d3_24) (fun _ _ => ⟨rfl, e0, (by decide : 0 + 0 ≤ _), (by decide : 0 + 0 ≤ _)⟩)
  dsimp only [Pt.U, Pt.locs, Pt.cells, Pt.slots] at X1 l1 y1 z1 st1 hQ1
  subst l1 y1 z1
  obtain ⟨rfl, Nq1, Z1, Gq1⟩ := hQ1
  have N1 := Fr.app N0 Nq1
  have Gn1 : own_C Z T1.heap n0 r0 (1 : Int32) (2 : Int32) t0 t1 t2 u0 u1 u2 := Gq1
  obtain ⟨-, Eg1, -⟩ := id Gn1
  refine own_go (G := T1.setTop (mkF m 27 #[.val (.ref r0), .val (.int p1), .val (.int p2), .val (.int p3), .val (.int p4), .val (.int (p4 / (p2 * p3))), .val (.int ((p4 / p3) % p2)), .val (.int (p4 % p3)), .unset, .unset, .unset] [(.int t0)])) (fun _ k => st1.trans k) ?_
  refine own_go (G := T1.setTop (mkF m 29 #[.val (.ref r0), .val (.int p1), .val (.int p2), .val (.int p3), .val (.int p4), .val (.int (p4 / (p2 * p3))), .val (.int ((p4 / p3) % p2)), .val (.int (p4 % p3)), .val (.int t0), .unset, .unset] [])) (fun _ k => XS.istore X1.here hx rfl (hb hby d3_27) rfl (l' := #[.val (.ref r0), .val (.int p1), .val (.int p2), .val (.int p3), .val (.int p4), .val (.int (p4 / (p2 * p3))), .val (.int ((p4 / p3) % p2)), .val (.int (p4 % p3)), .val (.int t0), .unset, .unset]) rfl k) ?_
  refine own_go (G := T1.setTop (mkF m 30 #[.val (.ref r0), .val (.int p1), .val (.int p2), .val (.int p3), .val (.int p4), .val (.int (p4 / (p2 * p3))), .val (.int ((p4 / p3) % p2)), .val (.int (p4 % p3)), .val (.int t0), .unset, .unset] [(.ref r0)])) (fun _ k => XS.aloadN X1.here hx rfl (hb hby d3_29) rfl rfl k) ?_
  refine own_go (G := T1.setTop (mkF m 31 #[.val (.ref r0), .val (.int p1), .val (.int p2), .val (.int p3), .val (.int p4), .val (.int (p4 / (p2 * p3))), .val (.int ((p4 / p3) % p2)), .val (.int (p4 % p3)), .val (.int t0), .unset, .unset] [(.int p2), (.ref r0)])) (fun _ k => XS.iloadN X1.here hx rfl (hb hby d3_30) rfl k) ?_
  obtain ⟨cq2, kq2, qk2a, qk2b, qk2c⟩ := isOf hZ rfl Eg1
  obtain ⟨_, _, ⟨T2, L2, k2, n2⟩, -, X2, ⟨Lc2, hQ2, l2, y2, z2⟩, st2⟩ := X1.virtualBack hx (y := (⟨"com/example/mave/mave/engine/Choices", "choose", "(I)I"⟩ : MethodName)) (z := (⟨"com/example/mave/mave/engine/Choices", "choose", "(I)I"⟩ : MethodName)) hown (mvT hZ (hw _ (List.mem_of_getElem? (i := 19) rfl))) (mvT hZ (hw _ (List.mem_of_getElem? (i := 20) rfl))) (notFace_of_selects (args := #[]) (mvT hZ (hw _ (List.mem_of_getElem? (i := 22) rfl)))) (mvT hZ (hw _ (List.mem_of_getElem? (i := 22) rfl))) (mvT hZ (hw _ (List.mem_of_getElem? (i := 21) rfl))) (by decide) (backOf (W := 0) (ch1r l Z a0 hw [] r0 p2 (2 : Int32) t0 t1 t2 u0 u1 u2 T1.heap n0 Z1 Gn1 (by decide)) hZ (hw _ (List.mem_of_getElem? (i := 23) rfl)) (hw _ (List.mem_of_getElem? (i := 3) rfl)) (by decide) (by decide)) qk2a qk2c (g := (mkF m 31 #[.val (.ref r0), .val (.int p1), .val (.int p2), .val (.int p3), .val (.int p4), .val (.int (p4 / (p2 * p3))), .val (.int ((p4 / p3) % p2)), .val (.int (p4 % p3)), .val (.int t0), .unset, .unset] [(.int p2), (.ref r0)])) rfl (by rw [hml]; rfl) (Steps.refl _) (argsL := [(.int p2)]) (rest := []) (lenOf pd0 rfl) rfl (by show 2 * 0 + _ ≤ _; exact Nat.le_of_eq rfl) (hb hby d3_31) (fun _ _ => ⟨rfl, rfl, (by decide : 0 + 0 ≤ _), (by decide : 0 + 0 ≤ _)⟩)
  dsimp only [Pt.U, Pt.locs, Pt.cells, Pt.slots] at X2 l2 y2 z2 st2 hQ2
  subst l2 y2 z2
  obtain ⟨rfl, Nq2, Z2, Gq2⟩ := hQ2
  have N2 := Fr.app N1 Nq2
  have Gn2 : own_C Z T2.heap n0 r0 (2 : Int32) (2 : Int32) t0 t1 t2 u0 u1 u2 := Gq2
  obtain ⟨-, Eg2, -⟩ := id Gn2
  refine own_go (G := T2.setTop (mkF m 34 #[.val (.ref r0), .val (.int p1), .val (.int p2), .val (.int p3), .val (.int p4), .val (.int (p4 / (p2 * p3))), .val (.int ((p4 / p3) % p2)), .val (.int (p4 % p3)), .val (.int t0), .unset, .unset] [(.int t1)])) (fun _ k => st2.trans k) ?_
  refine own_go (G := T2.setTop (mkF m 36 #[.val (.ref r0), .val (.int p1), .val (.int p2), .val (.int p3), .val (.int p4), .val (.int (p4 / (p2 * p3))), .val (.int ((p4 / p3) % p2)), .val (.int (p4 % p3)), .val (.int t0), .val (.int t1), .unset] [])) (fun _ k => XS.istore X2.here hx rfl (hb hby d3_34) rfl (l' := #[.val (.ref r0), .val (.int p1), .val (.int p2), .val (.int p3), .val (.int p4), .val (.int (p4 / (p2 * p3))), .val (.int ((p4 / p3) % p2)), .val (.int (p4 % p3)), .val (.int t0), .val (.int t1), .unset]) rfl k) ?_
  refine own_go (G := T2.setTop (mkF m 37 #[.val (.ref r0), .val (.int p1), .val (.int p2), .val (.int p3), .val (.int p4), .val (.int (p4 / (p2 * p3))), .val (.int ((p4 / p3) % p2)), .val (.int (p4 % p3)), .val (.int t0), .val (.int t1), .unset] [(.ref r0)])) (fun _ k => XS.aloadN X2.here hx rfl (hb hby d3_36) rfl rfl k) ?_
  refine own_go (G := T2.setTop (mkF m 38 #[.val (.ref r0), .val (.int p1), .val (.int p2), .val (.int p3), .val (.int p4), .val (.int (p4 / (p2 * p3))), .val (.int ((p4 / p3) % p2)), .val (.int (p4 % p3)), .val (.int t0), .val (.int t1), .unset] [(.int p3), (.ref r0)])) (fun _ k => XS.iloadN X2.here hx rfl (hb hby d3_37) rfl k) ?_
  obtain ⟨cq3, kq3, qk3a, qk3b, qk3c⟩ := isOf hZ rfl Eg2
  obtain ⟨_, _, ⟨T3, L3, k3, n3⟩, -, X3, ⟨Lc3, hQ3, l3, y3, z3⟩, st3⟩ := X2.virtualBack hx (y := (⟨"com/example/mave/mave/engine/Choices", "choose", "(I)I"⟩ : MethodName)) (z := (⟨"com/example/mave/mave/engine/Choices", "choose", "(I)I"⟩ : MethodName)) hown (mvT hZ (hw _ (List.mem_of_getElem? (i := 19) rfl))) (mvT hZ (hw _ (List.mem_of_getElem? (i := 20) rfl))) (notFace_of_selects (args := #[]) (mvT hZ (hw _ (List.mem_of_getElem? (i := 22) rfl)))) (mvT hZ (hw _ (List.mem_of_getElem? (i := 22) rfl))) (mvT hZ (hw _ (List.mem_of_getElem? (i := 21) rfl))) (by decide) (backOf (W := 0) (ch2f l Z a0 hw [] r0 p3 (2 : Int32) t0 t1 t2 u0 u1 u2 T2.heap n0 Z2 Gn2 (by decide)) hZ (hw _ (List.mem_of_getElem? (i := 23) rfl)) (hw _ (List.mem_of_getElem? (i := 3) rfl)) (by decide) (by decide)) qk3a qk3c (g := (mkF m 38 #[.val (.ref r0), .val (.int p1), .val (.int p2), .val (.int p3), .val (.int p4), .val (.int (p4 / (p2 * p3))), .val (.int ((p4 / p3) % p2)), .val (.int (p4 % p3)), .val (.int t0), .val (.int t1), .unset] [(.int p3), (.ref r0)])) rfl (by rw [hml]; rfl) (Steps.refl _) (argsL := [(.int p3)]) (rest := []) (lenOf pd0 rfl) rfl (by show 2 * 0 + _ ≤ _; exact Nat.le_of_eq rfl) (hb hby d3_38) (fun _ _ => ⟨rfl, rfl, (by decide : 0 + 0 ≤ _), (by decide : 0 + 0 ≤ _)⟩)
  dsimp only [Pt.U, Pt.locs, Pt.cells, Pt.slots] at X3 l3 y3 z3 st3 hQ3
  subst l3 y3 z3
  obtain ⟨rfl, Nq3, Z3, Gq3⟩ := hQ3
  have N3 := Fr.app N2 Nq3
  have Gn3 : own_C Z T3.heap n0 r0 (3 : Int32) (2 : Int32) t0 t1 (0 : Int32) u0 u1 p3 := Gq3
  obtain ⟨-, Eg3, -⟩ := id Gn3
  refine own_go (G := T3.setTop (mkF m 41 #[.val (.ref r0), .val (.int p1), .val (.int p2), .val (.int p3), .val (.int p4), .val (.int (p4 / (p2 * p3))), .val (.int ((p4 / p3) % p2)), .val (.int (p4 % p3)), .val (.int t0), .val (.int t1), .unset] [(.int (0 : Int32))])) (fun _ k => st3.trans k) ?_
  refine own_go (G := T3.setTop (mkF m 43 #[.val (.ref r0), .val (.int p1), .val (.int p2), .val (.int p3), .val (.int p4), .val (.int (p4 / (p2 * p3))), .val (.int ((p4 / p3) % p2)), .val (.int (p4 % p3)), .val (.int t0), .val (.int t1), .val (.int (0 : Int32))] [])) (fun _ k => XS.istore X3.here hx rfl (hb hby d3_41) rfl (l' := #[.val (.ref r0), .val (.int p1), .val (.int p2), .val (.int p3), .val (.int p4), .val (.int (p4 / (p2 * p3))), .val (.int ((p4 / p3) % p2)), .val (.int (p4 % p3)), .val (.int t0), .val (.int t1), .val (.int (0 : Int32))]) rfl k) ?_
  refine own_go (G := T3.setTop (mkF m 45 #[.val (.ref r0), .val (.int p1), .val (.int p2), .val (.int p3), .val (.int p4), .val (.int (p4 / (p2 * p3))), .val (.int ((p4 / p3) % p2)), .val (.int (p4 % p3)), .val (.int t0), .val (.int t1), .val (.int (0 : Int32))] [(.int t0)])) (fun _ k => XS.iload X3.here hx rfl (hb hby d3_43) rfl k) ?_
  refine own_go (G := T3.setTop (mkF m 47 #[.val (.ref r0), .val (.int p1), .val (.int p2), .val (.int p3), .val (.int p4), .val (.int (p4 / (p2 * p3))), .val (.int ((p4 / p3) % p2)), .val (.int (p4 % p3)), .val (.int t0), .val (.int t1), .val (.int (0 : Int32))] [(.int (p4 / (p2 * p3))), (.int t0)])) (fun _ k => XS.iload X3.here hx rfl (hb hby d3_45) rfl k) ?_
  by_cases hc47 : t0 = (p4 / (p2 * p3))
  · skip
    refine own_go (G := T3.setTop (mkF m 50 #[.val (.ref r0), .val (.int p1), .val (.int p2), .val (.int p3), .val (.int p4), .val (.int (p4 / (p2 * p3))), .val (.int ((p4 / p3) % p2)), .val (.int (p4 % p3)), .val (.int t0), .val (.int t1), .val (.int (0 : Int32))] [])) (fun _ k => XS.icmpNo X3.here hx rfl (hb hby d3_47) rfl (teq hc47).2 k) ?_
    refine own_go (G := T3.setTop (mkF m 52 #[.val (.ref r0), .val (.int p1), .val (.int p2), .val (.int p3), .val (.int p4), .val (.int (p4 / (p2 * p3))), .val (.int ((p4 / p3) % p2)), .val (.int (p4 % p3)), .val (.int t0), .val (.int t1), .val (.int (0 : Int32))] [(.int t1)])) (fun _ k => XS.iload X3.here hx rfl (hb hby d3_50) rfl k) ?_
    refine own_go (G := T3.setTop (mkF m 54 #[.val (.ref r0), .val (.int p1), .val (.int p2), .val (.int p3), .val (.int p4), .val (.int (p4 / (p2 * p3))), .val (.int ((p4 / p3) % p2)), .val (.int (p4 % p3)), .val (.int t0), .val (.int t1), .val (.int (0 : Int32))] [(.int ((p4 / p3) % p2)), (.int t1)])) (fun _ k => XS.iload X3.here hx rfl (hb hby d3_52) rfl k) ?_
    by_cases hc54 : t1 = ((p4 / p3) % p2)
    · skip
      refine own_go (G := T3.setTop (mkF m 57 #[.val (.ref r0), .val (.int p1), .val (.int p2), .val (.int p3), .val (.int p4), .val (.int (p4 / (p2 * p3))), .val (.int ((p4 / p3) % p2)), .val (.int (p4 % p3)), .val (.int t0), .val (.int t1), .val (.int (0 : Int32))] [])) (fun _ k => XS.icmpNo X3.here hx rfl (hb hby d3_54) rfl (teq hc54).2 k) ?_
      refine own_go (G := T3.setTop (mkF m 59 #[.val (.ref r0), .val (.int p1), .val (.int p2), .val (.int p3), .val (.int p4), .val (.int (p4 / (p2 * p3))), .val (.int ((p4 / p3) % p2)), .val (.int (p4 % p3)), .val (.int t0), .val (.int t1), .val (.int (0 : Int32))] [(.int (0 : Int32))])) (fun _ k => XS.iload X3.here hx rfl (hb hby d3_57) rfl k) ?_
      refine own_go (G := T3.setTop (mkF m 61 #[.val (.ref r0), .val (.int p1), .val (.int p2), .val (.int p3), .val (.int p4), .val (.int (p4 / (p2 * p3))), .val (.int ((p4 / p3) % p2)), .val (.int (p4 % p3)), .val (.int t0), .val (.int t1), .val (.int (0 : Int32))] [(.int (p4 % p3)), (.int (0 : Int32))])) (fun _ k => XS.iload X3.here hx rfl (hb hby d3_59) rfl k) ?_
      by_cases hc61 : (0 : Int32) = (p4 % p3)
      · skip
        refine own_go (G := T3.setTop (mkF m 64 #[.val (.ref r0), .val (.int p1), .val (.int p2), .val (.int p3), .val (.int p4), .val (.int (p4 / (p2 * p3))), .val (.int ((p4 / p3) % p2)), .val (.int (p4 % p3)), .val (.int t0), .val (.int t1), .val (.int (0 : Int32))] [])) (fun _ k => XS.icmpNo X3.here hx rfl (hb hby d3_61) rfl (teq hc61).2 k) ?_
        refine own_go (G := T3.setTop (mkF m 65 #[.val (.ref r0), .val (.int p1), .val (.int p2), .val (.int p3), .val (.int p4), .val (.int (p4 / (p2 * p3))), .val (.int ((p4 / p3) % p2)), .val (.int (p4 % p3)), .val (.int t0), .val (.int t1), .val (.int (0 : Int32))] [(.int (1 : Int32))])) (fun _ k => XS.iconst X3.here hx rfl (hb hby d3_64) k) ?_
        refine own_go (G := T3.setTop (mkF m 69 #[.val (.ref r0), .val (.int p1), .val (.int p2), .val (.int p3), .val (.int p4), .val (.int (p4 / (p2 * p3))), .val (.int ((p4 / p3) % p2)), .val (.int (p4 % p3)), .val (.int t0), .val (.int t1), .val (.int (0 : Int32))] [(.int (1 : Int32))])) (fun _ k => XS.goto X3.here hx rfl (pc0 := 65) (pc' := 69) rfl (hb hby d3_65) (by decide) (by decide) k) ?_
        exact own_ret1 X3 hx Bd.returns (hb hby d3_69) Bd.notSynchronized (by decide) (by decide) ⟨congrArg (fun z => some (Value.int z)) (by simp only [own_R, if_pos hc47, if_pos hc54, if_pos hc61]), N3, Z3, Gn3⟩
      · skip
        refine own_go (G := T3.setTop (mkF m 68 #[.val (.ref r0), .val (.int p1), .val (.int p2), .val (.int p3), .val (.int p4), .val (.int (p4 / (p2 * p3))), .val (.int ((p4 / p3) % p2)), .val (.int (p4 % p3)), .val (.int t0), .val (.int t1), .val (.int (0 : Int32))] [])) (fun _ k => XS.icmpYes X3.here hx rfl (pc0 := 61) (pc' := 68) rfl (hb hby d3_61) rfl (feq hc61).2 (by decide) (by decide) k) ?_
        refine own_go (G := T3.setTop (mkF m 69 #[.val (.ref r0), .val (.int p1), .val (.int p2), .val (.int p3), .val (.int p4), .val (.int (p4 / (p2 * p3))), .val (.int ((p4 / p3) % p2)), .val (.int (p4 % p3)), .val (.int t0), .val (.int t1), .val (.int (0 : Int32))] [(.int (0 : Int32))])) (fun _ k => XS.iconst X3.here hx rfl (hb hby d3_68) k) ?_
        exact own_ret0 X3 hx Bd.returns (hb hby d3_69) Bd.notSynchronized (by decide) (by decide) ⟨congrArg (fun z => some (Value.int z)) (by simp only [own_R, if_pos hc47, if_pos hc54, if_neg hc61]), N3, Z3, Gn3⟩
    · skip
      refine own_go (G := T3.setTop (mkF m 68 #[.val (.ref r0), .val (.int p1), .val (.int p2), .val (.int p3), .val (.int p4), .val (.int (p4 / (p2 * p3))), .val (.int ((p4 / p3) % p2)), .val (.int (p4 % p3)), .val (.int t0), .val (.int t1), .val (.int (0 : Int32))] [])) (fun _ k => XS.icmpYes X3.here hx rfl (pc0 := 54) (pc' := 68) rfl (hb hby d3_54) rfl (feq hc54).2 (by decide) (by decide) k) ?_
      refine own_go (G := T3.setTop (mkF m 69 #[.val (.ref r0), .val (.int p1), .val (.int p2), .val (.int p3), .val (.int p4), .val (.int (p4 / (p2 * p3))), .val (.int ((p4 / p3) % p2)), .val (.int (p4 % p3)), .val (.int t0), .val (.int t1), .val (.int (0 : Int32))] [(.int (0 : Int32))])) (fun _ k => XS.iconst X3.here hx rfl (hb hby d3_68) k) ?_
      exact own_ret0 X3 hx Bd.returns (hb hby d3_69) Bd.notSynchronized (by decide) (by decide) ⟨congrArg (fun z => some (Value.int z)) (by simp only [own_R, if_pos hc47, if_neg hc54]), N3, Z3, Gn3⟩
  · skip
    refine own_go (G := T3.setTop (mkF m 68 #[.val (.ref r0), .val (.int p1), .val (.int p2), .val (.int p3), .val (.int p4), .val (.int (p4 / (p2 * p3))), .val (.int ((p4 / p3) % p2)), .val (.int (p4 % p3)), .val (.int t0), .val (.int t1), .val (.int (0 : Int32))] [])) (fun _ k => XS.icmpYes X3.here hx rfl (pc0 := 47) (pc' := 68) rfl (hb hby d3_47) rfl (feq hc47).2 (by decide) (by decide) k) ?_
    refine own_go (G := T3.setTop (mkF m 69 #[.val (.ref r0), .val (.int p1), .val (.int p2), .val (.int p3), .val (.int p4), .val (.int (p4 / (p2 * p3))), .val (.int ((p4 / p3) % p2)), .val (.int (p4 % p3)), .val (.int t0), .val (.int t1), .val (.int (0 : Int32))] [(.int (0 : Int32))])) (fun _ k => XS.iconst X3.here hx rfl (hb hby d3_68) k) ?_
    exact own_ret0 X3 hx Bd.returns (hb hby d3_69) Bd.notSynchronized (by decide) (by decide) ⟨congrArg (fun z => some (Value.int z)) (by simp only [own_R, if_neg hc47]), N3, Z3, Gn3⟩
theorem ef_run3 (m : MethodId) (r0 : Addr) (p1 : Int32) (p2 : Int32) (p3 : Int32) (p4 : Int32) : entryFrame m #[(.ref r0), (.int p1), (.int p2), (.int p3), (.int p4)] 11 = mkF m 0 #[.val (.ref r0), .val (.int p1), .val (.int p2), .val (.int p3), .val (.int p4), .unset, .unset, .unset, .unset, .unset, .unset] [] := by first | (simp [entryFrame, mkF, argsToLocals, Value.category]; done) | rfl
set_option maxRecDepth 65536 in
set_option maxHeartbeats 40000000 in
theorem run3 (l : Launch) (Z : State) (a0 : Array Value) (hw : ∀ d ∈ tables_1, d.before a0 Z = true) (ws : List Jvm.Cond) (r0 : Addr) (p1 : Int32) (p2 : Int32) (p3 : Int32) (p4 : Int32) (t0 : Int32) (t1 : Int32) (t2 : Int32) (u0 : Int32) (u1 : Int32) (u2 : Int32) (h0 : Heap) (n0 : Nat) (Z0 : n0 ≤ h0.size) (G : own_C Z h0 n0 r0 (0 : Int32) (3 : Int32) t0 t1 t2 u0 u1 u2) (z1 : (p2 * p3) ≠ 0) (z2 : p2 ≠ 0) (z3 : p3 ≠ 0) :
    MetFree l (⟨"com/example/mave/mave/engine/ChoicesNextPinLaw", "runIs", "(Lcom/example/mave/mave/engine/Choices;IIII)Z"⟩ : MethodName) (head1 (Jvm.Cond.code (⟨"com/example/mave/mave/engine/ChoicesNextPinLaw", "runIs", "(Lcom/example/mave/mave/engine/Choices;IIII)Z"⟩ : MethodName) method_3_code 11 (some .boolean) :: ws) ({ frames := 1, cells := 0, slots := 0, locals := 13 } : Room)) (fun a U => a = #[(.ref r0), (.int p1), (.int p2), (.int p3), (.int p4)] ∧ Z.Warmed39 U.vm ∧ U.heap = h0) (fun _ _ _ _ _ => True) (fun _ U o U' => ∃ v L, o = .returned v ∧ (own_QC Z r0 (3 : Int32) (3 : Int32) t0 t1 t2 u0 u1 u2 (some (.int (own_R t0 t1 t2 p2 p3 p4))) n0) v U'.heap L ∧ FrameEnd U o U' L 0 0) := by
  refine MetFree.of_bodySF (plainFor_of_name pn3) hisR ?_
  intro p e s m args below meth c s₁ Bd hml0 hP hK
  obtain ⟨rfl, hZ, hh⟩ := hP
  have hx := Bd.exec
  have hby := Bd.bytes
  have hml : c.maxLocals = 11 := hml0
  have hown : s.vm.findClass "com/example/mave/mave/engine/ChoicesNextPinLaw" = some m.cls := findClass_of_methodNamed Bd.named
  have hnm := (name_of_methodNamed Bd.named Bd.method).1
  have X0 : Stand p l e ({ frames := 1, cells := 0, slots := 0, locals := 13 } : Room) s m #[(.ref r0), (.int p1), (.int p2), (.int p3), (.int p4)] below meth c s₁ [] 0 0 := Stand.of_body Bd
  have e0 : s₁.heap = h0 := by rw [← hh, Bd.state]; rfl
  have N0 := Fr.nil n0
  obtain ⟨-, E_r0, -⟩ := id G
  show own_Goes p e below (own_End s (own_QC Z r0 (3 : Int32) (3 : Int32) t0 t1 t2 u0 u1 u2 (some (.int (own_R t0 t1 t2 p2 p3 p4))) n0) 0 0) _
  refine own_go (G := s₁.setTop (mkF m 0 #[.val (.ref r0), .val (.int p1), .val (.int p2), .val (.int p3), .val (.int p4), .unset, .unset, .unset, .unset, .unset, .unset] [])) (fun t k => castTop (ef_run3 m r0 p1 p2 p3 p4) k) ?_
  refine own_go (G := s₁.setTop (mkF m 2 #[.val (.ref r0), .val (.int p1), .val (.int p2), .val (.int p3), .val (.int p4), .unset, .unset, .unset, .unset, .unset, .unset] [(.int p4)])) (fun _ k => XS.iload X0.here hx rfl (hb hby d3_0) rfl k) ?_
  refine own_go (G := s₁.setTop (mkF m 3 #[.val (.ref r0), .val (.int p1), .val (.int p2), .val (.int p3), .val (.int p4), .unset, .unset, .unset, .unset, .unset, .unset] [(.int p2), (.int p4)])) (fun _ k => XS.iloadN X0.here hx rfl (hb hby d3_2) rfl k) ?_
  refine own_go (G := s₁.setTop (mkF m 4 #[.val (.ref r0), .val (.int p1), .val (.int p2), .val (.int p3), .val (.int p4), .unset, .unset, .unset, .unset, .unset, .unset] [(.int p3), (.int p2), (.int p4)])) (fun _ k => XS.iloadN X0.here hx rfl (hb hby d3_3) rfl k) ?_
  refine own_go (G := s₁.setTop (mkF m 5 #[.val (.ref r0), .val (.int p1), .val (.int p2), .val (.int p3), .val (.int p4), .unset, .unset, .unset, .unset, .unset, .unset] [(.int (p2 * p3)), (.int p4)])) (fun _ k => XS.imul X0.here hx rfl (hb hby d3_4) rfl k) ?_
  refine own_go (G := s₁.setTop (mkF m 6 #[.val (.ref r0), .val (.int p1), .val (.int p2), .val (.int p3), .val (.int p4), .unset, .unset, .unset, .unset, .unset, .unset] [(.int (p4 / (p2 * p3)))])) (fun _ k => XS.idiv X0.here hx rfl (hb hby d3_5) rfl z1 k) ?_
  refine own_go (G := s₁.setTop (mkF m 8 #[.val (.ref r0), .val (.int p1), .val (.int p2), .val (.int p3), .val (.int p4), .val (.int (p4 / (p2 * p3))), .unset, .unset, .unset, .unset, .unset] [])) (fun _ k => XS.istore X0.here hx rfl (hb hby d3_6) rfl (l' := #[.val (.ref r0), .val (.int p1), .val (.int p2), .val (.int p3), .val (.int p4), .val (.int (p4 / (p2 * p3))), .unset, .unset, .unset, .unset, .unset]) rfl k) ?_
  refine own_go (G := s₁.setTop (mkF m 10 #[.val (.ref r0), .val (.int p1), .val (.int p2), .val (.int p3), .val (.int p4), .val (.int (p4 / (p2 * p3))), .unset, .unset, .unset, .unset, .unset] [(.int p4)])) (fun _ k => XS.iload X0.here hx rfl (hb hby d3_8) rfl k) ?_
  refine own_go (G := s₁.setTop (mkF m 11 #[.val (.ref r0), .val (.int p1), .val (.int p2), .val (.int p3), .val (.int p4), .val (.int (p4 / (p2 * p3))), .unset, .unset, .unset, .unset, .unset] [(.int p3), (.int p4)])) (fun _ k => XS.iloadN X0.here hx rfl (hb hby d3_10) rfl k) ?_
  refine own_go (G := s₁.setTop (mkF m 12 #[.val (.ref r0), .val (.int p1), .val (.int p2), .val (.int p3), .val (.int p4), .val (.int (p4 / (p2 * p3))), .unset, .unset, .unset, .unset, .unset] [(.int (p4 / p3))])) (fun _ k => XS.idiv X0.here hx rfl (hb hby d3_11) rfl z3 k) ?_
  refine own_go (G := s₁.setTop (mkF m 13 #[.val (.ref r0), .val (.int p1), .val (.int p2), .val (.int p3), .val (.int p4), .val (.int (p4 / (p2 * p3))), .unset, .unset, .unset, .unset, .unset] [(.int p2), (.int (p4 / p3))])) (fun _ k => XS.iloadN X0.here hx rfl (hb hby d3_12) rfl k) ?_
  refine own_go (G := s₁.setTop (mkF m 14 #[.val (.ref r0), .val (.int p1), .val (.int p2), .val (.int p3), .val (.int p4), .val (.int (p4 / (p2 * p3))), .unset, .unset, .unset, .unset, .unset] [(.int ((p4 / p3) % p2))])) (fun _ k => iremM X0 hx rfl (hb hby d3_13) rfl z2 k) ?_
  refine own_go (G := s₁.setTop (mkF m 16 #[.val (.ref r0), .val (.int p1), .val (.int p2), .val (.int p3), .val (.int p4), .val (.int (p4 / (p2 * p3))), .val (.int ((p4 / p3) % p2)), .unset, .unset, .unset, .unset] [])) (fun _ k => XS.istore X0.here hx rfl (hb hby d3_14) rfl (l' := #[.val (.ref r0), .val (.int p1), .val (.int p2), .val (.int p3), .val (.int p4), .val (.int (p4 / (p2 * p3))), .val (.int ((p4 / p3) % p2)), .unset, .unset, .unset, .unset]) rfl k) ?_
  refine own_go (G := s₁.setTop (mkF m 18 #[.val (.ref r0), .val (.int p1), .val (.int p2), .val (.int p3), .val (.int p4), .val (.int (p4 / (p2 * p3))), .val (.int ((p4 / p3) % p2)), .unset, .unset, .unset, .unset] [(.int p4)])) (fun _ k => XS.iload X0.here hx rfl (hb hby d3_16) rfl k) ?_
  refine own_go (G := s₁.setTop (mkF m 19 #[.val (.ref r0), .val (.int p1), .val (.int p2), .val (.int p3), .val (.int p4), .val (.int (p4 / (p2 * p3))), .val (.int ((p4 / p3) % p2)), .unset, .unset, .unset, .unset] [(.int p3), (.int p4)])) (fun _ k => XS.iloadN X0.here hx rfl (hb hby d3_18) rfl k) ?_
  refine own_go (G := s₁.setTop (mkF m 20 #[.val (.ref r0), .val (.int p1), .val (.int p2), .val (.int p3), .val (.int p4), .val (.int (p4 / (p2 * p3))), .val (.int ((p4 / p3) % p2)), .unset, .unset, .unset, .unset] [(.int (p4 % p3))])) (fun _ k => iremM X0 hx rfl (hb hby d3_19) rfl z3 k) ?_
  refine own_go (G := s₁.setTop (mkF m 22 #[.val (.ref r0), .val (.int p1), .val (.int p2), .val (.int p3), .val (.int p4), .val (.int (p4 / (p2 * p3))), .val (.int ((p4 / p3) % p2)), .val (.int (p4 % p3)), .unset, .unset, .unset] [])) (fun _ k => XS.istore X0.here hx rfl (hb hby d3_20) rfl (l' := #[.val (.ref r0), .val (.int p1), .val (.int p2), .val (.int p3), .val (.int p4), .val (.int (p4 / (p2 * p3))), .val (.int ((p4 / p3) % p2)), .val (.int (p4 % p3)), .unset, .unset, .unset]) rfl k) ?_
  refine own_go (G := s₁.setTop (mkF m 23 #[.val (.ref r0), .val (.int p1), .val (.int p2), .val (.int p3), .val (.int p4), .val (.int (p4 / (p2 * p3))), .val (.int ((p4 / p3) % p2)), .val (.int (p4 % p3)), .unset, .unset, .unset] [(.ref r0)])) (fun _ k => XS.aloadN X0.here hx rfl (hb hby d3_22) rfl rfl k) ?_
  refine own_go (G := s₁.setTop (mkF m 24 #[.val (.ref r0), .val (.int p1), .val (.int p2), .val (.int p3), .val (.int p4), .val (.int (p4 / (p2 * p3))), .val (.int ((p4 / p3) % p2)), .val (.int (p4 % p3)), .unset, .unset, .unset] [(.int p1), (.ref r0)])) (fun _ k => XS.iloadN X0.here hx rfl (hb hby d3_23) rfl k) ?_
  obtain ⟨cq1, kq1, qk1a, qk1b, qk1c⟩ := isOf hZ e0 E_r0
  obtain ⟨_, _, ⟨T1, L1, k1, n1⟩, -, X1, ⟨Lc1, hQ1, l1, y1, z1⟩, st1⟩ := X0.virtualBack hx (y := (⟨"com/example/mave/mave/engine/Choices", "choose", "(I)I"⟩ : MethodName)) (z := (⟨"com/example/mave/mave/engine/Choices", "choose", "(I)I"⟩ : MethodName)) hown (mvT hZ (hw _ (List.mem_of_getElem? (i := 19) rfl))) (mvT hZ (hw _ (List.mem_of_getElem? (i := 20) rfl))) (notFace_of_selects (args := #[]) (mvT hZ (hw _ (List.mem_of_getElem? (i := 22) rfl)))) (mvT hZ (hw _ (List.mem_of_getElem? (i := 22) rfl))) (mvT hZ (hw _ (List.mem_of_getElem? (i := 21) rfl))) (by decide) (backOf (W := 0) (ch0r l Z a0 hw [] r0 p1 (3 : Int32) t0 t1 t2 u0 u1 u2 h0 n0 Z0 G (by decide)) hZ (hw _ (List.mem_of_getElem? (i := 23) rfl)) (hw _ (List.mem_of_getElem? (i := 3) rfl)) (by decide) (by decide)) qk1a qk1c (g := (mkF m 24 #[.val (.ref r0), .val (.int p1), .val (.int p2), .val (.int p3), .val (.int p4), .val (.int (p4 / (p2 * p3))), .val (.int ((p4 / p3) % p2)), .val (.int (p4 % p3)), .unset, .unset, .unset] [(.int p1), (.ref r0)])) rfl (by rw [hml]; rfl) (Steps.refl _) (argsL := [(.int p1)]) (rest := []) (lenOf pd0 rfl) rfl (by show 2 * 0 + _ ≤ _; exact Nat.le_of_eq rfl) (hb hby d3_24) (fun _ _ => ⟨rfl, e0, (by decide : 0 + 0 ≤ _), (by decide : 0 + 0 ≤ _)⟩)
  dsimp only [Pt.U, Pt.locs, Pt.cells, Pt.slots] at X1 l1 y1 z1 st1 hQ1
  subst l1 y1 z1
  obtain ⟨rfl, Nq1, Z1, Gq1⟩ := hQ1
  have N1 := Fr.app N0 Nq1
  have Gn1 : own_C Z T1.heap n0 r0 (1 : Int32) (3 : Int32) t0 t1 t2 u0 u1 u2 := Gq1
  obtain ⟨-, Eg1, -⟩ := id Gn1
  refine own_go (G := T1.setTop (mkF m 27 #[.val (.ref r0), .val (.int p1), .val (.int p2), .val (.int p3), .val (.int p4), .val (.int (p4 / (p2 * p3))), .val (.int ((p4 / p3) % p2)), .val (.int (p4 % p3)), .unset, .unset, .unset] [(.int t0)])) (fun _ k => st1.trans k) ?_
  refine own_go (G := T1.setTop (mkF m 29 #[.val (.ref r0), .val (.int p1), .val (.int p2), .val (.int p3), .val (.int p4), .val (.int (p4 / (p2 * p3))), .val (.int ((p4 / p3) % p2)), .val (.int (p4 % p3)), .val (.int t0), .unset, .unset] [])) (fun _ k => XS.istore X1.here hx rfl (hb hby d3_27) rfl (l' := #[.val (.ref r0), .val (.int p1), .val (.int p2), .val (.int p3), .val (.int p4), .val (.int (p4 / (p2 * p3))), .val (.int ((p4 / p3) % p2)), .val (.int (p4 % p3)), .val (.int t0), .unset, .unset]) rfl k) ?_
  refine own_go (G := T1.setTop (mkF m 30 #[.val (.ref r0), .val (.int p1), .val (.int p2), .val (.int p3), .val (.int p4), .val (.int (p4 / (p2 * p3))), .val (.int ((p4 / p3) % p2)), .val (.int (p4 % p3)), .val (.int t0), .unset, .unset] [(.ref r0)])) (fun _ k => XS.aloadN X1.here hx rfl (hb hby d3_29) rfl rfl k) ?_
  refine own_go (G := T1.setTop (mkF m 31 #[.val (.ref r0), .val (.int p1), .val (.int p2), .val (.int p3), .val (.int p4), .val (.int (p4 / (p2 * p3))), .val (.int ((p4 / p3) % p2)), .val (.int (p4 % p3)), .val (.int t0), .unset, .unset] [(.int p2), (.ref r0)])) (fun _ k => XS.iloadN X1.here hx rfl (hb hby d3_30) rfl k) ?_
  obtain ⟨cq2, kq2, qk2a, qk2b, qk2c⟩ := isOf hZ rfl Eg1
  obtain ⟨_, _, ⟨T2, L2, k2, n2⟩, -, X2, ⟨Lc2, hQ2, l2, y2, z2⟩, st2⟩ := X1.virtualBack hx (y := (⟨"com/example/mave/mave/engine/Choices", "choose", "(I)I"⟩ : MethodName)) (z := (⟨"com/example/mave/mave/engine/Choices", "choose", "(I)I"⟩ : MethodName)) hown (mvT hZ (hw _ (List.mem_of_getElem? (i := 19) rfl))) (mvT hZ (hw _ (List.mem_of_getElem? (i := 20) rfl))) (notFace_of_selects (args := #[]) (mvT hZ (hw _ (List.mem_of_getElem? (i := 22) rfl)))) (mvT hZ (hw _ (List.mem_of_getElem? (i := 22) rfl))) (mvT hZ (hw _ (List.mem_of_getElem? (i := 21) rfl))) (by decide) (backOf (W := 0) (ch1r l Z a0 hw [] r0 p2 (3 : Int32) t0 t1 t2 u0 u1 u2 T1.heap n0 Z1 Gn1 (by decide)) hZ (hw _ (List.mem_of_getElem? (i := 23) rfl)) (hw _ (List.mem_of_getElem? (i := 3) rfl)) (by decide) (by decide)) qk2a qk2c (g := (mkF m 31 #[.val (.ref r0), .val (.int p1), .val (.int p2), .val (.int p3), .val (.int p4), .val (.int (p4 / (p2 * p3))), .val (.int ((p4 / p3) % p2)), .val (.int (p4 % p3)), .val (.int t0), .unset, .unset] [(.int p2), (.ref r0)])) rfl (by rw [hml]; rfl) (Steps.refl _) (argsL := [(.int p2)]) (rest := []) (lenOf pd0 rfl) rfl (by show 2 * 0 + _ ≤ _; exact Nat.le_of_eq rfl) (hb hby d3_31) (fun _ _ => ⟨rfl, rfl, (by decide : 0 + 0 ≤ _), (by decide : 0 + 0 ≤ _)⟩)
  dsimp only [Pt.U, Pt.locs, Pt.cells, Pt.slots] at X2 l2 y2 z2 st2 hQ2
  subst l2 y2 z2
  obtain ⟨rfl, Nq2, Z2, Gq2⟩ := hQ2
  have N2 := Fr.app N1 Nq2
  have Gn2 : own_C Z T2.heap n0 r0 (2 : Int32) (3 : Int32) t0 t1 t2 u0 u1 u2 := Gq2
  obtain ⟨-, Eg2, -⟩ := id Gn2
  refine own_go (G := T2.setTop (mkF m 34 #[.val (.ref r0), .val (.int p1), .val (.int p2), .val (.int p3), .val (.int p4), .val (.int (p4 / (p2 * p3))), .val (.int ((p4 / p3) % p2)), .val (.int (p4 % p3)), .val (.int t0), .unset, .unset] [(.int t1)])) (fun _ k => st2.trans k) ?_
  refine own_go (G := T2.setTop (mkF m 36 #[.val (.ref r0), .val (.int p1), .val (.int p2), .val (.int p3), .val (.int p4), .val (.int (p4 / (p2 * p3))), .val (.int ((p4 / p3) % p2)), .val (.int (p4 % p3)), .val (.int t0), .val (.int t1), .unset] [])) (fun _ k => XS.istore X2.here hx rfl (hb hby d3_34) rfl (l' := #[.val (.ref r0), .val (.int p1), .val (.int p2), .val (.int p3), .val (.int p4), .val (.int (p4 / (p2 * p3))), .val (.int ((p4 / p3) % p2)), .val (.int (p4 % p3)), .val (.int t0), .val (.int t1), .unset]) rfl k) ?_
  refine own_go (G := T2.setTop (mkF m 37 #[.val (.ref r0), .val (.int p1), .val (.int p2), .val (.int p3), .val (.int p4), .val (.int (p4 / (p2 * p3))), .val (.int ((p4 / p3) % p2)), .val (.int (p4 % p3)), .val (.int t0), .val (.int t1), .unset] [(.ref r0)])) (fun _ k => XS.aloadN X2.here hx rfl (hb hby d3_36) rfl rfl k) ?_
  refine own_go (G := T2.setTop (mkF m 38 #[.val (.ref r0), .val (.int p1), .val (.int p2), .val (.int p3), .val (.int p4), .val (.int (p4 / (p2 * p3))), .val (.int ((p4 / p3) % p2)), .val (.int (p4 % p3)), .val (.int t0), .val (.int t1), .unset] [(.int p3), (.ref r0)])) (fun _ k => XS.iloadN X2.here hx rfl (hb hby d3_37) rfl k) ?_
  obtain ⟨cq3, kq3, qk3a, qk3b, qk3c⟩ := isOf hZ rfl Eg2
  obtain ⟨_, _, ⟨T3, L3, k3, n3⟩, -, X3, ⟨Lc3, hQ3, l3, y3, z3⟩, st3⟩ := X2.virtualBack hx (y := (⟨"com/example/mave/mave/engine/Choices", "choose", "(I)I"⟩ : MethodName)) (z := (⟨"com/example/mave/mave/engine/Choices", "choose", "(I)I"⟩ : MethodName)) hown (mvT hZ (hw _ (List.mem_of_getElem? (i := 19) rfl))) (mvT hZ (hw _ (List.mem_of_getElem? (i := 20) rfl))) (notFace_of_selects (args := #[]) (mvT hZ (hw _ (List.mem_of_getElem? (i := 22) rfl)))) (mvT hZ (hw _ (List.mem_of_getElem? (i := 22) rfl))) (mvT hZ (hw _ (List.mem_of_getElem? (i := 21) rfl))) (by decide) (backOf (W := 0) (ch2r l Z a0 hw [] r0 p3 (3 : Int32) t0 t1 t2 u0 u1 u2 T2.heap n0 Z2 Gn2 (by decide)) hZ (hw _ (List.mem_of_getElem? (i := 23) rfl)) (hw _ (List.mem_of_getElem? (i := 3) rfl)) (by decide) (by decide)) qk3a qk3c (g := (mkF m 38 #[.val (.ref r0), .val (.int p1), .val (.int p2), .val (.int p3), .val (.int p4), .val (.int (p4 / (p2 * p3))), .val (.int ((p4 / p3) % p2)), .val (.int (p4 % p3)), .val (.int t0), .val (.int t1), .unset] [(.int p3), (.ref r0)])) rfl (by rw [hml]; rfl) (Steps.refl _) (argsL := [(.int p3)]) (rest := []) (lenOf pd0 rfl) rfl (by show 2 * 0 + _ ≤ _; exact Nat.le_of_eq rfl) (hb hby d3_38) (fun _ _ => ⟨rfl, rfl, (by decide : 0 + 0 ≤ _), (by decide : 0 + 0 ≤ _)⟩)
  dsimp only [Pt.U, Pt.locs, Pt.cells, Pt.slots] at X3 l3 y3 z3 st3 hQ3
  subst l3 y3 z3
  obtain ⟨rfl, Nq3, Z3, Gq3⟩ := hQ3
  have N3 := Fr.app N2 Nq3
  have Gn3 : own_C Z T3.heap n0 r0 (3 : Int32) (3 : Int32) t0 t1 t2 u0 u1 u2 := Gq3
  obtain ⟨-, Eg3, -⟩ := id Gn3
  refine own_go (G := T3.setTop (mkF m 41 #[.val (.ref r0), .val (.int p1), .val (.int p2), .val (.int p3), .val (.int p4), .val (.int (p4 / (p2 * p3))), .val (.int ((p4 / p3) % p2)), .val (.int (p4 % p3)), .val (.int t0), .val (.int t1), .unset] [(.int t2)])) (fun _ k => st3.trans k) ?_
  refine own_go (G := T3.setTop (mkF m 43 #[.val (.ref r0), .val (.int p1), .val (.int p2), .val (.int p3), .val (.int p4), .val (.int (p4 / (p2 * p3))), .val (.int ((p4 / p3) % p2)), .val (.int (p4 % p3)), .val (.int t0), .val (.int t1), .val (.int t2)] [])) (fun _ k => XS.istore X3.here hx rfl (hb hby d3_41) rfl (l' := #[.val (.ref r0), .val (.int p1), .val (.int p2), .val (.int p3), .val (.int p4), .val (.int (p4 / (p2 * p3))), .val (.int ((p4 / p3) % p2)), .val (.int (p4 % p3)), .val (.int t0), .val (.int t1), .val (.int t2)]) rfl k) ?_
  refine own_go (G := T3.setTop (mkF m 45 #[.val (.ref r0), .val (.int p1), .val (.int p2), .val (.int p3), .val (.int p4), .val (.int (p4 / (p2 * p3))), .val (.int ((p4 / p3) % p2)), .val (.int (p4 % p3)), .val (.int t0), .val (.int t1), .val (.int t2)] [(.int t0)])) (fun _ k => XS.iload X3.here hx rfl (hb hby d3_43) rfl k) ?_
  refine own_go (G := T3.setTop (mkF m 47 #[.val (.ref r0), .val (.int p1), .val (.int p2), .val (.int p3), .val (.int p4), .val (.int (p4 / (p2 * p3))), .val (.int ((p4 / p3) % p2)), .val (.int (p4 % p3)), .val (.int t0), .val (.int t1), .val (.int t2)] [(.int (p4 / (p2 * p3))), (.int t0)])) (fun _ k => XS.iload X3.here hx rfl (hb hby d3_45) rfl k) ?_
  by_cases hc47 : t0 = (p4 / (p2 * p3))
  · skip
    refine own_go (G := T3.setTop (mkF m 50 #[.val (.ref r0), .val (.int p1), .val (.int p2), .val (.int p3), .val (.int p4), .val (.int (p4 / (p2 * p3))), .val (.int ((p4 / p3) % p2)), .val (.int (p4 % p3)), .val (.int t0), .val (.int t1), .val (.int t2)] [])) (fun _ k => XS.icmpNo X3.here hx rfl (hb hby d3_47) rfl (teq hc47).2 k) ?_
    refine own_go (G := T3.setTop (mkF m 52 #[.val (.ref r0), .val (.int p1), .val (.int p2), .val (.int p3), .val (.int p4), .val (.int (p4 / (p2 * p3))), .val (.int ((p4 / p3) % p2)), .val (.int (p4 % p3)), .val (.int t0), .val (.int t1), .val (.int t2)] [(.int t1)])) (fun _ k => XS.iload X3.here hx rfl (hb hby d3_50) rfl k) ?_
    refine own_go (G := T3.setTop (mkF m 54 #[.val (.ref r0), .val (.int p1), .val (.int p2), .val (.int p3), .val (.int p4), .val (.int (p4 / (p2 * p3))), .val (.int ((p4 / p3) % p2)), .val (.int (p4 % p3)), .val (.int t0), .val (.int t1), .val (.int t2)] [(.int ((p4 / p3) % p2)), (.int t1)])) (fun _ k => XS.iload X3.here hx rfl (hb hby d3_52) rfl k) ?_
    by_cases hc54 : t1 = ((p4 / p3) % p2)
    · skip
      refine own_go (G := T3.setTop (mkF m 57 #[.val (.ref r0), .val (.int p1), .val (.int p2), .val (.int p3), .val (.int p4), .val (.int (p4 / (p2 * p3))), .val (.int ((p4 / p3) % p2)), .val (.int (p4 % p3)), .val (.int t0), .val (.int t1), .val (.int t2)] [])) (fun _ k => XS.icmpNo X3.here hx rfl (hb hby d3_54) rfl (teq hc54).2 k) ?_
      refine own_go (G := T3.setTop (mkF m 59 #[.val (.ref r0), .val (.int p1), .val (.int p2), .val (.int p3), .val (.int p4), .val (.int (p4 / (p2 * p3))), .val (.int ((p4 / p3) % p2)), .val (.int (p4 % p3)), .val (.int t0), .val (.int t1), .val (.int t2)] [(.int t2)])) (fun _ k => XS.iload X3.here hx rfl (hb hby d3_57) rfl k) ?_
      refine own_go (G := T3.setTop (mkF m 61 #[.val (.ref r0), .val (.int p1), .val (.int p2), .val (.int p3), .val (.int p4), .val (.int (p4 / (p2 * p3))), .val (.int ((p4 / p3) % p2)), .val (.int (p4 % p3)), .val (.int t0), .val (.int t1), .val (.int t2)] [(.int (p4 % p3)), (.int t2)])) (fun _ k => XS.iload X3.here hx rfl (hb hby d3_59) rfl k) ?_
      by_cases hc61 : t2 = (p4 % p3)
      · skip
        refine own_go (G := T3.setTop (mkF m 64 #[.val (.ref r0), .val (.int p1), .val (.int p2), .val (.int p3), .val (.int p4), .val (.int (p4 / (p2 * p3))), .val (.int ((p4 / p3) % p2)), .val (.int (p4 % p3)), .val (.int t0), .val (.int t1), .val (.int t2)] [])) (fun _ k => XS.icmpNo X3.here hx rfl (hb hby d3_61) rfl (teq hc61).2 k) ?_
        refine own_go (G := T3.setTop (mkF m 65 #[.val (.ref r0), .val (.int p1), .val (.int p2), .val (.int p3), .val (.int p4), .val (.int (p4 / (p2 * p3))), .val (.int ((p4 / p3) % p2)), .val (.int (p4 % p3)), .val (.int t0), .val (.int t1), .val (.int t2)] [(.int (1 : Int32))])) (fun _ k => XS.iconst X3.here hx rfl (hb hby d3_64) k) ?_
        refine own_go (G := T3.setTop (mkF m 69 #[.val (.ref r0), .val (.int p1), .val (.int p2), .val (.int p3), .val (.int p4), .val (.int (p4 / (p2 * p3))), .val (.int ((p4 / p3) % p2)), .val (.int (p4 % p3)), .val (.int t0), .val (.int t1), .val (.int t2)] [(.int (1 : Int32))])) (fun _ k => XS.goto X3.here hx rfl (pc0 := 65) (pc' := 69) rfl (hb hby d3_65) (by decide) (by decide) k) ?_
        exact own_ret1 X3 hx Bd.returns (hb hby d3_69) Bd.notSynchronized (by decide) (by decide) ⟨congrArg (fun z => some (Value.int z)) (by simp only [own_R, if_pos hc47, if_pos hc54, if_pos hc61]), N3, Z3, Gn3⟩
      · skip
        refine own_go (G := T3.setTop (mkF m 68 #[.val (.ref r0), .val (.int p1), .val (.int p2), .val (.int p3), .val (.int p4), .val (.int (p4 / (p2 * p3))), .val (.int ((p4 / p3) % p2)), .val (.int (p4 % p3)), .val (.int t0), .val (.int t1), .val (.int t2)] [])) (fun _ k => XS.icmpYes X3.here hx rfl (pc0 := 61) (pc' := 68) rfl (hb hby d3_61) rfl (feq hc61).2 (by decide) (by decide) k) ?_
        refine own_go (G := T3.setTop (mkF m 69 #[.val (.ref r0), .val (.int p1), .val (.int p2), .val (.int p3), .val (.int p4), .val (.int (p4 / (p2 * p3))), .val (.int ((p4 / p3) % p2)), .val (.int (p4 % p3)), .val (.int t0), .val (.int t1), .val (.int t2)] [(.int (0 : Int32))])) (fun _ k => XS.iconst X3.here hx rfl (hb hby d3_68) k) ?_
        exact own_ret0 X3 hx Bd.returns (hb hby d3_69) Bd.notSynchronized (by decide) (by decide) ⟨congrArg (fun z => some (Value.int z)) (by simp only [own_R, if_pos hc47, if_pos hc54, if_neg hc61]), N3, Z3, Gn3⟩
    · skip
      refine own_go (G := T3.setTop (mkF m 68 #[.val (.ref r0), .val (.int p1), .val (.int p2), .val (.int p3), .val (.int p4), .val (.int (p4 / (p2 * p3))), .val (.int ((p4 / p3) % p2)), .val (.int (p4 % p3)), .val (.int t0), .val (.int t1), .val (.int t2)] [])) (fun _ k => XS.icmpYes X3.here hx rfl (pc0 := 54) (pc' := 68) rfl (hb hby d3_54) rfl (feq hc54).2 (by decide) (by decide) k) ?_
      refine own_go (G := T3.setTop (mkF m 69 #[.val (.ref r0), .val (.int p1), .val (.int p2), .val (.int p3), .val (.int p4), .val (.int (p4 / (p2 * p3))), .val (.int ((p4 / p3) % p2)), .val (.int (p4 % p3)), .val (.int t0), .val (.int t1), .val (.int t2)] [(.int (0 : Int32))])) (fun _ k => XS.iconst X3.here hx rfl (hb hby d3_68) k) ?_
      exact own_ret0 X3 hx Bd.returns (hb hby d3_69) Bd.notSynchronized (by decide) (by decide) ⟨congrArg (fun z => some (Value.int z)) (by simp only [own_R, if_pos hc47, if_neg hc54]), N3, Z3, Gn3⟩
  · skip
    refine own_go (G := T3.setTop (mkF m 68 #[.val (.ref r0), .val (.int p1), .val (.int p2), .val (.int p3), .val (.int p4), .val (.int (p4 / (p2 * p3))), .val (.int ((p4 / p3) % p2)), .val (.int (p4 % p3)), .val (.int t0), .val (.int t1), .val (.int t2)] [])) (fun _ k => XS.icmpYes X3.here hx rfl (pc0 := 47) (pc' := 68) rfl (hb hby d3_47) rfl (feq hc47).2 (by decide) (by decide) k) ?_
    refine own_go (G := T3.setTop (mkF m 69 #[.val (.ref r0), .val (.int p1), .val (.int p2), .val (.int p3), .val (.int p4), .val (.int (p4 / (p2 * p3))), .val (.int ((p4 / p3) % p2)), .val (.int (p4 % p3)), .val (.int t0), .val (.int t1), .val (.int t2)] [(.int (0 : Int32))])) (fun _ k => XS.iconst X3.here hx rfl (hb hby d3_68) k) ?_
    exact own_ret0 X3 hx Bd.returns (hb hby d3_69) Bd.notSynchronized (by decide) (by decide) ⟨congrArg (fun z => some (Value.int z)) (by simp only [own_R, if_neg hc47]), N3, Z3, Gn3⟩
theorem d5_0 : decode prog_8_method_4_code 0 = .ok (.aload_n 0, 1) := by decide +kernel
theorem d5_1 : decode prog_8_method_4_code 1 = .ok (.getfield 16, 3) := by decide +kernel
theorem d5_4 : decode prog_8_method_4_code 4 = .ok (.iconst 1, 1) := by decide +kernel
theorem d5_5 : decode prog_8_method_4_code 5 = .ok (.isub, 1) := by decide +kernel
theorem d5_6 : decode prog_8_method_4_code 6 = .ok (.istore_n 1, 1) := by decide +kernel
theorem d5_7 : decode prog_8_method_4_code 7 = .ok (.iload_n 1, 1) := by decide +kernel
theorem d5_8 : decode prog_8_method_4_code 8 = .ok (.ifCond .lt 26, 3) := by decide +kernel
theorem d5_11 : decode prog_8_method_4_code 11 = .ok (.aload_n 0, 1) := by decide +kernel
theorem d5_12 : decode prog_8_method_4_code 12 = .ok (.getfield 7, 3) := by decide +kernel
theorem d5_15 : decode prog_8_method_4_code 15 = .ok (.iload_n 1, 1) := by decide +kernel
theorem d5_16 : decode prog_8_method_4_code 16 = .ok (.iaload, 1) := by decide +kernel
theorem d5_17 : decode prog_8_method_4_code 17 = .ok (.iconst 1, 1) := by decide +kernel
theorem d5_18 : decode prog_8_method_4_code 18 = .ok (.iadd, 1) := by decide +kernel
theorem d5_19 : decode prog_8_method_4_code 19 = .ok (.aload_n 0, 1) := by decide +kernel
theorem d5_20 : decode prog_8_method_4_code 20 = .ok (.getfield 13, 3) := by decide +kernel
theorem d5_23 : decode prog_8_method_4_code 23 = .ok (.iload_n 1, 1) := by decide +kernel
theorem d5_24 : decode prog_8_method_4_code 24 = .ok (.iaload, 1) := by decide +kernel
theorem d5_25 : decode prog_8_method_4_code 25 = .ok (.if_icmp .ne 9, 3) := by decide +kernel
theorem d5_28 : decode prog_8_method_4_code 28 = .ok (.iinc 1 (-1), 3) := by decide +kernel
theorem d5_31 : decode prog_8_method_4_code 31 = .ok (.goto (-24), 3) := by decide +kernel
theorem d5_34 : decode prog_8_method_4_code 34 = .ok (.iload_n 1, 1) := by decide +kernel
theorem d5_35 : decode prog_8_method_4_code 35 = .ok (.ifCond .ge 5, 3) := by decide +kernel
theorem d5_38 : decode prog_8_method_4_code 38 = .ok (.iconst 0, 1) := by decide +kernel
theorem d5_39 : decode prog_8_method_4_code 39 = .ok (.ireturn, 1) := by decide +kernel
theorem d5_40 : decode prog_8_method_4_code 40 = .ok (.aload_n 0, 1) := by decide +kernel
theorem d5_41 : decode prog_8_method_4_code 41 = .ok (.getfield 7, 3) := by decide +kernel
theorem d5_44 : decode prog_8_method_4_code 44 = .ok (.iload_n 1, 1) := by decide +kernel
theorem d5_45 : decode prog_8_method_4_code 45 = .ok (.dup2, 1) := by decide +kernel
theorem d5_46 : decode prog_8_method_4_code 46 = .ok (.iaload, 1) := by decide +kernel
theorem d5_47 : decode prog_8_method_4_code 47 = .ok (.iconst 1, 1) := by decide +kernel
theorem d5_48 : decode prog_8_method_4_code 48 = .ok (.iadd, 1) := by decide +kernel
theorem d5_49 : decode prog_8_method_4_code 49 = .ok (.iastore, 1) := by decide +kernel
theorem d5_50 : decode prog_8_method_4_code 50 = .ok (.aload_n 0, 1) := by decide +kernel
theorem d5_51 : decode prog_8_method_4_code 51 = .ok (.iload_n 1, 1) := by decide +kernel
theorem d5_52 : decode prog_8_method_4_code 52 = .ok (.iconst 1, 1) := by decide +kernel
theorem d5_53 : decode prog_8_method_4_code 53 = .ok (.iadd, 1) := by decide +kernel
theorem d5_54 : decode prog_8_method_4_code 54 = .ok (.putfield 20, 3) := by decide +kernel
theorem d5_57 : decode prog_8_method_4_code 57 = .ok (.aload_n 0, 1) := by decide +kernel
theorem d5_58 : decode prog_8_method_4_code 58 = .ok (.iconst 0, 1) := by decide +kernel
theorem d5_59 : decode prog_8_method_4_code 59 = .ok (.putfield 16, 3) := by decide +kernel
theorem d5_62 : decode prog_8_method_4_code 62 = .ok (.iconst 1, 1) := by decide +kernel
theorem d5_63 : decode prog_8_method_4_code 63 = .ok (.ireturn, 1) := by decide +kernel
theorem pn5 : plainName "com/example/mave/mave/engine/Choices" = true := by first | (simp [plainName, overriddenIn]; done) | decide +kernel
theorem ef_rm5 (m : MethodId) (r0 : Addr) : entryFrame m #[(.ref r0)] 2 = mkF m 0 #[.val (.ref r0), .unset] [] := by first | (simp [entryFrame, mkF, argsToLocals, Value.category]; done) | rfl
set_option maxRecDepth 65536 in
set_option maxHeartbeats 40000000 in
theorem rm5 (l : Launch) (Z : State) (a0 : Array Value) (hw : ∀ d ∈ tables_1, d.before a0 Z = true) (ws : List Jvm.Cond) (r0 : Addr) (rp : Int32) (t0 : Int32) (t1 : Int32) (t2 : Int32) (u0 : Int32) (u1 : Int32) (u2 : Int32) (h0 : Heap) (n0 : Nat) (Z0 : n0 ≤ h0.size) (G : own_C Z h0 n0 r0 (3 : Int32) rp t0 t1 t2 u0 u1 u2) :
    MetFree l (⟨"com/example/mave/mave/engine/Choices", "next", "()Z"⟩ : MethodName) (head1 (Jvm.Cond.code (⟨"com/example/mave/mave/engine/Choices", "next", "()Z"⟩ : MethodName) prog_8_method_4_code 2 (some .boolean) :: ws) ({ frames := 0, cells := 0, slots := 0, locals := 0 } : Room)) (fun a U => a = #[(.ref r0)] ∧ Z.Warmed39 U.vm ∧ U.heap = h0) (fun _ _ _ _ _ => True) (fun _ U o U' => ∃ v L, o = .returned v ∧ (own_QN Z r0 t0 t1 t2 u0 u1 u2 n0) v U'.heap L ∧ FrameEnd U o U' L 0 0) := by
  refine MetFree.of_bodySF (plainFor_of_name pn5) hisR ?_
  intro p e s m args below meth c s₁ Bd hml0 hP hK
  obtain ⟨rfl, hZ, hh⟩ := hP
  have hx := Bd.exec
  have hby := Bd.bytes
  have hml : c.maxLocals = 2 := hml0
  have hown : s.vm.findClass "com/example/mave/mave/engine/Choices" = some m.cls := findClass_of_methodNamed Bd.named
  have hnm := (name_of_methodNamed Bd.named Bd.method).1
  have X0 : Stand p l e ({ frames := 0, cells := 0, slots := 0, locals := 0 } : Room) s m #[(.ref r0)] below meth c s₁ [] 0 0 := Stand.of_body Bd
  have e0 : s₁.heap = h0 := by rw [← hh, Bd.state]; rfl
  have N0 := Fr.nil n0
  obtain ⟨gn_r0, E_r0, F_made, F_rep, b1, b2, k1, k2, gn_b1, gn_b2, ne_r0_b1, ne_r0_b2, ne_b1_b2, F_taken, F_alt, V_b1, V_b2⟩ := G
  show own_Goes p e below (own_End s (own_QN Z r0 t0 t1 t2 u0 u1 u2 n0) 0 0) _
  refine own_go (G := s₁.setTop (mkF m 0 #[.val (.ref r0), .unset] [])) (fun t k => castTop (ef_rm5 m r0) k) ?_
  refine own_go (G := s₁.setTop (mkF m 1 #[.val (.ref r0), .unset] [(.ref r0)])) (fun _ k => XS.aloadN X0.here hx rfl (hb hby d5_0) rfl rfl k) ?_
  obtain ⟨T1, X1, e1, st1⟩ := getF X0 hx hZ hown (host := "") (Or.inl (hw _ (List.mem_of_getElem? (i := 24) rfl))) Via.refl e0 F_made (g := (mkF m 1 #[.val (.ref r0), .unset] [(.ref r0)])) rfl rfl (hb hby d5_1)
  refine own_go (G := T1.setTop (mkF m 4 #[.val (.ref r0), .unset] [(.int (3 : Int32))])) (st1) ?_
  refine own_go (G := T1.setTop (mkF m 5 #[.val (.ref r0), .unset] [(.int (1 : Int32)), (.int (3 : Int32))])) (fun _ k => XS.iconst X1.here hx rfl (hb hby d5_4) k) ?_
  refine own_go (G := T1.setTop (mkF m 6 #[.val (.ref r0), .unset] [(.int ((3 : Int32) - (1 : Int32)))])) (fun _ k => XS.isub X1.here hx rfl (hb hby d5_5) rfl k) ?_
  rw [show ((3 : Int32) - (1 : Int32)) = (2 : Int32) from by decide]
  refine own_go (G := T1.setTop (mkF m 7 #[.val (.ref r0), .val (.int (2 : Int32))] [])) (fun _ k => XS.istoreN X1.here hx rfl (hb hby d5_6) rfl (l' := #[.val (.ref r0), .val (.int (2 : Int32))]) rfl k) ?_
  refine own_go (G := T1.setTop (mkF m 8 #[.val (.ref r0), .val (.int (2 : Int32))] [(.int (2 : Int32))])) (fun _ k => XS.iloadN X1.here hx rfl (hb hby d5_7) rfl k) ?_
  refine own_go (G := T1.setTop (mkF m 11 #[.val (.ref r0), .val (.int (2 : Int32))] [])) (fun _ k => XS.ifNo X1.here hx rfl (hb hby d5_8) rfl ((if0 _ _).trans (flt (by decide : ¬ ((2 : Int32) < (0 : Int32)))).1) k) ?_
  refine own_go (G := T1.setTop (mkF m 12 #[.val (.ref r0), .val (.int (2 : Int32))] [(.ref r0)])) (fun _ k => XS.aloadN X1.here hx rfl (hb hby d5_11) rfl rfl k) ?_
  obtain ⟨T2, X2, e2, st2⟩ := getF X1 hx hZ hown (host := "") (Or.inl (hw _ (List.mem_of_getElem? (i := 11) rfl))) Via.refl e1 F_taken (g := (mkF m 12 #[.val (.ref r0), .val (.int (2 : Int32))] [(.ref r0)])) rfl rfl (hb hby d5_12)
  refine own_go (G := T2.setTop (mkF m 15 #[.val (.ref r0), .val (.int (2 : Int32))] [(.ref b1)])) (st2) ?_
  refine own_go (G := T2.setTop (mkF m 16 #[.val (.ref r0), .val (.int (2 : Int32))] [(.int (2 : Int32)), (.ref b1)])) (fun _ k => XS.iloadN X2.here hx rfl (hb hby d5_15) rfl k) ?_
  obtain ⟨cl3, Ar3, qk3, S3, N3_, Ha3, G3⟩ := id V_b1
  have hin3 : ¬ ((2 : Int32) < 0 ∨ cl3.slots.size ≤ ((2 : Int32)).toNatClampNeg) := inb_of S3 ⟨by decide, by decide⟩
  have hat3 : cl3.slots[((2 : Int32)).toNatClampNeg]? = some (.int t2) := Ha3.at hin3 rfl
  refine own_go (G := T2.setTop (mkF m 17 #[.val (.ref r0), .val (.int (2 : Int32))] [(.int t2)])) (X2.iaload hx (j := (2 : Int32)) (v := (.int t2)) (by rw [e2]; exact Ar3.1) (State.isArrayOf_alike hZ.alike Ar3.2.1) Ar3.2.2 hin3 hat3 (g := (mkF m 16 #[.val (.ref r0), .val (.int (2 : Int32))] [(.int (2 : Int32)), (.ref b1)])) rfl rfl (hb hby d5_16)) ?_
  refine own_go (G := T2.setTop (mkF m 18 #[.val (.ref r0), .val (.int (2 : Int32))] [(.int (1 : Int32)), (.int t2)])) (fun _ k => XS.iconst X2.here hx rfl (hb hby d5_17) k) ?_
  refine own_go (G := T2.setTop (mkF m 19 #[.val (.ref r0), .val (.int (2 : Int32))] [(.int (t2 + (1 : Int32)))])) (fun _ k => XS.iadd X2.here hx rfl (hb hby d5_18) rfl k) ?_
  refine own_go (G := T2.setTop (mkF m 20 #[.val (.ref r0), .val (.int (2 : Int32))] [(.ref r0), (.int (t2 + (1 : Int32)))])) (fun _ k => XS.aloadN X2.here hx rfl (hb hby d5_19) rfl rfl k) ?_
  obtain ⟨T4, X4, e4, st4⟩ := getF X2 hx hZ hown (host := "") (Or.inl (hw _ (List.mem_of_getElem? (i := 13) rfl))) Via.refl e2 F_alt (g := (mkF m 20 #[.val (.ref r0), .val (.int (2 : Int32))] [(.ref r0), (.int (t2 + (1 : Int32)))])) rfl rfl (hb hby d5_20)
  refine own_go (G := T4.setTop (mkF m 23 #[.val (.ref r0), .val (.int (2 : Int32))] [(.ref b2), (.int (t2 + (1 : Int32)))])) (st4) ?_
  refine own_go (G := T4.setTop (mkF m 24 #[.val (.ref r0), .val (.int (2 : Int32))] [(.int (2 : Int32)), (.ref b2), (.int (t2 + (1 : Int32)))])) (fun _ k => XS.iloadN X4.here hx rfl (hb hby d5_23) rfl k) ?_
  obtain ⟨cl5, Ar5, qk5, S5, N5_, Ha5, G5⟩ := id V_b2
  have hin5 : ¬ ((2 : Int32) < 0 ∨ cl5.slots.size ≤ ((2 : Int32)).toNatClampNeg) := inb_of S5 ⟨by decide, by decide⟩
  have hat5 : cl5.slots[((2 : Int32)).toNatClampNeg]? = some (.int u2) := Ha5.at hin5 rfl
  refine own_go (G := T4.setTop (mkF m 25 #[.val (.ref r0), .val (.int (2 : Int32))] [(.int u2), (.int (t2 + (1 : Int32)))])) (X4.iaload hx (j := (2 : Int32)) (v := (.int u2)) (by rw [e4]; exact Ar5.1) (State.isArrayOf_alike hZ.alike Ar5.2.1) Ar5.2.2 hin5 hat5 (g := (mkF m 24 #[.val (.ref r0), .val (.int (2 : Int32))] [(.int (2 : Int32)), (.ref b2), (.int (t2 + (1 : Int32)))])) rfl rfl (hb hby d5_24)) ?_
  by_cases hc25 : (t2 + (1 : Int32)) = u2
  · skip
    refine own_go (G := T4.setTop (mkF m 28 #[.val (.ref r0), .val (.int (2 : Int32))] [])) (fun _ k => XS.icmpNo X4.here hx rfl (hb hby d5_25) rfl (teq hc25).2 k) ?_
    refine own_go (G := T4.setTop (mkF m 31 #[.val (.ref r0), .val (.int ((2 : Int32) + (-1 : Int32)))] [])) (fun _ k => XS.iinc X4.here hx rfl (hb hby d5_28) rfl (l' := #[.val (.ref r0), .val (.int ((2 : Int32) + (-1 : Int32)))]) rfl k) ?_
    rw [show ((2 : Int32) + (-1 : Int32)) = (1 : Int32) from by decide]
    refine own_go (G := T4.setTop (mkF m 7 #[.val (.ref r0), .val (.int (1 : Int32))] [])) (fun _ k => XS.goto X4.here hx rfl (pc0 := 31) (pc' := 7) rfl (hb hby d5_31) (by decide) (by decide) k) ?_
    refine own_go (G := T4.setTop (mkF m 8 #[.val (.ref r0), .val (.int (1 : Int32))] [(.int (1 : Int32))])) (fun _ k => XS.iloadN X4.here hx rfl (hb hby d5_7) rfl k) ?_
    refine own_go (G := T4.setTop (mkF m 11 #[.val (.ref r0), .val (.int (1 : Int32))] [])) (fun _ k => XS.ifNo X4.here hx rfl (hb hby d5_8) rfl ((if0 _ _).trans (flt (by decide : ¬ ((1 : Int32) < (0 : Int32)))).1) k) ?_
    refine own_go (G := T4.setTop (mkF m 12 #[.val (.ref r0), .val (.int (1 : Int32))] [(.ref r0)])) (fun _ k => XS.aloadN X4.here hx rfl (hb hby d5_11) rfl rfl k) ?_
    obtain ⟨T6, X6, e6, st6⟩ := getF X4 hx hZ hown (host := "") (Or.inl (hw _ (List.mem_of_getElem? (i := 11) rfl))) Via.refl e4 F_taken (g := (mkF m 12 #[.val (.ref r0), .val (.int (1 : Int32))] [(.ref r0)])) rfl rfl (hb hby d5_12)
    refine own_go (G := T6.setTop (mkF m 15 #[.val (.ref r0), .val (.int (1 : Int32))] [(.ref b1)])) (st6) ?_
    refine own_go (G := T6.setTop (mkF m 16 #[.val (.ref r0), .val (.int (1 : Int32))] [(.int (1 : Int32)), (.ref b1)])) (fun _ k => XS.iloadN X6.here hx rfl (hb hby d5_15) rfl k) ?_
    obtain ⟨cl7, Ar7, qk7, S7, N7_, Ha7, G7⟩ := id V_b1
    have hin7 : ¬ ((1 : Int32) < 0 ∨ cl7.slots.size ≤ ((1 : Int32)).toNatClampNeg) := inb_of S7 ⟨by decide, by decide⟩
    have hat7 : cl7.slots[((1 : Int32)).toNatClampNeg]? = some (.int t1) := Ha7.at hin7 rfl
    refine own_go (G := T6.setTop (mkF m 17 #[.val (.ref r0), .val (.int (1 : Int32))] [(.int t1)])) (X6.iaload hx (j := (1 : Int32)) (v := (.int t1)) (by rw [e6]; exact Ar7.1) (State.isArrayOf_alike hZ.alike Ar7.2.1) Ar7.2.2 hin7 hat7 (g := (mkF m 16 #[.val (.ref r0), .val (.int (1 : Int32))] [(.int (1 : Int32)), (.ref b1)])) rfl rfl (hb hby d5_16)) ?_
    refine own_go (G := T6.setTop (mkF m 18 #[.val (.ref r0), .val (.int (1 : Int32))] [(.int (1 : Int32)), (.int t1)])) (fun _ k => XS.iconst X6.here hx rfl (hb hby d5_17) k) ?_
    refine own_go (G := T6.setTop (mkF m 19 #[.val (.ref r0), .val (.int (1 : Int32))] [(.int (t1 + (1 : Int32)))])) (fun _ k => XS.iadd X6.here hx rfl (hb hby d5_18) rfl k) ?_
    refine own_go (G := T6.setTop (mkF m 20 #[.val (.ref r0), .val (.int (1 : Int32))] [(.ref r0), (.int (t1 + (1 : Int32)))])) (fun _ k => XS.aloadN X6.here hx rfl (hb hby d5_19) rfl rfl k) ?_
    obtain ⟨T8, X8, e8, st8⟩ := getF X6 hx hZ hown (host := "") (Or.inl (hw _ (List.mem_of_getElem? (i := 13) rfl))) Via.refl e6 F_alt (g := (mkF m 20 #[.val (.ref r0), .val (.int (1 : Int32))] [(.ref r0), (.int (t1 + (1 : Int32)))])) rfl rfl (hb hby d5_20)
    refine own_go (G := T8.setTop (mkF m 23 #[.val (.ref r0), .val (.int (1 : Int32))] [(.ref b2), (.int (t1 + (1 : Int32)))])) (st8) ?_
    refine own_go (G := T8.setTop (mkF m 24 #[.val (.ref r0), .val (.int (1 : Int32))] [(.int (1 : Int32)), (.ref b2), (.int (t1 + (1 : Int32)))])) (fun _ k => XS.iloadN X8.here hx rfl (hb hby d5_23) rfl k) ?_
    obtain ⟨cl9, Ar9, qk9, S9, N9_, Ha9, G9⟩ := id V_b2
    have hin9 : ¬ ((1 : Int32) < 0 ∨ cl9.slots.size ≤ ((1 : Int32)).toNatClampNeg) := inb_of S9 ⟨by decide, by decide⟩
    have hat9 : cl9.slots[((1 : Int32)).toNatClampNeg]? = some (.int u1) := Ha9.at hin9 rfl
    refine own_go (G := T8.setTop (mkF m 25 #[.val (.ref r0), .val (.int (1 : Int32))] [(.int u1), (.int (t1 + (1 : Int32)))])) (X8.iaload hx (j := (1 : Int32)) (v := (.int u1)) (by rw [e8]; exact Ar9.1) (State.isArrayOf_alike hZ.alike Ar9.2.1) Ar9.2.2 hin9 hat9 (g := (mkF m 24 #[.val (.ref r0), .val (.int (1 : Int32))] [(.int (1 : Int32)), (.ref b2), (.int (t1 + (1 : Int32)))])) rfl rfl (hb hby d5_24)) ?_
    by_cases hc25_1 : (t1 + (1 : Int32)) = u1
    · skip
      refine own_go (G := T8.setTop (mkF m 28 #[.val (.ref r0), .val (.int (1 : Int32))] [])) (fun _ k => XS.icmpNo X8.here hx rfl (hb hby d5_25) rfl (teq hc25_1).2 k) ?_
      refine own_go (G := T8.setTop (mkF m 31 #[.val (.ref r0), .val (.int ((1 : Int32) + (-1 : Int32)))] [])) (fun _ k => XS.iinc X8.here hx rfl (hb hby d5_28) rfl (l' := #[.val (.ref r0), .val (.int ((1 : Int32) + (-1 : Int32)))]) rfl k) ?_
      rw [show ((1 : Int32) + (-1 : Int32)) = (0 : Int32) from by decide]
      refine own_go (G := T8.setTop (mkF m 7 #[.val (.ref r0), .val (.int (0 : Int32))] [])) (fun _ k => XS.goto X8.here hx rfl (pc0 := 31) (pc' := 7) rfl (hb hby d5_31) (by decide) (by decide) k) ?_
      refine own_go (G := T8.setTop (mkF m 8 #[.val (.ref r0), .val (.int (0 : Int32))] [(.int (0 : Int32))])) (fun _ k => XS.iloadN X8.here hx rfl (hb hby d5_7) rfl k) ?_
      refine own_go (G := T8.setTop (mkF m 11 #[.val (.ref r0), .val (.int (0 : Int32))] [])) (fun _ k => XS.ifNo X8.here hx rfl (hb hby d5_8) rfl ((if0 _ _).trans (flt (by decide : ¬ ((0 : Int32) < (0 : Int32)))).1) k) ?_
      refine own_go (G := T8.setTop (mkF m 12 #[.val (.ref r0), .val (.int (0 : Int32))] [(.ref r0)])) (fun _ k => XS.aloadN X8.here hx rfl (hb hby d5_11) rfl rfl k) ?_
      obtain ⟨T10, X10, e10, st10⟩ := getF X8 hx hZ hown (host := "") (Or.inl (hw _ (List.mem_of_getElem? (i := 11) rfl))) Via.refl e8 F_taken (g := (mkF m 12 #[.val (.ref r0), .val (.int (0 : Int32))] [(.ref r0)])) rfl rfl (hb hby d5_12)
      refine own_go (G := T10.setTop (mkF m 15 #[.val (.ref r0), .val (.int (0 : Int32))] [(.ref b1)])) (st10) ?_
      refine own_go (G := T10.setTop (mkF m 16 #[.val (.ref r0), .val (.int (0 : Int32))] [(.int (0 : Int32)), (.ref b1)])) (fun _ k => XS.iloadN X10.here hx rfl (hb hby d5_15) rfl k) ?_
      obtain ⟨cl11, Ar11, qk11, S11, N11_, Ha11, G11⟩ := id V_b1
      have hin11 : ¬ ((0 : Int32) < 0 ∨ cl11.slots.size ≤ ((0 : Int32)).toNatClampNeg) := inb_of S11 ⟨by decide, by decide⟩
      have hat11 : cl11.slots[((0 : Int32)).toNatClampNeg]? = some (.int t0) := Ha11.at hin11 rfl
      refine own_go (G := T10.setTop (mkF m 17 #[.val (.ref r0), .val (.int (0 : Int32))] [(.int t0)])) (X10.iaload hx (j := (0 : Int32)) (v := (.int t0)) (by rw [e10]; exact Ar11.1) (State.isArrayOf_alike hZ.alike Ar11.2.1) Ar11.2.2 hin11 hat11 (g := (mkF m 16 #[.val (.ref r0), .val (.int (0 : Int32))] [(.int (0 : Int32)), (.ref b1)])) rfl rfl (hb hby d5_16)) ?_
      refine own_go (G := T10.setTop (mkF m 18 #[.val (.ref r0), .val (.int (0 : Int32))] [(.int (1 : Int32)), (.int t0)])) (fun _ k => XS.iconst X10.here hx rfl (hb hby d5_17) k) ?_
      refine own_go (G := T10.setTop (mkF m 19 #[.val (.ref r0), .val (.int (0 : Int32))] [(.int (t0 + (1 : Int32)))])) (fun _ k => XS.iadd X10.here hx rfl (hb hby d5_18) rfl k) ?_
      refine own_go (G := T10.setTop (mkF m 20 #[.val (.ref r0), .val (.int (0 : Int32))] [(.ref r0), (.int (t0 + (1 : Int32)))])) (fun _ k => XS.aloadN X10.here hx rfl (hb hby d5_19) rfl rfl k) ?_
      obtain ⟨T12, X12, e12, st12⟩ := getF X10 hx hZ hown (host := "") (Or.inl (hw _ (List.mem_of_getElem? (i := 13) rfl))) Via.refl e10 F_alt (g := (mkF m 20 #[.val (.ref r0), .val (.int (0 : Int32))] [(.ref r0), (.int (t0 + (1 : Int32)))])) rfl rfl (hb hby d5_20)
      refine own_go (G := T12.setTop (mkF m 23 #[.val (.ref r0), .val (.int (0 : Int32))] [(.ref b2), (.int (t0 + (1 : Int32)))])) (st12) ?_
      refine own_go (G := T12.setTop (mkF m 24 #[.val (.ref r0), .val (.int (0 : Int32))] [(.int (0 : Int32)), (.ref b2), (.int (t0 + (1 : Int32)))])) (fun _ k => XS.iloadN X12.here hx rfl (hb hby d5_23) rfl k) ?_
      obtain ⟨cl13, Ar13, qk13, S13, N13_, Ha13, G13⟩ := id V_b2
      have hin13 : ¬ ((0 : Int32) < 0 ∨ cl13.slots.size ≤ ((0 : Int32)).toNatClampNeg) := inb_of S13 ⟨by decide, by decide⟩
      have hat13 : cl13.slots[((0 : Int32)).toNatClampNeg]? = some (.int u0) := Ha13.at hin13 rfl
      refine own_go (G := T12.setTop (mkF m 25 #[.val (.ref r0), .val (.int (0 : Int32))] [(.int u0), (.int (t0 + (1 : Int32)))])) (X12.iaload hx (j := (0 : Int32)) (v := (.int u0)) (by rw [e12]; exact Ar13.1) (State.isArrayOf_alike hZ.alike Ar13.2.1) Ar13.2.2 hin13 hat13 (g := (mkF m 24 #[.val (.ref r0), .val (.int (0 : Int32))] [(.int (0 : Int32)), (.ref b2), (.int (t0 + (1 : Int32)))])) rfl rfl (hb hby d5_24)) ?_
      by_cases hc25_2 : (t0 + (1 : Int32)) = u0
      · skip
        refine own_go (G := T12.setTop (mkF m 28 #[.val (.ref r0), .val (.int (0 : Int32))] [])) (fun _ k => XS.icmpNo X12.here hx rfl (hb hby d5_25) rfl (teq hc25_2).2 k) ?_
        refine own_go (G := T12.setTop (mkF m 31 #[.val (.ref r0), .val (.int ((0 : Int32) + (-1 : Int32)))] [])) (fun _ k => XS.iinc X12.here hx rfl (hb hby d5_28) rfl (l' := #[.val (.ref r0), .val (.int ((0 : Int32) + (-1 : Int32)))]) rfl k) ?_
        rw [show ((0 : Int32) + (-1 : Int32)) = (-1 : Int32) from by decide]
        refine own_go (G := T12.setTop (mkF m 7 #[.val (.ref r0), .val (.int (-1 : Int32))] [])) (fun _ k => XS.goto X12.here hx rfl (pc0 := 31) (pc' := 7) rfl (hb hby d5_31) (by decide) (by decide) k) ?_
        refine own_go (G := T12.setTop (mkF m 8 #[.val (.ref r0), .val (.int (-1 : Int32))] [(.int (-1 : Int32))])) (fun _ k => XS.iloadN X12.here hx rfl (hb hby d5_7) rfl k) ?_
        refine own_go (G := T12.setTop (mkF m 34 #[.val (.ref r0), .val (.int (-1 : Int32))] [])) (fun _ k => XS.ifYes X12.here hx rfl (pc0 := 8) (pc' := 34) rfl (hb hby d5_8) rfl ((if0 _ _).trans (tlt (by decide : (-1 : Int32) < (0 : Int32))).1) (by decide) (by decide) k) ?_
        refine own_go (G := T12.setTop (mkF m 35 #[.val (.ref r0), .val (.int (-1 : Int32))] [(.int (-1 : Int32))])) (fun _ k => XS.iloadN X12.here hx rfl (hb hby d5_34) rfl k) ?_
        refine own_go (G := T12.setTop (mkF m 38 #[.val (.ref r0), .val (.int (-1 : Int32))] [])) (fun _ k => XS.ifNo X12.here hx rfl (hb hby d5_35) rfl ((if0 _ _).trans (tlt (by decide : (-1 : Int32) < (0 : Int32))).2.1) k) ?_
        refine own_go (G := T12.setTop (mkF m 39 #[.val (.ref r0), .val (.int (-1 : Int32))] [(.int (0 : Int32))])) (fun _ k => XS.iconst X12.here hx rfl (hb hby d5_38) k) ?_
        exact own_ret0 X12 hx Bd.returns (hb hby d5_39) Bd.notSynchronized (by decide) (by decide) (by rw [e12]; exact ⟨_, rfl, N0, Z0, Or.inr (Or.inr (Or.inr ⟨rfl, hc25, hc25_1, hc25_2⟩))⟩)
      · skip
        refine own_go (G := T12.setTop (mkF m 34 #[.val (.ref r0), .val (.int (0 : Int32))] [])) (fun _ k => XS.icmpYes X12.here hx rfl (pc0 := 25) (pc' := 34) rfl (hb hby d5_25) rfl (feq hc25_2).2 (by decide) (by decide) k) ?_
        refine own_go (G := T12.setTop (mkF m 35 #[.val (.ref r0), .val (.int (0 : Int32))] [(.int (0 : Int32))])) (fun _ k => XS.iloadN X12.here hx rfl (hb hby d5_34) rfl k) ?_
        refine own_go (G := T12.setTop (mkF m 40 #[.val (.ref r0), .val (.int (0 : Int32))] [])) (fun _ k => XS.ifYes X12.here hx rfl (pc0 := 35) (pc' := 40) rfl (hb hby d5_35) rfl ((if0 _ _).trans (flt (by decide : ¬ ((0 : Int32) < (0 : Int32)))).2.1) (by decide) (by decide) k) ?_
        refine own_go (G := T12.setTop (mkF m 41 #[.val (.ref r0), .val (.int (0 : Int32))] [(.ref r0)])) (fun _ k => XS.aloadN X12.here hx rfl (hb hby d5_40) rfl rfl k) ?_
        obtain ⟨T14, X14, e14, st14⟩ := getF X12 hx hZ hown (host := "") (Or.inl (hw _ (List.mem_of_getElem? (i := 11) rfl))) Via.refl e12 F_taken (g := (mkF m 41 #[.val (.ref r0), .val (.int (0 : Int32))] [(.ref r0)])) rfl rfl (hb hby d5_41)
        refine own_go (G := T14.setTop (mkF m 44 #[.val (.ref r0), .val (.int (0 : Int32))] [(.ref b1)])) (st14) ?_
        refine own_go (G := T14.setTop (mkF m 45 #[.val (.ref r0), .val (.int (0 : Int32))] [(.int (0 : Int32)), (.ref b1)])) (fun _ k => XS.iloadN X14.here hx rfl (hb hby d5_44) rfl k) ?_
        refine own_go (G := T14.setTop (mkF m 46 #[.val (.ref r0), .val (.int (0 : Int32))] [(.int (0 : Int32)), (.ref b1), (.int (0 : Int32)), (.ref b1)])) (fun _ k => XT.dup2 X14.here hx rfl (hb hby d5_45) rfl rfl rfl k) ?_
        obtain ⟨cl15, Ar15, qk15, S15, N15_, Ha15, G15⟩ := id V_b1
        have hin15 : ¬ ((0 : Int32) < 0 ∨ cl15.slots.size ≤ ((0 : Int32)).toNatClampNeg) := inb_of S15 ⟨by decide, by decide⟩
        have hat15 : cl15.slots[((0 : Int32)).toNatClampNeg]? = some (.int t0) := Ha15.at hin15 rfl
        refine own_go (G := T14.setTop (mkF m 47 #[.val (.ref r0), .val (.int (0 : Int32))] [(.int t0), (.int (0 : Int32)), (.ref b1)])) (X14.iaload hx (j := (0 : Int32)) (v := (.int t0)) (by rw [e14]; exact Ar15.1) (State.isArrayOf_alike hZ.alike Ar15.2.1) Ar15.2.2 hin15 hat15 (g := (mkF m 46 #[.val (.ref r0), .val (.int (0 : Int32))] [(.int (0 : Int32)), (.ref b1), (.int (0 : Int32)), (.ref b1)])) rfl rfl (hb hby d5_46)) ?_
        refine own_go (G := T14.setTop (mkF m 48 #[.val (.ref r0), .val (.int (0 : Int32))] [(.int (1 : Int32)), (.int t0), (.int (0 : Int32)), (.ref b1)])) (fun _ k => XS.iconst X14.here hx rfl (hb hby d5_47) k) ?_
        refine own_go (G := T14.setTop (mkF m 49 #[.val (.ref r0), .val (.int (0 : Int32))] [(.int (t0 + (1 : Int32))), (.int (0 : Int32)), (.ref b1)])) (fun _ k => XS.iadd X14.here hx rfl (hb hby d5_48) rfl k) ?_
        obtain ⟨cl16, Ar16, qk16, S16, N16_, Ha16, G16⟩ := id V_b1
        have hin16 : ¬ ((0 : Int32) < 0 ∨ cl16.slots.size ≤ ((0 : Int32)).toNatClampNeg) := inb_of S16 ⟨by decide, by decide⟩
        obtain ⟨T16, h16, X16, e16, W16, st16⟩ := stI X14 hx hZ e14 Ar16 (j := (0 : Int32)) hin16 (g := (mkF m 49 #[.val (.ref r0), .val (.int (0 : Int32))] [(.int (t0 + (1 : Int32))), (.int (0 : Int32)), (.ref b1)])) rfl rfl (hb hby d5_49)
        have V16_b1 : Arv Z h16 b1 k1 .int (8 : Int32) [(.int (t0 + (1 : Int32))), (.int t1), (.int t2), (.int (0 : Int32)), (.int (0 : Int32)), (.int (0 : Int32)), (.int (0 : Int32)), (.int (0 : Int32))] (.int (0 : Int32)) := Arv.set Ar16 qk16 S16 N16_ Ha16 G16 rfl W16 0 rfl (Nat.le_of_ble_eq_true rfl)
        have E_r0_c16 : Exa Z h16 r0 "com/example/mave/mave/engine/Choices" := E_r0.wr W16
        have F_made_c16 : Fld Z h16 r0 "com/example/mave/mave/engine/Choices" "made" "I" (.int (3 : Int32)) := F_made.other W16 (Or.inl ne_r0_b1)
        have F_rep_c16 : Fld Z h16 r0 "com/example/mave/mave/engine/Choices" "replayed" "I" (.int rp) := F_rep.other W16 (Or.inl ne_r0_b1)
        have F_taken_c16 : Fld Z h16 r0 "com/example/mave/mave/engine/Choices" "taken" "[I" (.ref b1) := F_taken.other W16 (Or.inl ne_r0_b1)
        have F_alt_c16 : Fld Z h16 r0 "com/example/mave/mave/engine/Choices" "alternatives" "[I" (.ref b2) := F_alt.other W16 (Or.inl ne_r0_b1)
        have V_b2_c16 : Arv Z h16 b2 k2 .int (8 : Int32) [(.int u0), (.int u1), (.int u2), (.int (0 : Int32)), (.int (0 : Int32)), (.int (0 : Int32)), (.int (0 : Int32)), (.int (0 : Int32))] (.int (0 : Int32)) := V_b2.other W16 (Ne.symm ne_b1_b2)
        have N16 := Fr.snoc X16 N0 gn_b1
        have Z16 : n0 ≤ h16.size := Nat.le_trans Z0 (Keep.of_wr W16).1
        refine own_go (G := T16.setTop (mkF m 50 #[.val (.ref r0), .val (.int (0 : Int32))] [])) (st16) ?_
        refine own_go (G := T16.setTop (mkF m 51 #[.val (.ref r0), .val (.int (0 : Int32))] [(.ref r0)])) (fun _ k => XS.aloadN X16.here hx rfl (hb hby d5_50) rfl rfl k) ?_
        refine own_go (G := T16.setTop (mkF m 52 #[.val (.ref r0), .val (.int (0 : Int32))] [(.int (0 : Int32)), (.ref r0)])) (fun _ k => XS.iloadN X16.here hx rfl (hb hby d5_51) rfl k) ?_
        refine own_go (G := T16.setTop (mkF m 53 #[.val (.ref r0), .val (.int (0 : Int32))] [(.int (1 : Int32)), (.int (0 : Int32)), (.ref r0)])) (fun _ k => XS.iconst X16.here hx rfl (hb hby d5_52) k) ?_
        refine own_go (G := T16.setTop (mkF m 54 #[.val (.ref r0), .val (.int (0 : Int32))] [(.int ((0 : Int32) + (1 : Int32))), (.ref r0)])) (fun _ k => XS.iadd X16.here hx rfl (hb hby d5_53) rfl k) ?_
        rw [show ((0 : Int32) + (1 : Int32)) = (1 : Int32) from by decide]
        obtain ⟨T17, h17, X17, e17, W17, st17⟩ := putF X16 hx hZ hown (host := "") (Or.inl (hw _ (List.mem_of_getElem? (i := 26) rfl))) Via.refl e16 F_rep_c16 E_r0_c16 (Or.inl (hw _ (List.mem_of_getElem? (i := 27) rfl))) (hw _ (List.mem_of_getElem? (i := 2) rfl)) (ty := .int) (by decide) rfl rfl (g := (mkF m 54 #[.val (.ref r0), .val (.int (0 : Int32))] [(.int (1 : Int32)), (.ref r0)])) rfl rfl (hb hby d5_54)
        have E_r0_c17 : Exa Z h17 r0 "com/example/mave/mave/engine/Choices" := E_r0_c16.wr W17
        have F_made_c17 : Fld Z h17 r0 "com/example/mave/mave/engine/Choices" "made" "I" (.int (3 : Int32)) := F_made_c16.other W17 (Or.inr (slot_ne (Or.inl (hw _ (List.mem_of_getElem? (i := 25) rfl))) (Or.inl (hw _ (List.mem_of_getElem? (i := 27) rfl))) (by decide) (t := .int) (t' := .int) (by decide) (by decide)))
        have F_taken_c17 : Fld Z h17 r0 "com/example/mave/mave/engine/Choices" "taken" "[I" (.ref b1) := F_taken_c16.other W17 (Or.inr (slot_ne (Or.inl (hw _ (List.mem_of_getElem? (i := 12) rfl))) (Or.inl (hw _ (List.mem_of_getElem? (i := 27) rfl))) (by decide) (t := (.array .int)) (t' := .int) (by decide) (by decide)))
        have F_alt_c17 : Fld Z h17 r0 "com/example/mave/mave/engine/Choices" "alternatives" "[I" (.ref b2) := F_alt_c16.other W17 (Or.inr (slot_ne (Or.inl (hw _ (List.mem_of_getElem? (i := 14) rfl))) (Or.inl (hw _ (List.mem_of_getElem? (i := 27) rfl))) (by decide) (t := (.array .int)) (t' := .int) (by decide) (by decide)))
        have V16_b1_c17 : Arv Z h17 b1 k1 .int (8 : Int32) [(.int (t0 + (1 : Int32))), (.int t1), (.int t2), (.int (0 : Int32)), (.int (0 : Int32)), (.int (0 : Int32)), (.int (0 : Int32)), (.int (0 : Int32))] (.int (0 : Int32)) := V16_b1.other W17 (Ne.symm ne_r0_b1)
        have V_b2_c17 : Arv Z h17 b2 k2 .int (8 : Int32) [(.int u0), (.int u1), (.int u2), (.int (0 : Int32)), (.int (0 : Int32)), (.int (0 : Int32)), (.int (0 : Int32)), (.int (0 : Int32))] (.int (0 : Int32)) := V_b2_c16.other W17 (Ne.symm ne_r0_b2)
        have Fw17_replayed : Fld Z h17 r0 "com/example/mave/mave/engine/Choices" "replayed" "I" (.int (1 : Int32)) := F_rep_c16.same W17
        have N17 := Fr.snoc X17 N16 gn_r0
        have Z17 : n0 ≤ h17.size := Nat.le_trans Z16 (Keep.of_wr W17).1
        refine own_go (G := T17.setTop (mkF m 57 #[.val (.ref r0), .val (.int (0 : Int32))] [])) (st17) ?_
        refine own_go (G := T17.setTop (mkF m 58 #[.val (.ref r0), .val (.int (0 : Int32))] [(.ref r0)])) (fun _ k => XS.aloadN X17.here hx rfl (hb hby d5_57) rfl rfl k) ?_
        refine own_go (G := T17.setTop (mkF m 59 #[.val (.ref r0), .val (.int (0 : Int32))] [(.int (0 : Int32)), (.ref r0)])) (fun _ k => XS.iconst X17.here hx rfl (hb hby d5_58) k) ?_
        obtain ⟨T18, h18, X18, e18, W18, st18⟩ := putF X17 hx hZ hown (host := "") (Or.inl (hw _ (List.mem_of_getElem? (i := 24) rfl))) Via.refl e17 F_made_c17 E_r0_c17 (Or.inl (hw _ (List.mem_of_getElem? (i := 25) rfl))) (hw _ (List.mem_of_getElem? (i := 2) rfl)) (ty := .int) (by decide) rfl rfl (g := (mkF m 59 #[.val (.ref r0), .val (.int (0 : Int32))] [(.int (0 : Int32)), (.ref r0)])) rfl rfl (hb hby d5_59)
        have E_r0_c18 : Exa Z h18 r0 "com/example/mave/mave/engine/Choices" := E_r0_c17.wr W18
        have Fw17_replayed_c18 : Fld Z h18 r0 "com/example/mave/mave/engine/Choices" "replayed" "I" (.int (1 : Int32)) := Fw17_replayed.other W18 (Or.inr (slot_ne (Or.inl (hw _ (List.mem_of_getElem? (i := 27) rfl))) (Or.inl (hw _ (List.mem_of_getElem? (i := 25) rfl))) (by decide) (t := .int) (t' := .int) (by decide) (by decide)))
        have F_taken_c18 : Fld Z h18 r0 "com/example/mave/mave/engine/Choices" "taken" "[I" (.ref b1) := F_taken_c17.other W18 (Or.inr (slot_ne (Or.inl (hw _ (List.mem_of_getElem? (i := 12) rfl))) (Or.inl (hw _ (List.mem_of_getElem? (i := 25) rfl))) (by decide) (t := (.array .int)) (t' := .int) (by decide) (by decide)))
        have F_alt_c18 : Fld Z h18 r0 "com/example/mave/mave/engine/Choices" "alternatives" "[I" (.ref b2) := F_alt_c17.other W18 (Or.inr (slot_ne (Or.inl (hw _ (List.mem_of_getElem? (i := 14) rfl))) (Or.inl (hw _ (List.mem_of_getElem? (i := 25) rfl))) (by decide) (t := (.array .int)) (t' := .int) (by decide) (by decide)))
        have V16_b1_c18 : Arv Z h18 b1 k1 .int (8 : Int32) [(.int (t0 + (1 : Int32))), (.int t1), (.int t2), (.int (0 : Int32)), (.int (0 : Int32)), (.int (0 : Int32)), (.int (0 : Int32)), (.int (0 : Int32))] (.int (0 : Int32)) := V16_b1_c17.other W18 (Ne.symm ne_r0_b1)
        have V_b2_c18 : Arv Z h18 b2 k2 .int (8 : Int32) [(.int u0), (.int u1), (.int u2), (.int (0 : Int32)), (.int (0 : Int32)), (.int (0 : Int32)), (.int (0 : Int32)), (.int (0 : Int32))] (.int (0 : Int32)) := V_b2_c17.other W18 (Ne.symm ne_r0_b2)
        have Fw18_made : Fld Z h18 r0 "com/example/mave/mave/engine/Choices" "made" "I" (.int (0 : Int32)) := F_made_c17.same W18
        have N18 := Fr.snoc X18 N17 gn_r0
        have Z18 : n0 ≤ h18.size := Nat.le_trans Z17 (Keep.of_wr W18).1
        refine own_go (G := T18.setTop (mkF m 62 #[.val (.ref r0), .val (.int (0 : Int32))] [])) (st18) ?_
        refine own_go (G := T18.setTop (mkF m 63 #[.val (.ref r0), .val (.int (0 : Int32))] [(.int (1 : Int32))])) (fun _ k => XS.iconst X18.here hx rfl (hb hby d5_62) k) ?_
        exact own_ret1 X18 hx Bd.returns (hb hby d5_63) Bd.notSynchronized (by decide) (by decide) (by rw [e18]; exact ⟨_, rfl, N18, Z18, Or.inr (Or.inr (Or.inl ⟨rfl, hc25, hc25_1, hc25_2, ⟨gn_r0, E_r0_c18, Fw18_made, Fw17_replayed_c18, b1, b2, k1, k2, gn_b1, gn_b2, ne_r0_b1, ne_r0_b2, ne_b1_b2, F_taken_c18, F_alt_c18, V16_b1_c18, V_b2_c18⟩⟩))⟩)
    · skip
      refine own_go (G := T8.setTop (mkF m 34 #[.val (.ref r0), .val (.int (1 : Int32))] [])) (fun _ k => XS.icmpYes X8.here hx rfl (pc0 := 25) (pc' := 34) rfl (hb hby d5_25) rfl (feq hc25_1).2 (by decide) (by decide) k) ?_
      refine own_go (G := T8.setTop (mkF m 35 #[.val (.ref r0), .val (.int (1 : Int32))] [(.int (1 : Int32))])) (fun _ k => XS.iloadN X8.here hx rfl (hb hby d5_34) rfl k) ?_
      refine own_go (G := T8.setTop (mkF m 40 #[.val (.ref r0), .val (.int (1 : Int32))] [])) (fun _ k => XS.ifYes X8.here hx rfl (pc0 := 35) (pc' := 40) rfl (hb hby d5_35) rfl ((if0 _ _).trans (flt (by decide : ¬ ((1 : Int32) < (0 : Int32)))).2.1) (by decide) (by decide) k) ?_
      refine own_go (G := T8.setTop (mkF m 41 #[.val (.ref r0), .val (.int (1 : Int32))] [(.ref r0)])) (fun _ k => XS.aloadN X8.here hx rfl (hb hby d5_40) rfl rfl k) ?_
      obtain ⟨T19, X19, e19, st19⟩ := getF X8 hx hZ hown (host := "") (Or.inl (hw _ (List.mem_of_getElem? (i := 11) rfl))) Via.refl e8 F_taken (g := (mkF m 41 #[.val (.ref r0), .val (.int (1 : Int32))] [(.ref r0)])) rfl rfl (hb hby d5_41)
      refine own_go (G := T19.setTop (mkF m 44 #[.val (.ref r0), .val (.int (1 : Int32))] [(.ref b1)])) (st19) ?_
      refine own_go (G := T19.setTop (mkF m 45 #[.val (.ref r0), .val (.int (1 : Int32))] [(.int (1 : Int32)), (.ref b1)])) (fun _ k => XS.iloadN X19.here hx rfl (hb hby d5_44) rfl k) ?_
      refine own_go (G := T19.setTop (mkF m 46 #[.val (.ref r0), .val (.int (1 : Int32))] [(.int (1 : Int32)), (.ref b1), (.int (1 : Int32)), (.ref b1)])) (fun _ k => XT.dup2 X19.here hx rfl (hb hby d5_45) rfl rfl rfl k) ?_
      obtain ⟨cl20, Ar20, qk20, S20, N20_, Ha20, G20⟩ := id V_b1
      have hin20 : ¬ ((1 : Int32) < 0 ∨ cl20.slots.size ≤ ((1 : Int32)).toNatClampNeg) := inb_of S20 ⟨by decide, by decide⟩
      have hat20 : cl20.slots[((1 : Int32)).toNatClampNeg]? = some (.int t1) := Ha20.at hin20 rfl
      refine own_go (G := T19.setTop (mkF m 47 #[.val (.ref r0), .val (.int (1 : Int32))] [(.int t1), (.int (1 : Int32)), (.ref b1)])) (X19.iaload hx (j := (1 : Int32)) (v := (.int t1)) (by rw [e19]; exact Ar20.1) (State.isArrayOf_alike hZ.alike Ar20.2.1) Ar20.2.2 hin20 hat20 (g := (mkF m 46 #[.val (.ref r0), .val (.int (1 : Int32))] [(.int (1 : Int32)), (.ref b1), (.int (1 : Int32)), (.ref b1)])) rfl rfl (hb hby d5_46)) ?_
      refine own_go (G := T19.setTop (mkF m 48 #[.val (.ref r0), .val (.int (1 : Int32))] [(.int (1 : Int32)), (.int t1), (.int (1 : Int32)), (.ref b1)])) (fun _ k => XS.iconst X19.here hx rfl (hb hby d5_47) k) ?_
      refine own_go (G := T19.setTop (mkF m 49 #[.val (.ref r0), .val (.int (1 : Int32))] [(.int (t1 + (1 : Int32))), (.int (1 : Int32)), (.ref b1)])) (fun _ k => XS.iadd X19.here hx rfl (hb hby d5_48) rfl k) ?_
      obtain ⟨cl21, Ar21, qk21, S21, N21_, Ha21, G21⟩ := id V_b1
      have hin21 : ¬ ((1 : Int32) < 0 ∨ cl21.slots.size ≤ ((1 : Int32)).toNatClampNeg) := inb_of S21 ⟨by decide, by decide⟩
      obtain ⟨T21, h21, X21, e21, W21, st21⟩ := stI X19 hx hZ e19 Ar21 (j := (1 : Int32)) hin21 (g := (mkF m 49 #[.val (.ref r0), .val (.int (1 : Int32))] [(.int (t1 + (1 : Int32))), (.int (1 : Int32)), (.ref b1)])) rfl rfl (hb hby d5_49)
      have V21_b1 : Arv Z h21 b1 k1 .int (8 : Int32) [(.int t0), (.int (t1 + (1 : Int32))), (.int t2), (.int (0 : Int32)), (.int (0 : Int32)), (.int (0 : Int32)), (.int (0 : Int32)), (.int (0 : Int32))] (.int (0 : Int32)) := Arv.set Ar21 qk21 S21 N21_ Ha21 G21 rfl W21 1 rfl (Nat.le_of_ble_eq_true rfl)
      have E_r0_c21 : Exa Z h21 r0 "com/example/mave/mave/engine/Choices" := E_r0.wr W21
      have F_made_c21 : Fld Z h21 r0 "com/example/mave/mave/engine/Choices" "made" "I" (.int (3 : Int32)) := F_made.other W21 (Or.inl ne_r0_b1)
      have F_rep_c21 : Fld Z h21 r0 "com/example/mave/mave/engine/Choices" "replayed" "I" (.int rp) := F_rep.other W21 (Or.inl ne_r0_b1)
      have F_taken_c21 : Fld Z h21 r0 "com/example/mave/mave/engine/Choices" "taken" "[I" (.ref b1) := F_taken.other W21 (Or.inl ne_r0_b1)
      have F_alt_c21 : Fld Z h21 r0 "com/example/mave/mave/engine/Choices" "alternatives" "[I" (.ref b2) := F_alt.other W21 (Or.inl ne_r0_b1)
      have V_b2_c21 : Arv Z h21 b2 k2 .int (8 : Int32) [(.int u0), (.int u1), (.int u2), (.int (0 : Int32)), (.int (0 : Int32)), (.int (0 : Int32)), (.int (0 : Int32)), (.int (0 : Int32))] (.int (0 : Int32)) := V_b2.other W21 (Ne.symm ne_b1_b2)
      have N21 := Fr.snoc X21 N0 gn_b1
      have Z21 : n0 ≤ h21.size := Nat.le_trans Z0 (Keep.of_wr W21).1
      refine own_go (G := T21.setTop (mkF m 50 #[.val (.ref r0), .val (.int (1 : Int32))] [])) (st21) ?_
      refine own_go (G := T21.setTop (mkF m 51 #[.val (.ref r0), .val (.int (1 : Int32))] [(.ref r0)])) (fun _ k => XS.aloadN X21.here hx rfl (hb hby d5_50) rfl rfl k) ?_
      refine own_go (G := T21.setTop (mkF m 52 #[.val (.ref r0), .val (.int (1 : Int32))] [(.int (1 : Int32)), (.ref r0)])) (fun _ k => XS.iloadN X21.here hx rfl (hb hby d5_51) rfl k) ?_
      refine own_go (G := T21.setTop (mkF m 53 #[.val (.ref r0), .val (.int (1 : Int32))] [(.int (1 : Int32)), (.int (1 : Int32)), (.ref r0)])) (fun _ k => XS.iconst X21.here hx rfl (hb hby d5_52) k) ?_
      refine own_go (G := T21.setTop (mkF m 54 #[.val (.ref r0), .val (.int (1 : Int32))] [(.int ((1 : Int32) + (1 : Int32))), (.ref r0)])) (fun _ k => XS.iadd X21.here hx rfl (hb hby d5_53) rfl k) ?_
      rw [show ((1 : Int32) + (1 : Int32)) = (2 : Int32) from by decide]
      obtain ⟨T22, h22, X22, e22, W22, st22⟩ := putF X21 hx hZ hown (host := "") (Or.inl (hw _ (List.mem_of_getElem? (i := 26) rfl))) Via.refl e21 F_rep_c21 E_r0_c21 (Or.inl (hw _ (List.mem_of_getElem? (i := 27) rfl))) (hw _ (List.mem_of_getElem? (i := 2) rfl)) (ty := .int) (by decide) rfl rfl (g := (mkF m 54 #[.val (.ref r0), .val (.int (1 : Int32))] [(.int (2 : Int32)), (.ref r0)])) rfl rfl (hb hby d5_54)
      have E_r0_c22 : Exa Z h22 r0 "com/example/mave/mave/engine/Choices" := E_r0_c21.wr W22
      have F_made_c22 : Fld Z h22 r0 "com/example/mave/mave/engine/Choices" "made" "I" (.int (3 : Int32)) := F_made_c21.other W22 (Or.inr (slot_ne (Or.inl (hw _ (List.mem_of_getElem? (i := 25) rfl))) (Or.inl (hw _ (List.mem_of_getElem? (i := 27) rfl))) (by decide) (t := .int) (t' := .int) (by decide) (by decide)))
      have F_taken_c22 : Fld Z h22 r0 "com/example/mave/mave/engine/Choices" "taken" "[I" (.ref b1) := F_taken_c21.other W22 (Or.inr (slot_ne (Or.inl (hw _ (List.mem_of_getElem? (i := 12) rfl))) (Or.inl (hw _ (List.mem_of_getElem? (i := 27) rfl))) (by decide) (t := (.array .int)) (t' := .int) (by decide) (by decide)))
      have F_alt_c22 : Fld Z h22 r0 "com/example/mave/mave/engine/Choices" "alternatives" "[I" (.ref b2) := F_alt_c21.other W22 (Or.inr (slot_ne (Or.inl (hw _ (List.mem_of_getElem? (i := 14) rfl))) (Or.inl (hw _ (List.mem_of_getElem? (i := 27) rfl))) (by decide) (t := (.array .int)) (t' := .int) (by decide) (by decide)))
      have V21_b1_c22 : Arv Z h22 b1 k1 .int (8 : Int32) [(.int t0), (.int (t1 + (1 : Int32))), (.int t2), (.int (0 : Int32)), (.int (0 : Int32)), (.int (0 : Int32)), (.int (0 : Int32)), (.int (0 : Int32))] (.int (0 : Int32)) := V21_b1.other W22 (Ne.symm ne_r0_b1)
      have V_b2_c22 : Arv Z h22 b2 k2 .int (8 : Int32) [(.int u0), (.int u1), (.int u2), (.int (0 : Int32)), (.int (0 : Int32)), (.int (0 : Int32)), (.int (0 : Int32)), (.int (0 : Int32))] (.int (0 : Int32)) := V_b2_c21.other W22 (Ne.symm ne_r0_b2)
      have Fw22_replayed : Fld Z h22 r0 "com/example/mave/mave/engine/Choices" "replayed" "I" (.int (2 : Int32)) := F_rep_c21.same W22
      have N22 := Fr.snoc X22 N21 gn_r0
      have Z22 : n0 ≤ h22.size := Nat.le_trans Z21 (Keep.of_wr W22).1
      refine own_go (G := T22.setTop (mkF m 57 #[.val (.ref r0), .val (.int (1 : Int32))] [])) (st22) ?_
      refine own_go (G := T22.setTop (mkF m 58 #[.val (.ref r0), .val (.int (1 : Int32))] [(.ref r0)])) (fun _ k => XS.aloadN X22.here hx rfl (hb hby d5_57) rfl rfl k) ?_
      refine own_go (G := T22.setTop (mkF m 59 #[.val (.ref r0), .val (.int (1 : Int32))] [(.int (0 : Int32)), (.ref r0)])) (fun _ k => XS.iconst X22.here hx rfl (hb hby d5_58) k) ?_
      obtain ⟨T23, h23, X23, e23, W23, st23⟩ := putF X22 hx hZ hown (host := "") (Or.inl (hw _ (List.mem_of_getElem? (i := 24) rfl))) Via.refl e22 F_made_c22 E_r0_c22 (Or.inl (hw _ (List.mem_of_getElem? (i := 25) rfl))) (hw _ (List.mem_of_getElem? (i := 2) rfl)) (ty := .int) (by decide) rfl rfl (g := (mkF m 59 #[.val (.ref r0), .val (.int (1 : Int32))] [(.int (0 : Int32)), (.ref r0)])) rfl rfl (hb hby d5_59)
      have E_r0_c23 : Exa Z h23 r0 "com/example/mave/mave/engine/Choices" := E_r0_c22.wr W23
      have Fw22_replayed_c23 : Fld Z h23 r0 "com/example/mave/mave/engine/Choices" "replayed" "I" (.int (2 : Int32)) := Fw22_replayed.other W23 (Or.inr (slot_ne (Or.inl (hw _ (List.mem_of_getElem? (i := 27) rfl))) (Or.inl (hw _ (List.mem_of_getElem? (i := 25) rfl))) (by decide) (t := .int) (t' := .int) (by decide) (by decide)))
      have F_taken_c23 : Fld Z h23 r0 "com/example/mave/mave/engine/Choices" "taken" "[I" (.ref b1) := F_taken_c22.other W23 (Or.inr (slot_ne (Or.inl (hw _ (List.mem_of_getElem? (i := 12) rfl))) (Or.inl (hw _ (List.mem_of_getElem? (i := 25) rfl))) (by decide) (t := (.array .int)) (t' := .int) (by decide) (by decide)))
      have F_alt_c23 : Fld Z h23 r0 "com/example/mave/mave/engine/Choices" "alternatives" "[I" (.ref b2) := F_alt_c22.other W23 (Or.inr (slot_ne (Or.inl (hw _ (List.mem_of_getElem? (i := 14) rfl))) (Or.inl (hw _ (List.mem_of_getElem? (i := 25) rfl))) (by decide) (t := (.array .int)) (t' := .int) (by decide) (by decide)))
      have V21_b1_c23 : Arv Z h23 b1 k1 .int (8 : Int32) [(.int t0), (.int (t1 + (1 : Int32))), (.int t2), (.int (0 : Int32)), (.int (0 : Int32)), (.int (0 : Int32)), (.int (0 : Int32)), (.int (0 : Int32))] (.int (0 : Int32)) := V21_b1_c22.other W23 (Ne.symm ne_r0_b1)
      have V_b2_c23 : Arv Z h23 b2 k2 .int (8 : Int32) [(.int u0), (.int u1), (.int u2), (.int (0 : Int32)), (.int (0 : Int32)), (.int (0 : Int32)), (.int (0 : Int32)), (.int (0 : Int32))] (.int (0 : Int32)) := V_b2_c22.other W23 (Ne.symm ne_r0_b2)
      have Fw23_made : Fld Z h23 r0 "com/example/mave/mave/engine/Choices" "made" "I" (.int (0 : Int32)) := F_made_c22.same W23
      have N23 := Fr.snoc X23 N22 gn_r0
      have Z23 : n0 ≤ h23.size := Nat.le_trans Z22 (Keep.of_wr W23).1
      refine own_go (G := T23.setTop (mkF m 62 #[.val (.ref r0), .val (.int (1 : Int32))] [])) (st23) ?_
      refine own_go (G := T23.setTop (mkF m 63 #[.val (.ref r0), .val (.int (1 : Int32))] [(.int (1 : Int32))])) (fun _ k => XS.iconst X23.here hx rfl (hb hby d5_62) k) ?_
      exact own_ret1 X23 hx Bd.returns (hb hby d5_63) Bd.notSynchronized (by decide) (by decide) (by rw [e23]; exact ⟨_, rfl, N23, Z23, Or.inr (Or.inl ⟨rfl, hc25, hc25_1, ⟨gn_r0, E_r0_c23, Fw23_made, Fw22_replayed_c23, b1, b2, k1, k2, gn_b1, gn_b2, ne_r0_b1, ne_r0_b2, ne_b1_b2, F_taken_c23, F_alt_c23, V21_b1_c23, V_b2_c23⟩⟩)⟩)
  · skip
    refine own_go (G := T4.setTop (mkF m 34 #[.val (.ref r0), .val (.int (2 : Int32))] [])) (fun _ k => XS.icmpYes X4.here hx rfl (pc0 := 25) (pc' := 34) rfl (hb hby d5_25) rfl (feq hc25).2 (by decide) (by decide) k) ?_
    refine own_go (G := T4.setTop (mkF m 35 #[.val (.ref r0), .val (.int (2 : Int32))] [(.int (2 : Int32))])) (fun _ k => XS.iloadN X4.here hx rfl (hb hby d5_34) rfl k) ?_
    refine own_go (G := T4.setTop (mkF m 40 #[.val (.ref r0), .val (.int (2 : Int32))] [])) (fun _ k => XS.ifYes X4.here hx rfl (pc0 := 35) (pc' := 40) rfl (hb hby d5_35) rfl ((if0 _ _).trans (flt (by decide : ¬ ((2 : Int32) < (0 : Int32)))).2.1) (by decide) (by decide) k) ?_
    refine own_go (G := T4.setTop (mkF m 41 #[.val (.ref r0), .val (.int (2 : Int32))] [(.ref r0)])) (fun _ k => XS.aloadN X4.here hx rfl (hb hby d5_40) rfl rfl k) ?_
    obtain ⟨T24, X24, e24, st24⟩ := getF X4 hx hZ hown (host := "") (Or.inl (hw _ (List.mem_of_getElem? (i := 11) rfl))) Via.refl e4 F_taken (g := (mkF m 41 #[.val (.ref r0), .val (.int (2 : Int32))] [(.ref r0)])) rfl rfl (hb hby d5_41)
    refine own_go (G := T24.setTop (mkF m 44 #[.val (.ref r0), .val (.int (2 : Int32))] [(.ref b1)])) (st24) ?_
    refine own_go (G := T24.setTop (mkF m 45 #[.val (.ref r0), .val (.int (2 : Int32))] [(.int (2 : Int32)), (.ref b1)])) (fun _ k => XS.iloadN X24.here hx rfl (hb hby d5_44) rfl k) ?_
    refine own_go (G := T24.setTop (mkF m 46 #[.val (.ref r0), .val (.int (2 : Int32))] [(.int (2 : Int32)), (.ref b1), (.int (2 : Int32)), (.ref b1)])) (fun _ k => XT.dup2 X24.here hx rfl (hb hby d5_45) rfl rfl rfl k) ?_
    obtain ⟨cl25, Ar25, qk25, S25, N25_, Ha25, G25⟩ := id V_b1
    have hin25 : ¬ ((2 : Int32) < 0 ∨ cl25.slots.size ≤ ((2 : Int32)).toNatClampNeg) := inb_of S25 ⟨by decide, by decide⟩
    have hat25 : cl25.slots[((2 : Int32)).toNatClampNeg]? = some (.int t2) := Ha25.at hin25 rfl
    refine own_go (G := T24.setTop (mkF m 47 #[.val (.ref r0), .val (.int (2 : Int32))] [(.int t2), (.int (2 : Int32)), (.ref b1)])) (X24.iaload hx (j := (2 : Int32)) (v := (.int t2)) (by rw [e24]; exact Ar25.1) (State.isArrayOf_alike hZ.alike Ar25.2.1) Ar25.2.2 hin25 hat25 (g := (mkF m 46 #[.val (.ref r0), .val (.int (2 : Int32))] [(.int (2 : Int32)), (.ref b1), (.int (2 : Int32)), (.ref b1)])) rfl rfl (hb hby d5_46)) ?_
    refine own_go (G := T24.setTop (mkF m 48 #[.val (.ref r0), .val (.int (2 : Int32))] [(.int (1 : Int32)), (.int t2), (.int (2 : Int32)), (.ref b1)])) (fun _ k => XS.iconst X24.here hx rfl (hb hby d5_47) k) ?_
    refine own_go (G := T24.setTop (mkF m 49 #[.val (.ref r0), .val (.int (2 : Int32))] [(.int (t2 + (1 : Int32))), (.int (2 : Int32)), (.ref b1)])) (fun _ k => XS.iadd X24.here hx rfl (hb hby d5_48) rfl k) ?_
    obtain ⟨cl26, Ar26, qk26, S26, N26_, Ha26, G26⟩ := id V_b1
    have hin26 : ¬ ((2 : Int32) < 0 ∨ cl26.slots.size ≤ ((2 : Int32)).toNatClampNeg) := inb_of S26 ⟨by decide, by decide⟩
    obtain ⟨T26, h26, X26, e26, W26, st26⟩ := stI X24 hx hZ e24 Ar26 (j := (2 : Int32)) hin26 (g := (mkF m 49 #[.val (.ref r0), .val (.int (2 : Int32))] [(.int (t2 + (1 : Int32))), (.int (2 : Int32)), (.ref b1)])) rfl rfl (hb hby d5_49)
    have V26_b1 : Arv Z h26 b1 k1 .int (8 : Int32) [(.int t0), (.int t1), (.int (t2 + (1 : Int32))), (.int (0 : Int32)), (.int (0 : Int32)), (.int (0 : Int32)), (.int (0 : Int32)), (.int (0 : Int32))] (.int (0 : Int32)) := Arv.set Ar26 qk26 S26 N26_ Ha26 G26 rfl W26 2 rfl (Nat.le_of_ble_eq_true rfl)
    have E_r0_c26 : Exa Z h26 r0 "com/example/mave/mave/engine/Choices" := E_r0.wr W26
    have F_made_c26 : Fld Z h26 r0 "com/example/mave/mave/engine/Choices" "made" "I" (.int (3 : Int32)) := F_made.other W26 (Or.inl ne_r0_b1)
    have F_rep_c26 : Fld Z h26 r0 "com/example/mave/mave/engine/Choices" "replayed" "I" (.int rp) := F_rep.other W26 (Or.inl ne_r0_b1)
    have F_taken_c26 : Fld Z h26 r0 "com/example/mave/mave/engine/Choices" "taken" "[I" (.ref b1) := F_taken.other W26 (Or.inl ne_r0_b1)
    have F_alt_c26 : Fld Z h26 r0 "com/example/mave/mave/engine/Choices" "alternatives" "[I" (.ref b2) := F_alt.other W26 (Or.inl ne_r0_b1)
    have V_b2_c26 : Arv Z h26 b2 k2 .int (8 : Int32) [(.int u0), (.int u1), (.int u2), (.int (0 : Int32)), (.int (0 : Int32)), (.int (0 : Int32)), (.int (0 : Int32)), (.int (0 : Int32))] (.int (0 : Int32)) := V_b2.other W26 (Ne.symm ne_b1_b2)
    have N26 := Fr.snoc X26 N0 gn_b1
    have Z26 : n0 ≤ h26.size := Nat.le_trans Z0 (Keep.of_wr W26).1
    refine own_go (G := T26.setTop (mkF m 50 #[.val (.ref r0), .val (.int (2 : Int32))] [])) (st26) ?_
    refine own_go (G := T26.setTop (mkF m 51 #[.val (.ref r0), .val (.int (2 : Int32))] [(.ref r0)])) (fun _ k => XS.aloadN X26.here hx rfl (hb hby d5_50) rfl rfl k) ?_
    refine own_go (G := T26.setTop (mkF m 52 #[.val (.ref r0), .val (.int (2 : Int32))] [(.int (2 : Int32)), (.ref r0)])) (fun _ k => XS.iloadN X26.here hx rfl (hb hby d5_51) rfl k) ?_
    refine own_go (G := T26.setTop (mkF m 53 #[.val (.ref r0), .val (.int (2 : Int32))] [(.int (1 : Int32)), (.int (2 : Int32)), (.ref r0)])) (fun _ k => XS.iconst X26.here hx rfl (hb hby d5_52) k) ?_
    refine own_go (G := T26.setTop (mkF m 54 #[.val (.ref r0), .val (.int (2 : Int32))] [(.int ((2 : Int32) + (1 : Int32))), (.ref r0)])) (fun _ k => XS.iadd X26.here hx rfl (hb hby d5_53) rfl k) ?_
    rw [show ((2 : Int32) + (1 : Int32)) = (3 : Int32) from by decide]
    obtain ⟨T27, h27, X27, e27, W27, st27⟩ := putF X26 hx hZ hown (host := "") (Or.inl (hw _ (List.mem_of_getElem? (i := 26) rfl))) Via.refl e26 F_rep_c26 E_r0_c26 (Or.inl (hw _ (List.mem_of_getElem? (i := 27) rfl))) (hw _ (List.mem_of_getElem? (i := 2) rfl)) (ty := .int) (by decide) rfl rfl (g := (mkF m 54 #[.val (.ref r0), .val (.int (2 : Int32))] [(.int (3 : Int32)), (.ref r0)])) rfl rfl (hb hby d5_54)
    have E_r0_c27 : Exa Z h27 r0 "com/example/mave/mave/engine/Choices" := E_r0_c26.wr W27
    have F_made_c27 : Fld Z h27 r0 "com/example/mave/mave/engine/Choices" "made" "I" (.int (3 : Int32)) := F_made_c26.other W27 (Or.inr (slot_ne (Or.inl (hw _ (List.mem_of_getElem? (i := 25) rfl))) (Or.inl (hw _ (List.mem_of_getElem? (i := 27) rfl))) (by decide) (t := .int) (t' := .int) (by decide) (by decide)))
    have F_taken_c27 : Fld Z h27 r0 "com/example/mave/mave/engine/Choices" "taken" "[I" (.ref b1) := F_taken_c26.other W27 (Or.inr (slot_ne (Or.inl (hw _ (List.mem_of_getElem? (i := 12) rfl))) (Or.inl (hw _ (List.mem_of_getElem? (i := 27) rfl))) (by decide) (t := (.array .int)) (t' := .int) (by decide) (by decide)))
    have F_alt_c27 : Fld Z h27 r0 "com/example/mave/mave/engine/Choices" "alternatives" "[I" (.ref b2) := F_alt_c26.other W27 (Or.inr (slot_ne (Or.inl (hw _ (List.mem_of_getElem? (i := 14) rfl))) (Or.inl (hw _ (List.mem_of_getElem? (i := 27) rfl))) (by decide) (t := (.array .int)) (t' := .int) (by decide) (by decide)))
    have V26_b1_c27 : Arv Z h27 b1 k1 .int (8 : Int32) [(.int t0), (.int t1), (.int (t2 + (1 : Int32))), (.int (0 : Int32)), (.int (0 : Int32)), (.int (0 : Int32)), (.int (0 : Int32)), (.int (0 : Int32))] (.int (0 : Int32)) := V26_b1.other W27 (Ne.symm ne_r0_b1)
    have V_b2_c27 : Arv Z h27 b2 k2 .int (8 : Int32) [(.int u0), (.int u1), (.int u2), (.int (0 : Int32)), (.int (0 : Int32)), (.int (0 : Int32)), (.int (0 : Int32)), (.int (0 : Int32))] (.int (0 : Int32)) := V_b2_c26.other W27 (Ne.symm ne_r0_b2)
    have Fw27_replayed : Fld Z h27 r0 "com/example/mave/mave/engine/Choices" "replayed" "I" (.int (3 : Int32)) := F_rep_c26.same W27
    have N27 := Fr.snoc X27 N26 gn_r0
    have Z27 : n0 ≤ h27.size := Nat.le_trans Z26 (Keep.of_wr W27).1
    refine own_go (G := T27.setTop (mkF m 57 #[.val (.ref r0), .val (.int (2 : Int32))] [])) (st27) ?_
    refine own_go (G := T27.setTop (mkF m 58 #[.val (.ref r0), .val (.int (2 : Int32))] [(.ref r0)])) (fun _ k => XS.aloadN X27.here hx rfl (hb hby d5_57) rfl rfl k) ?_
    refine own_go (G := T27.setTop (mkF m 59 #[.val (.ref r0), .val (.int (2 : Int32))] [(.int (0 : Int32)), (.ref r0)])) (fun _ k => XS.iconst X27.here hx rfl (hb hby d5_58) k) ?_
    obtain ⟨T28, h28, X28, e28, W28, st28⟩ := putF X27 hx hZ hown (host := "") (Or.inl (hw _ (List.mem_of_getElem? (i := 24) rfl))) Via.refl e27 F_made_c27 E_r0_c27 (Or.inl (hw _ (List.mem_of_getElem? (i := 25) rfl))) (hw _ (List.mem_of_getElem? (i := 2) rfl)) (ty := .int) (by decide) rfl rfl (g := (mkF m 59 #[.val (.ref r0), .val (.int (2 : Int32))] [(.int (0 : Int32)), (.ref r0)])) rfl rfl (hb hby d5_59)
    have E_r0_c28 : Exa Z h28 r0 "com/example/mave/mave/engine/Choices" := E_r0_c27.wr W28
    have Fw27_replayed_c28 : Fld Z h28 r0 "com/example/mave/mave/engine/Choices" "replayed" "I" (.int (3 : Int32)) := Fw27_replayed.other W28 (Or.inr (slot_ne (Or.inl (hw _ (List.mem_of_getElem? (i := 27) rfl))) (Or.inl (hw _ (List.mem_of_getElem? (i := 25) rfl))) (by decide) (t := .int) (t' := .int) (by decide) (by decide)))
    have F_taken_c28 : Fld Z h28 r0 "com/example/mave/mave/engine/Choices" "taken" "[I" (.ref b1) := F_taken_c27.other W28 (Or.inr (slot_ne (Or.inl (hw _ (List.mem_of_getElem? (i := 12) rfl))) (Or.inl (hw _ (List.mem_of_getElem? (i := 25) rfl))) (by decide) (t := (.array .int)) (t' := .int) (by decide) (by decide)))
    have F_alt_c28 : Fld Z h28 r0 "com/example/mave/mave/engine/Choices" "alternatives" "[I" (.ref b2) := F_alt_c27.other W28 (Or.inr (slot_ne (Or.inl (hw _ (List.mem_of_getElem? (i := 14) rfl))) (Or.inl (hw _ (List.mem_of_getElem? (i := 25) rfl))) (by decide) (t := (.array .int)) (t' := .int) (by decide) (by decide)))
    have V26_b1_c28 : Arv Z h28 b1 k1 .int (8 : Int32) [(.int t0), (.int t1), (.int (t2 + (1 : Int32))), (.int (0 : Int32)), (.int (0 : Int32)), (.int (0 : Int32)), (.int (0 : Int32)), (.int (0 : Int32))] (.int (0 : Int32)) := V26_b1_c27.other W28 (Ne.symm ne_r0_b1)
    have V_b2_c28 : Arv Z h28 b2 k2 .int (8 : Int32) [(.int u0), (.int u1), (.int u2), (.int (0 : Int32)), (.int (0 : Int32)), (.int (0 : Int32)), (.int (0 : Int32)), (.int (0 : Int32))] (.int (0 : Int32)) := V_b2_c27.other W28 (Ne.symm ne_r0_b2)
    have Fw28_made : Fld Z h28 r0 "com/example/mave/mave/engine/Choices" "made" "I" (.int (0 : Int32)) := F_made_c27.same W28
    have N28 := Fr.snoc X28 N27 gn_r0
    have Z28 : n0 ≤ h28.size := Nat.le_trans Z27 (Keep.of_wr W28).1
    refine own_go (G := T28.setTop (mkF m 62 #[.val (.ref r0), .val (.int (2 : Int32))] [])) (st28) ?_
    refine own_go (G := T28.setTop (mkF m 63 #[.val (.ref r0), .val (.int (2 : Int32))] [(.int (1 : Int32))])) (fun _ k => XS.iconst X28.here hx rfl (hb hby d5_62) k) ?_
    exact own_ret1 X28 hx Bd.returns (hb hby d5_63) Bd.notSynchronized (by decide) (by decide) (by rw [e28]; exact ⟨_, rfl, N28, Z28, Or.inl ⟨rfl, hc25, ⟨gn_r0, E_r0_c28, Fw28_made, Fw27_replayed_c28, b1, b2, k1, k2, gn_b1, gn_b2, ne_r0_b1, ne_r0_b2, ne_b1_b2, F_taken_c28, F_alt_c28, V26_b1_c28, V_b2_c28⟩⟩⟩)
def own_4 (c : Int32) : Prop := c = (1 : Int32) ∨ c = (2 : Int32) ∨ c = (3 : Int32) ∨ c = (4 : Int32)
theorem own_c {p v : Int32} (h : ((p &&& (2147483647 : Int32)) % (4 : Int32)) + (1 : Int32) = v) : own_4 v := by
  have a2 := c_mask p 2147483647 31 (by decide) (by decide)
  have a3 := (c_irem (p &&& 2147483647) 4 4 (by decide)).1 (by rw [a2]; omega)
  have a4 := c_iadd ((p &&& 2147483647) % 4) 1
  rw [h, show (1 : Int32).toInt = 1 from rfl] at a4
  have r := rng32 v
  simp only [own_4, own_ie, show (1 : Int32).toInt = 1 from rfl, show (2 : Int32).toInt = 2 from rfl, show (3 : Int32).toInt = 3 from rfl, show (4 : Int32).toInt = 4 from rfl]
  omega
theorem own_z1 {a b c : Int32} (k0 : own_4 a) (k1 : own_4 b) (k2 : own_4 c) : (b * c) ≠ 0 := by rcases k1 with rfl | rfl | rfl | rfl <;> rcases k2 with rfl | rfl | rfl | rfl <;> decide
theorem own_z2 {a b c : Int32} (k0 : own_4 a) (k1 : own_4 b) (k2 : own_4 c) : b ≠ 0 := by rcases k1 with rfl | rfl | rfl | rfl <;> decide
theorem own_z3 {a b c : Int32} (k0 : own_4 a) (k1 : own_4 b) (k2 : own_4 c) : c ≠ 0 := by rcases k2 with rfl | rfl | rfl | rfl <;> decide
theorem own_L1 {v1 v2 v3 : Int32} (k0 : own_4 v1) (k1 : own_4 v2) (k2 : own_4 v3) : ¬ ((own_R (0 : Int32) (0 : Int32) (0 : Int32) v2 v3 (0 : Int32)) = (0 : Int32)) := by
  rcases k0 with rfl | rfl | rfl | rfl <;> rcases k1 with rfl | rfl | rfl | rfl <;> rcases k2 with rfl | rfl | rfl | rfl <;> decide +kernel
theorem own_L2 {v1 v2 v3 : Int32} (k0 : own_4 v1) (k1 : own_4 v2) (k2 : own_4 v3) (q_7_2 : ¬ (((0 : Int32) + (1 : Int32)) = v3)) : (1 : Int32) < ((v1 * v2) * v3) := by
  revert q_7_2
  rcases k0 with rfl | rfl | rfl | rfl <;> rcases k1 with rfl | rfl | rfl | rfl <;> rcases k2 with rfl | rfl | rfl | rfl <;> decide +kernel
theorem own_L3 {v1 v2 v3 : Int32} (k0 : own_4 v1) (k1 : own_4 v2) (k2 : own_4 v3) (q_7_2 : ¬ (((0 : Int32) + (1 : Int32)) = v3)) : ¬ ((own_R (0 : Int32) (0 : Int32) ((0 : Int32) + (1 : Int32)) v2 v3 (1 : Int32)) = (0 : Int32)) := by
  revert q_7_2
  rcases k0 with rfl | rfl | rfl | rfl <;> rcases k1 with rfl | rfl | rfl | rfl <;> rcases k2 with rfl | rfl | rfl | rfl <;> decide +kernel
theorem own_L4 {v1 v2 v3 : Int32} (k0 : own_4 v1) (k1 : own_4 v2) (k2 : own_4 v3) (q_7_2 : ¬ (((0 : Int32) + (1 : Int32)) = v3)) (q_9_2 : ¬ ((((0 : Int32) + (1 : Int32)) + (1 : Int32)) = v3)) : (2 : Int32) < ((v1 * v2) * v3) := by
  revert q_7_2 q_9_2
  rcases k0 with rfl | rfl | rfl | rfl <;> rcases k1 with rfl | rfl | rfl | rfl <;> rcases k2 with rfl | rfl | rfl | rfl <;> decide +kernel
theorem own_L5 {v1 v2 v3 : Int32} (k0 : own_4 v1) (k1 : own_4 v2) (k2 : own_4 v3) (q_7_2 : ¬ (((0 : Int32) + (1 : Int32)) = v3)) (q_9_2 : ¬ ((((0 : Int32) + (1 : Int32)) + (1 : Int32)) = v3)) : (own_R (0 : Int32) (0 : Int32) (((0 : Int32) + (1 : Int32)) + (1 : Int32)) v2 v3 (2 : Int32)) = (1 : Int32) := by
  revert q_7_2 q_9_2
  rcases k0 with rfl | rfl | rfl | rfl <;> rcases k1 with rfl | rfl | rfl | rfl <;> rcases k2 with rfl | rfl | rfl | rfl <;> decide +kernel
theorem own_L6 {v1 v2 v3 : Int32} (k0 : own_4 v1) (k1 : own_4 v2) (k2 : own_4 v3) (q_7_2 : ¬ (((0 : Int32) + (1 : Int32)) = v3)) (q_9_2 : (((0 : Int32) + (1 : Int32)) + (1 : Int32)) = v3) (q_9_1 : ¬ (((0 : Int32) + (1 : Int32)) = v2)) : (2 : Int32) < ((v1 * v2) * v3) := by
  revert q_7_2 q_9_2 q_9_1
  rcases k0 with rfl | rfl | rfl | rfl <;> rcases k1 with rfl | rfl | rfl | rfl <;> rcases k2 with rfl | rfl | rfl | rfl <;> decide +kernel
theorem own_L7 {v1 v2 v3 : Int32} (k0 : own_4 v1) (k1 : own_4 v2) (k2 : own_4 v3) (q_7_2 : ¬ (((0 : Int32) + (1 : Int32)) = v3)) (q_9_2 : (((0 : Int32) + (1 : Int32)) + (1 : Int32)) = v3) (q_9_1 : ¬ (((0 : Int32) + (1 : Int32)) = v2)) : (own_R (0 : Int32) ((0 : Int32) + (1 : Int32)) (0 : Int32) v2 v3 (2 : Int32)) = (1 : Int32) := by
  revert q_7_2 q_9_2 q_9_1
  rcases k0 with rfl | rfl | rfl | rfl <;> rcases k1 with rfl | rfl | rfl | rfl <;> rcases k2 with rfl | rfl | rfl | rfl <;> decide +kernel
theorem own_L8 {v1 v2 v3 : Int32} (k0 : own_4 v1) (k1 : own_4 v2) (k2 : own_4 v3) (q_7_2 : ¬ (((0 : Int32) + (1 : Int32)) = v3)) (q_9_2 : (((0 : Int32) + (1 : Int32)) + (1 : Int32)) = v3) (q_9_1 : ((0 : Int32) + (1 : Int32)) = v2) (q_9_0 : ¬ (((0 : Int32) + (1 : Int32)) = v1)) : (2 : Int32) < ((v1 * v2) * v3) := by
  revert q_7_2 q_9_2 q_9_1 q_9_0
  rcases k0 with rfl | rfl | rfl | rfl <;> rcases k1 with rfl | rfl | rfl | rfl <;> rcases k2 with rfl | rfl | rfl | rfl <;> decide +kernel
theorem own_L9 {v1 v2 v3 : Int32} (k0 : own_4 v1) (k1 : own_4 v2) (k2 : own_4 v3) (q_7_2 : ¬ (((0 : Int32) + (1 : Int32)) = v3)) (q_9_2 : (((0 : Int32) + (1 : Int32)) + (1 : Int32)) = v3) (q_9_1 : ((0 : Int32) + (1 : Int32)) = v2) (q_9_0 : ¬ (((0 : Int32) + (1 : Int32)) = v1)) : (own_R ((0 : Int32) + (1 : Int32)) (0 : Int32) (0 : Int32) v2 v3 (2 : Int32)) = (1 : Int32) := by
  revert q_7_2 q_9_2 q_9_1 q_9_0
  rcases k0 with rfl | rfl | rfl | rfl <;> rcases k1 with rfl | rfl | rfl | rfl <;> rcases k2 with rfl | rfl | rfl | rfl <;> decide +kernel
theorem own_L10 {v1 v2 v3 : Int32} (k0 : own_4 v1) (k1 : own_4 v2) (k2 : own_4 v3) (q_7_2 : ¬ (((0 : Int32) + (1 : Int32)) = v3)) (q_9_2 : (((0 : Int32) + (1 : Int32)) + (1 : Int32)) = v3) (q_9_1 : ((0 : Int32) + (1 : Int32)) = v2) (q_9_0 : ((0 : Int32) + (1 : Int32)) = v1) : ¬ ((2 : Int32) < ((v1 * v2) * v3)) := by
  revert q_7_2 q_9_2 q_9_1 q_9_0
  rcases k0 with rfl | rfl | rfl | rfl <;> rcases k1 with rfl | rfl | rfl | rfl <;> rcases k2 with rfl | rfl | rfl | rfl <;> decide +kernel
theorem own_L11 {v1 v2 v3 : Int32} (k0 : own_4 v1) (k1 : own_4 v2) (k2 : own_4 v3) (q_7_2 : ((0 : Int32) + (1 : Int32)) = v3) (q_7_1 : ¬ (((0 : Int32) + (1 : Int32)) = v2)) : (1 : Int32) < ((v1 * v2) * v3) := by
  revert q_7_2 q_7_1
  rcases k0 with rfl | rfl | rfl | rfl <;> rcases k1 with rfl | rfl | rfl | rfl <;> rcases k2 with rfl | rfl | rfl | rfl <;> decide +kernel
theorem own_L12 {v1 v2 v3 : Int32} (k0 : own_4 v1) (k1 : own_4 v2) (k2 : own_4 v3) (q_7_2 : ((0 : Int32) + (1 : Int32)) = v3) (q_7_1 : ¬ (((0 : Int32) + (1 : Int32)) = v2)) : ¬ ((own_R (0 : Int32) ((0 : Int32) + (1 : Int32)) (0 : Int32) v2 v3 (1 : Int32)) = (0 : Int32)) := by
  revert q_7_2 q_7_1
  rcases k0 with rfl | rfl | rfl | rfl <;> rcases k1 with rfl | rfl | rfl | rfl <;> rcases k2 with rfl | rfl | rfl | rfl <;> decide +kernel
theorem own_L13 {v1 v2 v3 : Int32} (k0 : own_4 v1) (k1 : own_4 v2) (k2 : own_4 v3) (q_7_2 : ((0 : Int32) + (1 : Int32)) = v3) (q_7_1 : ¬ (((0 : Int32) + (1 : Int32)) = v2)) (q_14_2 : ¬ (((0 : Int32) + (1 : Int32)) = v3)) : (2 : Int32) < ((v1 * v2) * v3) := by
  revert q_7_2 q_7_1 q_14_2
  rcases k0 with rfl | rfl | rfl | rfl <;> rcases k1 with rfl | rfl | rfl | rfl <;> rcases k2 with rfl | rfl | rfl | rfl <;> decide +kernel
theorem own_L14 {v1 v2 v3 : Int32} (k0 : own_4 v1) (k1 : own_4 v2) (k2 : own_4 v3) (q_7_2 : ((0 : Int32) + (1 : Int32)) = v3) (q_7_1 : ¬ (((0 : Int32) + (1 : Int32)) = v2)) (q_14_2 : ¬ (((0 : Int32) + (1 : Int32)) = v3)) : (own_R (0 : Int32) ((0 : Int32) + (1 : Int32)) ((0 : Int32) + (1 : Int32)) v2 v3 (2 : Int32)) = (1 : Int32) := by
  revert q_7_2 q_7_1 q_14_2
  rcases k0 with rfl | rfl | rfl | rfl <;> rcases k1 with rfl | rfl | rfl | rfl <;> rcases k2 with rfl | rfl | rfl | rfl <;> decide +kernel
theorem own_L15 {v1 v2 v3 : Int32} (k0 : own_4 v1) (k1 : own_4 v2) (k2 : own_4 v3) (q_7_1 : ¬ (((0 : Int32) + (1 : Int32)) = v2)) (q_7_2 : ((0 : Int32) + (1 : Int32)) = v3) (q_14_1 : ¬ ((((0 : Int32) + (1 : Int32)) + (1 : Int32)) = v2)) : (2 : Int32) < ((v1 * v2) * v3) := by
  revert q_7_1 q_7_2 q_14_1
  rcases k0 with rfl | rfl | rfl | rfl <;> rcases k1 with rfl | rfl | rfl | rfl <;> rcases k2 with rfl | rfl | rfl | rfl <;> decide +kernel
theorem own_L16 {v1 v2 v3 : Int32} (k0 : own_4 v1) (k1 : own_4 v2) (k2 : own_4 v3) (q_7_1 : ¬ (((0 : Int32) + (1 : Int32)) = v2)) (q_7_2 : ((0 : Int32) + (1 : Int32)) = v3) (q_14_1 : ¬ ((((0 : Int32) + (1 : Int32)) + (1 : Int32)) = v2)) : (own_R (0 : Int32) (((0 : Int32) + (1 : Int32)) + (1 : Int32)) (0 : Int32) v2 v3 (2 : Int32)) = (1 : Int32) := by
  revert q_7_1 q_7_2 q_14_1
  rcases k0 with rfl | rfl | rfl | rfl <;> rcases k1 with rfl | rfl | rfl | rfl <;> rcases k2 with rfl | rfl | rfl | rfl <;> decide +kernel
theorem own_L17 {v1 v2 v3 : Int32} (k0 : own_4 v1) (k1 : own_4 v2) (k2 : own_4 v3) (q_7_1 : ¬ (((0 : Int32) + (1 : Int32)) = v2)) (q_7_2 : ((0 : Int32) + (1 : Int32)) = v3) (q_14_1 : (((0 : Int32) + (1 : Int32)) + (1 : Int32)) = v2) (q_14_0 : ¬ (((0 : Int32) + (1 : Int32)) = v1)) : (2 : Int32) < ((v1 * v2) * v3) := by
  revert q_7_1 q_7_2 q_14_1 q_14_0
  rcases k0 with rfl | rfl | rfl | rfl <;> rcases k1 with rfl | rfl | rfl | rfl <;> rcases k2 with rfl | rfl | rfl | rfl <;> decide +kernel
theorem own_L18 {v1 v2 v3 : Int32} (k0 : own_4 v1) (k1 : own_4 v2) (k2 : own_4 v3) (q_7_1 : ¬ (((0 : Int32) + (1 : Int32)) = v2)) (q_7_2 : ((0 : Int32) + (1 : Int32)) = v3) (q_14_1 : (((0 : Int32) + (1 : Int32)) + (1 : Int32)) = v2) (q_14_0 : ¬ (((0 : Int32) + (1 : Int32)) = v1)) : (own_R ((0 : Int32) + (1 : Int32)) (0 : Int32) (0 : Int32) v2 v3 (2 : Int32)) = (1 : Int32) := by
  revert q_7_1 q_7_2 q_14_1 q_14_0
  rcases k0 with rfl | rfl | rfl | rfl <;> rcases k1 with rfl | rfl | rfl | rfl <;> rcases k2 with rfl | rfl | rfl | rfl <;> decide +kernel
theorem own_L19 {v1 v2 v3 : Int32} (k0 : own_4 v1) (k1 : own_4 v2) (k2 : own_4 v3) (q_7_1 : ¬ (((0 : Int32) + (1 : Int32)) = v2)) (q_7_2 : ((0 : Int32) + (1 : Int32)) = v3) (q_14_1 : (((0 : Int32) + (1 : Int32)) + (1 : Int32)) = v2) (q_14_0 : ((0 : Int32) + (1 : Int32)) = v1) : ¬ ((2 : Int32) < ((v1 * v2) * v3)) := by
  revert q_7_1 q_7_2 q_14_1 q_14_0
  rcases k0 with rfl | rfl | rfl | rfl <;> rcases k1 with rfl | rfl | rfl | rfl <;> rcases k2 with rfl | rfl | rfl | rfl <;> decide +kernel
theorem own_L20 {v1 v2 v3 : Int32} (k0 : own_4 v1) (k1 : own_4 v2) (k2 : own_4 v3) (q_7_2 : ((0 : Int32) + (1 : Int32)) = v3) (q_7_1 : ((0 : Int32) + (1 : Int32)) = v2) (q_7_0 : ¬ (((0 : Int32) + (1 : Int32)) = v1)) : (1 : Int32) < ((v1 * v2) * v3) := by
  revert q_7_2 q_7_1 q_7_0
  rcases k0 with rfl | rfl | rfl | rfl <;> rcases k1 with rfl | rfl | rfl | rfl <;> rcases k2 with rfl | rfl | rfl | rfl <;> decide +kernel
theorem own_L21 {v1 v2 v3 : Int32} (k0 : own_4 v1) (k1 : own_4 v2) (k2 : own_4 v3) (q_7_2 : ((0 : Int32) + (1 : Int32)) = v3) (q_7_1 : ((0 : Int32) + (1 : Int32)) = v2) (q_7_0 : ¬ (((0 : Int32) + (1 : Int32)) = v1)) : ¬ ((own_R ((0 : Int32) + (1 : Int32)) (0 : Int32) (0 : Int32) v2 v3 (1 : Int32)) = (0 : Int32)) := by
  revert q_7_2 q_7_1 q_7_0
  rcases k0 with rfl | rfl | rfl | rfl <;> rcases k1 with rfl | rfl | rfl | rfl <;> rcases k2 with rfl | rfl | rfl | rfl <;> decide +kernel
theorem own_L22 {v1 v2 v3 : Int32} (k0 : own_4 v1) (k1 : own_4 v2) (k2 : own_4 v3) (q_7_2 : ((0 : Int32) + (1 : Int32)) = v3) (q_7_1 : ((0 : Int32) + (1 : Int32)) = v2) (q_7_0 : ¬ (((0 : Int32) + (1 : Int32)) = v1)) (q_19_2 : ¬ (((0 : Int32) + (1 : Int32)) = v3)) : (2 : Int32) < ((v1 * v2) * v3) := by
  revert q_7_2 q_7_1 q_7_0 q_19_2
  rcases k0 with rfl | rfl | rfl | rfl <;> rcases k1 with rfl | rfl | rfl | rfl <;> rcases k2 with rfl | rfl | rfl | rfl <;> decide +kernel
theorem own_L23 {v1 v2 v3 : Int32} (k0 : own_4 v1) (k1 : own_4 v2) (k2 : own_4 v3) (q_7_2 : ((0 : Int32) + (1 : Int32)) = v3) (q_7_1 : ((0 : Int32) + (1 : Int32)) = v2) (q_7_0 : ¬ (((0 : Int32) + (1 : Int32)) = v1)) (q_19_2 : ¬ (((0 : Int32) + (1 : Int32)) = v3)) : (own_R ((0 : Int32) + (1 : Int32)) (0 : Int32) ((0 : Int32) + (1 : Int32)) v2 v3 (2 : Int32)) = (1 : Int32) := by
  revert q_7_2 q_7_1 q_7_0 q_19_2
  rcases k0 with rfl | rfl | rfl | rfl <;> rcases k1 with rfl | rfl | rfl | rfl <;> rcases k2 with rfl | rfl | rfl | rfl <;> decide +kernel
theorem own_L24 {v1 v2 v3 : Int32} (k0 : own_4 v1) (k1 : own_4 v2) (k2 : own_4 v3) (q_7_1 : ((0 : Int32) + (1 : Int32)) = v2) (q_7_0 : ¬ (((0 : Int32) + (1 : Int32)) = v1)) (q_7_2 : ((0 : Int32) + (1 : Int32)) = v3) (q_19_1 : ¬ (((0 : Int32) + (1 : Int32)) = v2)) : (2 : Int32) < ((v1 * v2) * v3) := by
  revert q_7_1 q_7_0 q_7_2 q_19_1
  rcases k0 with rfl | rfl | rfl | rfl <;> rcases k1 with rfl | rfl | rfl | rfl <;> rcases k2 with rfl | rfl | rfl | rfl <;> decide +kernel
theorem own_L25 {v1 v2 v3 : Int32} (k0 : own_4 v1) (k1 : own_4 v2) (k2 : own_4 v3) (q_7_1 : ((0 : Int32) + (1 : Int32)) = v2) (q_7_0 : ¬ (((0 : Int32) + (1 : Int32)) = v1)) (q_7_2 : ((0 : Int32) + (1 : Int32)) = v3) (q_19_1 : ¬ (((0 : Int32) + (1 : Int32)) = v2)) : (own_R ((0 : Int32) + (1 : Int32)) ((0 : Int32) + (1 : Int32)) (0 : Int32) v2 v3 (2 : Int32)) = (1 : Int32) := by
  revert q_7_1 q_7_0 q_7_2 q_19_1
  rcases k0 with rfl | rfl | rfl | rfl <;> rcases k1 with rfl | rfl | rfl | rfl <;> rcases k2 with rfl | rfl | rfl | rfl <;> decide +kernel
theorem own_L26 {v1 v2 v3 : Int32} (k0 : own_4 v1) (k1 : own_4 v2) (k2 : own_4 v3) (q_7_0 : ¬ (((0 : Int32) + (1 : Int32)) = v1)) (q_7_2 : ((0 : Int32) + (1 : Int32)) = v3) (q_7_1 : ((0 : Int32) + (1 : Int32)) = v2) (q_19_0 : ¬ ((((0 : Int32) + (1 : Int32)) + (1 : Int32)) = v1)) : (2 : Int32) < ((v1 * v2) * v3) := by
  revert q_7_0 q_7_2 q_7_1 q_19_0
  rcases k0 with rfl | rfl | rfl | rfl <;> rcases k1 with rfl | rfl | rfl | rfl <;> rcases k2 with rfl | rfl | rfl | rfl <;> decide +kernel
theorem own_L27 {v1 v2 v3 : Int32} (k0 : own_4 v1) (k1 : own_4 v2) (k2 : own_4 v3) (q_7_0 : ¬ (((0 : Int32) + (1 : Int32)) = v1)) (q_7_2 : ((0 : Int32) + (1 : Int32)) = v3) (q_7_1 : ((0 : Int32) + (1 : Int32)) = v2) (q_19_0 : ¬ ((((0 : Int32) + (1 : Int32)) + (1 : Int32)) = v1)) : (own_R (((0 : Int32) + (1 : Int32)) + (1 : Int32)) (0 : Int32) (0 : Int32) v2 v3 (2 : Int32)) = (1 : Int32) := by
  revert q_7_0 q_7_2 q_7_1 q_19_0
  rcases k0 with rfl | rfl | rfl | rfl <;> rcases k1 with rfl | rfl | rfl | rfl <;> rcases k2 with rfl | rfl | rfl | rfl <;> decide +kernel
theorem own_L28 {v1 v2 v3 : Int32} (k0 : own_4 v1) (k1 : own_4 v2) (k2 : own_4 v3) (q_7_0 : ¬ (((0 : Int32) + (1 : Int32)) = v1)) (q_7_2 : ((0 : Int32) + (1 : Int32)) = v3) (q_7_1 : ((0 : Int32) + (1 : Int32)) = v2) (q_19_0 : (((0 : Int32) + (1 : Int32)) + (1 : Int32)) = v1) : ¬ ((2 : Int32) < ((v1 * v2) * v3)) := by
  revert q_7_0 q_7_2 q_7_1 q_19_0
  rcases k0 with rfl | rfl | rfl | rfl <;> rcases k1 with rfl | rfl | rfl | rfl <;> rcases k2 with rfl | rfl | rfl | rfl <;> decide +kernel
theorem own_L29 {v1 v2 v3 : Int32} (k0 : own_4 v1) (k1 : own_4 v2) (k2 : own_4 v3) (q_7_2 : ((0 : Int32) + (1 : Int32)) = v3) (q_7_1 : ((0 : Int32) + (1 : Int32)) = v2) (q_7_0 : ((0 : Int32) + (1 : Int32)) = v1) : ¬ ((1 : Int32) < ((v1 * v2) * v3)) := by
  revert q_7_2 q_7_1 q_7_0
  rcases k0 with rfl | rfl | rfl | rfl <;> rcases k1 with rfl | rfl | rfl | rfl <;> rcases k2 with rfl | rfl | rfl | rfl <;> decide +kernel
theorem pn0 : plainName "com/example/mave/mave/engine/ChoicesNextPinLaw" = true := by first | (simp [plainName, overriddenIn]; done) | decide +kernel
theorem pd1 : parseMethodDescriptor "()V" = some ⟨[], none⟩ := by decide +kernel
theorem pd2 : parseMethodDescriptor "(Lcom/example/mave/mave/engine/Choices;IIII)Z" = some ⟨[(.object "com/example/mave/mave/engine/Choices"), .int, .int, .int, .int], some .boolean⟩ := by decide +kernel
theorem pd3 : parseMethodDescriptor "()Z" = some ⟨[], some .boolean⟩ := by decide +kernel
theorem ef_rm0 (m : MethodId) (p0 : Int32) (p1 : Int32) (p2 : Int32) : entryFrame m #[(.int p0), (.int p1), (.int p2)] maxLocals = mkF m 0 #[.val (.int p0), .val (.int p1), .val (.int p2), .unset, .unset, .unset, .unset, .unset, .unset, .unset] [] := by first | (simp [entryFrame, mkF, argsToLocals, Value.category, maxLocals]; done) | rfl
set_option maxRecDepth 65536 in
set_option maxHeartbeats 40000000 in
theorem rm0 (l : Launch) (Z : State) (a0 : Array Value) (hw : ∀ d ∈ tables_1, d.before a0 Z = true) (ws : List Jvm.Cond) (p0 : Int32) (p1 : Int32) (p2 : Int32) (h0 : Heap) (n0 : Nat) (Z0 : n0 ≤ h0.size) :
    MetFree l x (head1 (Jvm.Cond.code x code maxLocals ret :: ws) room_1) (fun a U => a = #[(.int p0), (.int p1), (.int p2)] ∧ Z.Warmed39 U.vm ∧ U.heap = h0) (fun _ _ _ _ _ => True) (fun _ U o U' => ∃ v L, o = .returned v ∧ (own_True n0) v U'.heap L ∧ FrameEnd U o U' L 16 128) := by
  refine MetFree.of_bodySF (plainFor_of_name pn0) hisR ?_
  intro p e s m args below meth c s₁ Bd hml0 hP hK
  obtain ⟨rfl, hZ, hh⟩ := hP
  have hx := Bd.exec
  have hby := Bd.bytes
  have hml : c.maxLocals = 10 := hml0
  have hown : s.vm.findClass "com/example/mave/mave/engine/ChoicesNextPinLaw" = some m.cls := findClass_of_methodNamed Bd.named
  have hnm := (name_of_methodNamed Bd.named Bd.method).1
  have X0 : Stand p l e room_1 s m #[(.int p0), (.int p1), (.int p2)] below meth c s₁ [] 0 0 := Stand.of_body Bd
  have e0 : s₁.heap = h0 := by rw [← hh, Bd.state]; rfl
  have N0 := Fr.nil n0
  show own_Goes p e below (own_End s (own_True n0) 16 128) _
  refine own_go (G := s₁.setTop (mkF m 0 #[.val (.int p0), .val (.int p1), .val (.int p2), .unset, .unset, .unset, .unset, .unset, .unset, .unset] [])) (fun t k => castTop (ef_rm0 m p0 p1 p2) k) ?_
  refine own_go (G := s₁.setTop (mkF m 1 #[.val (.int p0), .val (.int p1), .val (.int p2), .unset, .unset, .unset, .unset, .unset, .unset, .unset] [(.int p0)])) (fun _ k => XS.iloadN X0.here hx rfl (hb hby at_0) rfl k) ?_
  refine own_go (G := s₁.setTop (mkF m 3 #[.val (.int p0), .val (.int p1), .val (.int p2), .unset, .unset, .unset, .unset, .unset, .unset, .unset] [(.int (2147483647 : Int32)), (.int p0)])) (X0.ldcInt hx hown (mvT hZ (hw _ (List.mem_of_getElem? (i := 0) rfl))) (g := (mkF m 1 #[.val (.int p0), .val (.int p1), .val (.int p2), .unset, .unset, .unset, .unset, .unset, .unset, .unset] [(.int p0)])) rfl (hb hby at_1)) ?_
  refine own_go (G := s₁.setTop (mkF m 4 #[.val (.int p0), .val (.int p1), .val (.int p2), .unset, .unset, .unset, .unset, .unset, .unset, .unset] [(.int (p0 &&& (2147483647 : Int32)))])) (fun _ k => XS.iand X0.here hx rfl (hb hby at_3) rfl k) ?_
  refine own_go (G := s₁.setTop (mkF m 5 #[.val (.int p0), .val (.int p1), .val (.int p2), .unset, .unset, .unset, .unset, .unset, .unset, .unset] [(.int (4 : Int32)), (.int (p0 &&& (2147483647 : Int32)))])) (fun _ k => XS.iconst X0.here hx rfl (hb hby at_4) k) ?_
  refine own_go (G := s₁.setTop (mkF m 6 #[.val (.int p0), .val (.int p1), .val (.int p2), .unset, .unset, .unset, .unset, .unset, .unset, .unset] [(.int ((p0 &&& (2147483647 : Int32)) % (4 : Int32)))])) (fun _ k => iremM X0 hx rfl (hb hby at_5) rfl (by decide) k) ?_
  refine own_go (G := s₁.setTop (mkF m 7 #[.val (.int p0), .val (.int p1), .val (.int p2), .unset, .unset, .unset, .unset, .unset, .unset, .unset] [(.int (1 : Int32)), (.int ((p0 &&& (2147483647 : Int32)) % (4 : Int32)))])) (fun _ k => XS.iconst X0.here hx rfl (hb hby at_6) k) ?_
  refine own_go (G := s₁.setTop (mkF m 8 #[.val (.int p0), .val (.int p1), .val (.int p2), .unset, .unset, .unset, .unset, .unset, .unset, .unset] [(.int (((p0 &&& (2147483647 : Int32)) % (4 : Int32)) + (1 : Int32)))])) (fun _ k => XS.iadd X0.here hx rfl (hb hby at_7) rfl k) ?_
  generalize hv1 : (((p0 &&& (2147483647 : Int32)) % (4 : Int32)) + (1 : Int32)) = v1
  refine own_go (G := s₁.setTop (mkF m 9 #[.val (.int p0), .val (.int p1), .val (.int p2), .val (.int v1), .unset, .unset, .unset, .unset, .unset, .unset] [])) (fun _ k => XS.istoreN X0.here hx rfl (hb hby at_8) rfl (l' := #[.val (.int p0), .val (.int p1), .val (.int p2), .val (.int v1), .unset, .unset, .unset, .unset, .unset, .unset]) rfl k) ?_
  refine own_go (G := s₁.setTop (mkF m 10 #[.val (.int p0), .val (.int p1), .val (.int p2), .val (.int v1), .unset, .unset, .unset, .unset, .unset, .unset] [(.int p1)])) (fun _ k => XS.iloadN X0.here hx rfl (hb hby at_9) rfl k) ?_
  refine own_go (G := s₁.setTop (mkF m 12 #[.val (.int p0), .val (.int p1), .val (.int p2), .val (.int v1), .unset, .unset, .unset, .unset, .unset, .unset] [(.int (2147483647 : Int32)), (.int p1)])) (X0.ldcInt hx hown (mvT hZ (hw _ (List.mem_of_getElem? (i := 0) rfl))) (g := (mkF m 10 #[.val (.int p0), .val (.int p1), .val (.int p2), .val (.int v1), .unset, .unset, .unset, .unset, .unset, .unset] [(.int p1)])) rfl (hb hby at_10)) ?_
  refine own_go (G := s₁.setTop (mkF m 13 #[.val (.int p0), .val (.int p1), .val (.int p2), .val (.int v1), .unset, .unset, .unset, .unset, .unset, .unset] [(.int (p1 &&& (2147483647 : Int32)))])) (fun _ k => XS.iand X0.here hx rfl (hb hby at_12) rfl k) ?_
  refine own_go (G := s₁.setTop (mkF m 14 #[.val (.int p0), .val (.int p1), .val (.int p2), .val (.int v1), .unset, .unset, .unset, .unset, .unset, .unset] [(.int (4 : Int32)), (.int (p1 &&& (2147483647 : Int32)))])) (fun _ k => XS.iconst X0.here hx rfl (hb hby at_13) k) ?_
  refine own_go (G := s₁.setTop (mkF m 15 #[.val (.int p0), .val (.int p1), .val (.int p2), .val (.int v1), .unset, .unset, .unset, .unset, .unset, .unset] [(.int ((p1 &&& (2147483647 : Int32)) % (4 : Int32)))])) (fun _ k => iremM X0 hx rfl (hb hby at_14) rfl (by decide) k) ?_
  refine own_go (G := s₁.setTop (mkF m 16 #[.val (.int p0), .val (.int p1), .val (.int p2), .val (.int v1), .unset, .unset, .unset, .unset, .unset, .unset] [(.int (1 : Int32)), (.int ((p1 &&& (2147483647 : Int32)) % (4 : Int32)))])) (fun _ k => XS.iconst X0.here hx rfl (hb hby at_15) k) ?_
  refine own_go (G := s₁.setTop (mkF m 17 #[.val (.int p0), .val (.int p1), .val (.int p2), .val (.int v1), .unset, .unset, .unset, .unset, .unset, .unset] [(.int (((p1 &&& (2147483647 : Int32)) % (4 : Int32)) + (1 : Int32)))])) (fun _ k => XS.iadd X0.here hx rfl (hb hby at_16) rfl k) ?_
  generalize hv2 : (((p1 &&& (2147483647 : Int32)) % (4 : Int32)) + (1 : Int32)) = v2
  refine own_go (G := s₁.setTop (mkF m 19 #[.val (.int p0), .val (.int p1), .val (.int p2), .val (.int v1), .val (.int v2), .unset, .unset, .unset, .unset, .unset] [])) (fun _ k => XS.istore X0.here hx rfl (hb hby at_17) rfl (l' := #[.val (.int p0), .val (.int p1), .val (.int p2), .val (.int v1), .val (.int v2), .unset, .unset, .unset, .unset, .unset]) rfl k) ?_
  refine own_go (G := s₁.setTop (mkF m 20 #[.val (.int p0), .val (.int p1), .val (.int p2), .val (.int v1), .val (.int v2), .unset, .unset, .unset, .unset, .unset] [(.int p2)])) (fun _ k => XS.iloadN X0.here hx rfl (hb hby at_19) rfl k) ?_
  refine own_go (G := s₁.setTop (mkF m 22 #[.val (.int p0), .val (.int p1), .val (.int p2), .val (.int v1), .val (.int v2), .unset, .unset, .unset, .unset, .unset] [(.int (2147483647 : Int32)), (.int p2)])) (X0.ldcInt hx hown (mvT hZ (hw _ (List.mem_of_getElem? (i := 0) rfl))) (g := (mkF m 20 #[.val (.int p0), .val (.int p1), .val (.int p2), .val (.int v1), .val (.int v2), .unset, .unset, .unset, .unset, .unset] [(.int p2)])) rfl (hb hby at_20)) ?_
  refine own_go (G := s₁.setTop (mkF m 23 #[.val (.int p0), .val (.int p1), .val (.int p2), .val (.int v1), .val (.int v2), .unset, .unset, .unset, .unset, .unset] [(.int (p2 &&& (2147483647 : Int32)))])) (fun _ k => XS.iand X0.here hx rfl (hb hby at_22) rfl k) ?_
  refine own_go (G := s₁.setTop (mkF m 24 #[.val (.int p0), .val (.int p1), .val (.int p2), .val (.int v1), .val (.int v2), .unset, .unset, .unset, .unset, .unset] [(.int (4 : Int32)), (.int (p2 &&& (2147483647 : Int32)))])) (fun _ k => XS.iconst X0.here hx rfl (hb hby at_23) k) ?_
  refine own_go (G := s₁.setTop (mkF m 25 #[.val (.int p0), .val (.int p1), .val (.int p2), .val (.int v1), .val (.int v2), .unset, .unset, .unset, .unset, .unset] [(.int ((p2 &&& (2147483647 : Int32)) % (4 : Int32)))])) (fun _ k => iremM X0 hx rfl (hb hby at_24) rfl (by decide) k) ?_
  refine own_go (G := s₁.setTop (mkF m 26 #[.val (.int p0), .val (.int p1), .val (.int p2), .val (.int v1), .val (.int v2), .unset, .unset, .unset, .unset, .unset] [(.int (1 : Int32)), (.int ((p2 &&& (2147483647 : Int32)) % (4 : Int32)))])) (fun _ k => XS.iconst X0.here hx rfl (hb hby at_25) k) ?_
  refine own_go (G := s₁.setTop (mkF m 27 #[.val (.int p0), .val (.int p1), .val (.int p2), .val (.int v1), .val (.int v2), .unset, .unset, .unset, .unset, .unset] [(.int (((p2 &&& (2147483647 : Int32)) % (4 : Int32)) + (1 : Int32)))])) (fun _ k => XS.iadd X0.here hx rfl (hb hby at_26) rfl k) ?_
  generalize hv3 : (((p2 &&& (2147483647 : Int32)) % (4 : Int32)) + (1 : Int32)) = v3
  refine own_go (G := s₁.setTop (mkF m 29 #[.val (.int p0), .val (.int p1), .val (.int p2), .val (.int v1), .val (.int v2), .val (.int v3), .unset, .unset, .unset, .unset] [])) (fun _ k => XS.istore X0.here hx rfl (hb hby at_27) rfl (l' := #[.val (.int p0), .val (.int p1), .val (.int p2), .val (.int v1), .val (.int v2), .val (.int v3), .unset, .unset, .unset, .unset]) rfl k) ?_
  refine own_go (G := s₁.setTop (mkF m 30 #[.val (.int p0), .val (.int p1), .val (.int p2), .val (.int v1), .val (.int v2), .val (.int v3), .unset, .unset, .unset, .unset] [(.int v1)])) (fun _ k => XS.iloadN X0.here hx rfl (hb hby at_29) rfl k) ?_
  refine own_go (G := s₁.setTop (mkF m 32 #[.val (.int p0), .val (.int p1), .val (.int p2), .val (.int v1), .val (.int v2), .val (.int v3), .unset, .unset, .unset, .unset] [(.int v2), (.int v1)])) (fun _ k => XS.iload X0.here hx rfl (hb hby at_30) rfl k) ?_
  refine own_go (G := s₁.setTop (mkF m 33 #[.val (.int p0), .val (.int p1), .val (.int p2), .val (.int v1), .val (.int v2), .val (.int v3), .unset, .unset, .unset, .unset] [(.int (v1 * v2))])) (fun _ k => XS.imul X0.here hx rfl (hb hby at_32) rfl k) ?_
  refine own_go (G := s₁.setTop (mkF m 35 #[.val (.int p0), .val (.int p1), .val (.int p2), .val (.int v1), .val (.int v2), .val (.int v3), .unset, .unset, .unset, .unset] [(.int v3), (.int (v1 * v2))])) (fun _ k => XS.iload X0.here hx rfl (hb hby at_33) rfl k) ?_
  refine own_go (G := s₁.setTop (mkF m 36 #[.val (.int p0), .val (.int p1), .val (.int p2), .val (.int v1), .val (.int v2), .val (.int v3), .unset, .unset, .unset, .unset] [(.int ((v1 * v2) * v3))])) (fun _ k => XS.imul X0.here hx rfl (hb hby at_35) rfl k) ?_
  refine own_go (G := s₁.setTop (mkF m 38 #[.val (.int p0), .val (.int p1), .val (.int p2), .val (.int v1), .val (.int v2), .val (.int v3), .val (.int ((v1 * v2) * v3)), .unset, .unset, .unset] [])) (fun _ k => XS.istore X0.here hx rfl (hb hby at_36) rfl (l' := #[.val (.int p0), .val (.int p1), .val (.int p2), .val (.int v1), .val (.int v2), .val (.int v3), .val (.int ((v1 * v2) * v3)), .unset, .unset, .unset]) rfl k) ?_
  obtain ⟨T4, h4, X4, e4, E4, A4, D4, -, st4⟩ := newO X0 hx hZ hown (hw _ (List.mem_of_getElem? (i := 1) rfl)) (hw _ (List.mem_of_getElem? (i := 2) rfl)) (hw _ (List.mem_of_getElem? (i := 3) rfl)) e0 (g := (mkF m 38 #[.val (.int p0), .val (.int p1), .val (.int p2), .val (.int v1), .val (.int v2), .val (.int v3), .val (.int ((v1 * v2) * v3)), .unset, .unset, .unset] [])) rfl (hb hby at_38) (by decide) (by decide)
  obtain ⟨b4, g4⟩ : ∃ z, z = h0.size := ⟨_, rfl⟩
  rw [← g4] at A4 D4 st4
  have gn_b4 : n0 ≤ b4 := Nat.le_trans Z0 (Nat.le_of_eq g4.symm)
  have Z4 : n0 ≤ h4.size := Nat.le_trans Z0 E4.1
  have F_taken_b4 : Fld Z h4 b4 "com/example/mave/mave/engine/Choices" "taken" "[I" .null := D4 (Or.inl (hw _ (List.mem_of_getElem? (i := 12) rfl))) (ty := (.array .int)) (by decide)
  have F_alternatives_b4 : Fld Z h4 b4 "com/example/mave/mave/engine/Choices" "alternatives" "[I" .null := D4 (Or.inl (hw _ (List.mem_of_getElem? (i := 14) rfl))) (ty := (.array .int)) (by decide)
  have F_made_b4 : Fld Z h4 b4 "com/example/mave/mave/engine/Choices" "made" "I" (.int (0 : Int32)) := D4 (Or.inl (hw _ (List.mem_of_getElem? (i := 25) rfl))) (ty := .int) (by decide)
  have F_replayed_b4 : Fld Z h4 b4 "com/example/mave/mave/engine/Choices" "replayed" "I" (.int (0 : Int32)) := D4 (Or.inl (hw _ (List.mem_of_getElem? (i := 27) rfl))) (ty := .int) (by decide)
  refine own_go (G := T4.setTop (mkF m 41 #[.val (.int p0), .val (.int p1), .val (.int p2), .val (.int v1), .val (.int v2), .val (.int v3), .val (.int ((v1 * v2) * v3)), .unset, .unset, .unset] [(.ref b4)])) (st4) ?_
  refine own_go (G := T4.setTop (mkF m 42 #[.val (.int p0), .val (.int p1), .val (.int p2), .val (.int v1), .val (.int v2), .val (.int v3), .val (.int ((v1 * v2) * v3)), .unset, .unset, .unset] [(.ref b4), (.ref b4)])) (fun _ k => XS.dup X4.here hx rfl (hb hby at_41) rfl rfl k) ?_
  obtain ⟨_, _, ⟨T5, L5, k5, n5⟩, -, X5, ⟨Lc5, hQ5, l5, y5, z5⟩, st5⟩ := X4.specialBack hx (y := (⟨"com/example/mave/mave/engine/Choices", "<init>", "()V"⟩ : MethodName)) rfl hown (mvT hZ (hw _ (List.mem_of_getElem? (i := 4) rfl))) (mvT hZ (hw _ (List.mem_of_getElem? (i := 5) rfl))) (mvT hZ (hw _ (List.mem_of_getElem? (i := 6) rfl))) (by decide) (backOf (W := 1) (rm1 l Z a0 hw [] b4 h4 n0 Z4 F_made_b4 F_replayed_b4 F_taken_b4 F_alternatives_b4 A4 gn_b4) hZ (hw _ (List.mem_of_getElem? (i := 6) rfl)) (hw _ (List.mem_of_getElem? (i := 3) rfl)) (by decide) (by decide)) (g := (mkF m 42 #[.val (.int p0), .val (.int p1), .val (.int p2), .val (.int v1), .val (.int v2), .val (.int v3), .val (.int ((v1 * v2) * v3)), .unset, .unset, .unset] [(.ref b4), (.ref b4)])) rfl (by rw [hml]; rfl) (Steps.refl _) (a := b4) (argsL := []) (rest := [(.ref b4)]) (lenOf pd1 rfl) rfl (by show 2 * 0 + _ ≤ _; exact Nat.le_of_eq rfl) (hb hby at_42) (fun _ _ => ⟨rfl, e4, (by decide : 1 + 2 ≤ _), (by decide : 4 + 16 ≤ _)⟩)
  dsimp only [Pt.U, Pt.locs, Pt.cells, Pt.slots] at X5 l5 y5 z5 st5 hQ5
  subst l5 y5 z5
  obtain ⟨rfl, Nq5, Z5, Gq5⟩ := hQ5
  have N5 := Fr.app N0 Nq5
  have Gn5 : own_C Z T5.heap n0 b4 (0 : Int32) (0 : Int32) (0 : Int32) (0 : Int32) (0 : Int32) (0 : Int32) (0 : Int32) (0 : Int32) := Gq5
  obtain ⟨-, Eg5, -⟩ := id Gn5
  refine own_go (G := T5.setTop (mkF m 45 #[.val (.int p0), .val (.int p1), .val (.int p2), .val (.int v1), .val (.int v2), .val (.int v3), .val (.int ((v1 * v2) * v3)), .unset, .unset, .unset] [(.ref b4)])) (fun _ k => st5.trans k) ?_
  refine own_go (G := T5.setTop (mkF m 47 #[.val (.int p0), .val (.int p1), .val (.int p2), .val (.int v1), .val (.int v2), .val (.int v3), .val (.int ((v1 * v2) * v3)), .val (.ref b4), .unset, .unset] [])) (fun _ k => XS.astore X5.here hx rfl (hb hby at_45) rfl rfl (l' := #[.val (.int p0), .val (.int p1), .val (.int p2), .val (.int v1), .val (.int v2), .val (.int v3), .val (.int ((v1 * v2) * v3)), .val (.ref b4), .unset, .unset]) rfl k) ?_
  refine own_go (G := T5.setTop (mkF m 49 #[.val (.int p0), .val (.int p1), .val (.int p2), .val (.int v1), .val (.int v2), .val (.int v3), .val (.int ((v1 * v2) * v3)), .val (.ref b4), .unset, .unset] [(.ref b4)])) (fun _ k => XS.aload X5.here hx rfl (hb hby at_47) rfl rfl k) ?_
  refine own_go (G := T5.setTop (mkF m 50 #[.val (.int p0), .val (.int p1), .val (.int p2), .val (.int v1), .val (.int v2), .val (.int v3), .val (.int ((v1 * v2) * v3)), .val (.ref b4), .unset, .unset] [(.int v1), (.ref b4)])) (fun _ k => XS.iloadN X5.here hx rfl (hb hby at_49) rfl k) ?_
  refine own_go (G := T5.setTop (mkF m 52 #[.val (.int p0), .val (.int p1), .val (.int p2), .val (.int v1), .val (.int v2), .val (.int v3), .val (.int ((v1 * v2) * v3)), .val (.ref b4), .unset, .unset] [(.int v2), (.int v1), (.ref b4)])) (fun _ k => XS.iload X5.here hx rfl (hb hby at_50) rfl k) ?_
  refine own_go (G := T5.setTop (mkF m 54 #[.val (.int p0), .val (.int p1), .val (.int p2), .val (.int v1), .val (.int v2), .val (.int v3), .val (.int ((v1 * v2) * v3)), .val (.ref b4), .unset, .unset] [(.int v3), (.int v2), (.int v1), (.ref b4)])) (fun _ k => XS.iload X5.here hx rfl (hb hby at_52) rfl k) ?_
  refine own_go (G := T5.setTop (mkF m 55 #[.val (.int p0), .val (.int p1), .val (.int p2), .val (.int v1), .val (.int v2), .val (.int v3), .val (.int ((v1 * v2) * v3)), .val (.ref b4), .unset, .unset] [(.int (0 : Int32)), (.int v3), (.int v2), (.int v1), (.ref b4)])) (fun _ k => XS.iconst X5.here hx rfl (hb hby at_54) k) ?_
  obtain ⟨_, _, ⟨T6, L6, k6, n6⟩, -, X6, ⟨Lc6, hQ6, l6, y6, z6⟩, st6⟩ := Jvm.LawKit.callS X5 hx (y := (⟨"com/example/mave/mave/engine/ChoicesNextPinLaw", "runIs", "(Lcom/example/mave/mave/engine/Choices;IIII)Z"⟩ : MethodName)) hown (mvT hZ (hw _ (List.mem_of_getElem? (i := 15) rfl))) (mvT hZ (hw _ (List.mem_of_getElem? (i := 16) rfl))) (mvT hZ (hw _ (List.mem_of_getElem? (i := 17) rfl))) (mvT hZ (hw _ (List.mem_of_getElem? (i := 18) rfl))) (by decide) (backOf (W := 0) (run0 l Z a0 hw [] b4 v1 v2 v3 (0 : Int32) (0 : Int32) (0 : Int32) (0 : Int32) (0 : Int32) (0 : Int32) (0 : Int32) T5.heap n0 Z5 Gn5 (own_z1 (own_c hv1) (own_c hv2) (own_c hv3)) (own_z2 (own_c hv1) (own_c hv2) (own_c hv3)) (own_z3 (own_c hv1) (own_c hv2) (own_c hv3))) hZ (hw _ (List.mem_of_getElem? (i := 18) rfl)) (hw _ (List.mem_of_getElem? (i := 17) rfl)) (by decide) (by decide)) (g := (mkF m 55 #[.val (.int p0), .val (.int p1), .val (.int p2), .val (.int v1), .val (.int v2), .val (.int v3), .val (.int ((v1 * v2) * v3)), .val (.ref b4), .unset, .unset] [(.int (0 : Int32)), (.int v3), (.int v2), (.int v1), (.ref b4)])) rfl (by rw [hml]; rfl) (argsL := [(.ref b4), (.int v1), (.int v2), (.int v3), (.int (0 : Int32))]) (rest := []) (lenOf pd2 rfl) rfl (by show 2 * 0 + _ ≤ _; exact Nat.le_of_eq rfl) (hb hby at_55) (fun _ _ => ⟨rfl, rfl, (by decide : 3 + 0 ≤ _), (by decide : 20 + 0 ≤ _)⟩)
  dsimp only [Pt.U, Pt.locs, Pt.cells, Pt.slots] at X6 l6 y6 z6 st6 hQ6
  subst l6 y6 z6
  obtain ⟨rfl, Nq6, Z6, Gq6⟩ := hQ6
  have N6 := Fr.app N5 Nq6
  have Gn6 : own_C Z T6.heap n0 b4 (3 : Int32) (0 : Int32) (0 : Int32) (0 : Int32) (0 : Int32) v1 v2 v3 := Gq6
  obtain ⟨-, Eg6, -⟩ := id Gn6
  refine own_go (G := T6.setTop (mkF m 58 #[.val (.int p0), .val (.int p1), .val (.int p2), .val (.int v1), .val (.int v2), .val (.int v3), .val (.int ((v1 * v2) * v3)), .val (.ref b4), .unset, .unset] [(.int (own_R (0 : Int32) (0 : Int32) (0 : Int32) v2 v3 (0 : Int32)))])) (st6) ?_
  refine own_go (G := T6.setTop (mkF m 63 #[.val (.int p0), .val (.int p1), .val (.int p2), .val (.int v1), .val (.int v2), .val (.int v3), .val (.int ((v1 * v2) * v3)), .val (.ref b4), .unset, .unset] [])) (fun _ k => XS.ifYes X6.here hx rfl (pc0 := 58) (pc' := 63) rfl (hb hby at_58) rfl ((if0 _ _).trans (feq (own_L1 (own_c hv1) (own_c hv2) (own_c hv3) : ¬ ((own_R (0 : Int32) (0 : Int32) (0 : Int32) v2 v3 (0 : Int32)) = (0 : Int32)))).2) (by decide) (by decide) k) ?_
  refine own_go (G := T6.setTop (mkF m 65 #[.val (.int p0), .val (.int p1), .val (.int p2), .val (.int v1), .val (.int v2), .val (.int v3), .val (.int ((v1 * v2) * v3)), .val (.ref b4), .unset, .unset] [(.ref b4)])) (fun _ k => XS.aload X6.here hx rfl (hb hby at_63) rfl rfl k) ?_
  obtain ⟨cq7, kq7, qk7a, qk7b, qk7c⟩ := isOf hZ rfl Eg6
  obtain ⟨_, _, ⟨T7, L7, k7, n7⟩, -, X7, ⟨Lc7, hQ7, l7, y7, z7⟩, st7⟩ := X6.virtualBack hx (y := (⟨"com/example/mave/mave/engine/Choices", "next", "()Z"⟩ : MethodName)) (z := (⟨"com/example/mave/mave/engine/Choices", "next", "()Z"⟩ : MethodName)) hown (mvT hZ (hw _ (List.mem_of_getElem? (i := 28) rfl))) (mvT hZ (hw _ (List.mem_of_getElem? (i := 29) rfl))) (notFace_of_selects (args := #[]) (mvT hZ (hw _ (List.mem_of_getElem? (i := 31) rfl)))) (mvT hZ (hw _ (List.mem_of_getElem? (i := 31) rfl))) (mvT hZ (hw _ (List.mem_of_getElem? (i := 30) rfl))) (by decide) (backOf (W := 0) (rm5 l Z a0 hw [] b4 (0 : Int32) (0 : Int32) (0 : Int32) (0 : Int32) v1 v2 v3 T6.heap n0 Z6 Gn6) hZ (hw _ (List.mem_of_getElem? (i := 32) rfl)) (hw _ (List.mem_of_getElem? (i := 3) rfl)) (by decide) (by decide)) qk7a qk7c (g := (mkF m 65 #[.val (.int p0), .val (.int p1), .val (.int p2), .val (.int v1), .val (.int v2), .val (.int v3), .val (.int ((v1 * v2) * v3)), .val (.ref b4), .unset, .unset] [(.ref b4)])) rfl (by rw [hml]; rfl) (Steps.refl _) (argsL := []) (rest := []) (lenOf pd3 rfl) rfl (by show 2 * 0 + _ ≤ _; exact Nat.le_of_eq rfl) (hb hby at_65) (fun _ _ => ⟨rfl, rfl, (by decide : 3 + 0 ≤ _), (by decide : 20 + 0 ≤ _)⟩)
  dsimp only [Pt.U, Pt.locs, Pt.cells, Pt.slots] at X7 l7 y7 z7 st7 hQ7
  subst l7 y7 z7
  obtain ⟨w7, rfl, Nq7, Z7, hD7⟩ := hQ7
  have N7 := Fr.app N6 Nq7
  refine own_go (G := T7.setTop (mkF m 68 #[.val (.int p0), .val (.int p1), .val (.int p2), .val (.int v1), .val (.int v2), .val (.int v3), .val (.int ((v1 * v2) * v3)), .val (.ref b4), .unset, .unset] [(.int w7)])) (fun _ k => st7.trans k) ?_
  rcases hD7 with ⟨hw_, q_7_2, Gx⟩ | ⟨hw_, q_7_2, q_7_1, Gx⟩ | ⟨hw_, q_7_2, q_7_1, q_7_0, Gx⟩ | ⟨hw_, q_7_2, q_7_1, q_7_0⟩
  · subst hw_
    have Gn7 : own_C Z T7.heap n0 b4 (0 : Int32) (3 : Int32) (0 : Int32) (0 : Int32) ((0 : Int32) + (1 : Int32)) v1 v2 v3 := Gx
    obtain ⟨-, Eg7, -⟩ := id Gn7
    refine own_go (G := T7.setTop (mkF m 70 #[.val (.int p0), .val (.int p1), .val (.int p2), .val (.int v1), .val (.int v2), .val (.int v3), .val (.int ((v1 * v2) * v3)), .val (.ref b4), .val (.int (1 : Int32)), .unset] [])) (fun _ k => XS.istore X7.here hx rfl (hb hby at_68) rfl (l' := #[.val (.int p0), .val (.int p1), .val (.int p2), .val (.int v1), .val (.int v2), .val (.int v3), .val (.int ((v1 * v2) * v3)), .val (.ref b4), .val (.int (1 : Int32)), .unset]) rfl k) ?_
    refine own_go (G := T7.setTop (mkF m 72 #[.val (.int p0), .val (.int p1), .val (.int p2), .val (.int v1), .val (.int v2), .val (.int v3), .val (.int ((v1 * v2) * v3)), .val (.ref b4), .val (.int (1 : Int32)), .unset] [(.int (1 : Int32))])) (fun _ k => XS.iload X7.here hx rfl (hb hby at_70) rfl k) ?_
    refine own_go (G := T7.setTop (mkF m 73 #[.val (.int p0), .val (.int p1), .val (.int p2), .val (.int v1), .val (.int v2), .val (.int v3), .val (.int ((v1 * v2) * v3)), .val (.ref b4), .val (.int (1 : Int32)), .unset] [(.int (1 : Int32)), (.int (1 : Int32))])) (fun _ k => XS.iconst X7.here hx rfl (hb hby at_72) k) ?_
    refine own_go (G := T7.setTop (mkF m 75 #[.val (.int p0), .val (.int p1), .val (.int p2), .val (.int v1), .val (.int v2), .val (.int v3), .val (.int ((v1 * v2) * v3)), .val (.ref b4), .val (.int (1 : Int32)), .unset] [(.int ((v1 * v2) * v3)), (.int (1 : Int32)), (.int (1 : Int32))])) (fun _ k => XS.iload X7.here hx rfl (hb hby at_73) rfl k) ?_
    refine own_go (G := T7.setTop (mkF m 78 #[.val (.int p0), .val (.int p1), .val (.int p2), .val (.int v1), .val (.int v2), .val (.int v3), .val (.int ((v1 * v2) * v3)), .val (.ref b4), .val (.int (1 : Int32)), .unset] [(.int (1 : Int32))])) (fun _ k => XS.icmpNo X7.here hx rfl (hb hby at_75) rfl (tlt (own_L2 (own_c hv1) (own_c hv2) (own_c hv3) q_7_2 : (1 : Int32) < ((v1 * v2) * v3))).2.1 k) ?_
    refine own_go (G := T7.setTop (mkF m 79 #[.val (.int p0), .val (.int p1), .val (.int p2), .val (.int v1), .val (.int v2), .val (.int v3), .val (.int ((v1 * v2) * v3)), .val (.ref b4), .val (.int (1 : Int32)), .unset] [(.int (1 : Int32)), (.int (1 : Int32))])) (fun _ k => XS.iconst X7.here hx rfl (hb hby at_78) k) ?_
    refine own_go (G := T7.setTop (mkF m 83 #[.val (.int p0), .val (.int p1), .val (.int p2), .val (.int v1), .val (.int v2), .val (.int v3), .val (.int ((v1 * v2) * v3)), .val (.ref b4), .val (.int (1 : Int32)), .unset] [(.int (1 : Int32)), (.int (1 : Int32))])) (fun _ k => XS.goto X7.here hx rfl (pc0 := 79) (pc' := 83) rfl (hb hby at_79) (by decide) (by decide) k) ?_
    refine own_go (G := T7.setTop (mkF m 88 #[.val (.int p0), .val (.int p1), .val (.int p2), .val (.int v1), .val (.int v2), .val (.int v3), .val (.int ((v1 * v2) * v3)), .val (.ref b4), .val (.int (1 : Int32)), .unset] [])) (fun _ k => XS.icmpYes X7.here hx rfl (pc0 := 83) (pc' := 88) rfl (hb hby at_83) rfl (teq (by decide : (1 : Int32) = (1 : Int32))).1 (by decide) (by decide) k) ?_
    refine own_go (G := T7.setTop (mkF m 90 #[.val (.int p0), .val (.int p1), .val (.int p2), .val (.int v1), .val (.int v2), .val (.int v3), .val (.int ((v1 * v2) * v3)), .val (.ref b4), .val (.int (1 : Int32)), .unset] [(.int (1 : Int32))])) (fun _ k => XS.iload X7.here hx rfl (hb hby at_88) rfl k) ?_
    refine own_go (G := T7.setTop (mkF m 95 #[.val (.int p0), .val (.int p1), .val (.int p2), .val (.int v1), .val (.int v2), .val (.int v3), .val (.int ((v1 * v2) * v3)), .val (.ref b4), .val (.int (1 : Int32)), .unset] [])) (fun _ k => XS.ifYes X7.here hx rfl (pc0 := 90) (pc' := 95) rfl (hb hby at_90) rfl ((if0 _ _).trans (feq (by decide : ¬ ((1 : Int32) = (0 : Int32)))).2) (by decide) (by decide) k) ?_
    refine own_go (G := T7.setTop (mkF m 97 #[.val (.int p0), .val (.int p1), .val (.int p2), .val (.int v1), .val (.int v2), .val (.int v3), .val (.int ((v1 * v2) * v3)), .val (.ref b4), .val (.int (1 : Int32)), .unset] [(.ref b4)])) (fun _ k => XS.aload X7.here hx rfl (hb hby at_95) rfl rfl k) ?_
    refine own_go (G := T7.setTop (mkF m 98 #[.val (.int p0), .val (.int p1), .val (.int p2), .val (.int v1), .val (.int v2), .val (.int v3), .val (.int ((v1 * v2) * v3)), .val (.ref b4), .val (.int (1 : Int32)), .unset] [(.int v1), (.ref b4)])) (fun _ k => XS.iloadN X7.here hx rfl (hb hby at_97) rfl k) ?_
    refine own_go (G := T7.setTop (mkF m 100 #[.val (.int p0), .val (.int p1), .val (.int p2), .val (.int v1), .val (.int v2), .val (.int v3), .val (.int ((v1 * v2) * v3)), .val (.ref b4), .val (.int (1 : Int32)), .unset] [(.int v2), (.int v1), (.ref b4)])) (fun _ k => XS.iload X7.here hx rfl (hb hby at_98) rfl k) ?_
    refine own_go (G := T7.setTop (mkF m 102 #[.val (.int p0), .val (.int p1), .val (.int p2), .val (.int v1), .val (.int v2), .val (.int v3), .val (.int ((v1 * v2) * v3)), .val (.ref b4), .val (.int (1 : Int32)), .unset] [(.int v3), (.int v2), (.int v1), (.ref b4)])) (fun _ k => XS.iload X7.here hx rfl (hb hby at_100) rfl k) ?_
    refine own_go (G := T7.setTop (mkF m 103 #[.val (.int p0), .val (.int p1), .val (.int p2), .val (.int v1), .val (.int v2), .val (.int v3), .val (.int ((v1 * v2) * v3)), .val (.ref b4), .val (.int (1 : Int32)), .unset] [(.int (1 : Int32)), (.int v3), (.int v2), (.int v1), (.ref b4)])) (fun _ k => XS.iconst X7.here hx rfl (hb hby at_102) k) ?_
    obtain ⟨_, _, ⟨T8, L8, k8, n8⟩, -, X8, ⟨Lc8, hQ8, l8, y8, z8⟩, st8⟩ := Jvm.LawKit.callS X7 hx (y := (⟨"com/example/mave/mave/engine/ChoicesNextPinLaw", "runIs", "(Lcom/example/mave/mave/engine/Choices;IIII)Z"⟩ : MethodName)) hown (mvT hZ (hw _ (List.mem_of_getElem? (i := 15) rfl))) (mvT hZ (hw _ (List.mem_of_getElem? (i := 16) rfl))) (mvT hZ (hw _ (List.mem_of_getElem? (i := 17) rfl))) (mvT hZ (hw _ (List.mem_of_getElem? (i := 18) rfl))) (by decide) (backOf (W := 0) (run3 l Z a0 hw [] b4 v1 v2 v3 (1 : Int32) (0 : Int32) (0 : Int32) ((0 : Int32) + (1 : Int32)) v1 v2 v3 T7.heap n0 Z7 Gn7 (own_z1 (own_c hv1) (own_c hv2) (own_c hv3)) (own_z2 (own_c hv1) (own_c hv2) (own_c hv3)) (own_z3 (own_c hv1) (own_c hv2) (own_c hv3))) hZ (hw _ (List.mem_of_getElem? (i := 18) rfl)) (hw _ (List.mem_of_getElem? (i := 17) rfl)) (by decide) (by decide)) (g := (mkF m 103 #[.val (.int p0), .val (.int p1), .val (.int p2), .val (.int v1), .val (.int v2), .val (.int v3), .val (.int ((v1 * v2) * v3)), .val (.ref b4), .val (.int (1 : Int32)), .unset] [(.int (1 : Int32)), (.int v3), (.int v2), (.int v1), (.ref b4)])) rfl (by rw [hml]; rfl) (argsL := [(.ref b4), (.int v1), (.int v2), (.int v3), (.int (1 : Int32))]) (rest := []) (lenOf pd2 rfl) rfl (by show 2 * 0 + _ ≤ _; exact Nat.le_of_eq rfl) (hb hby at_103) (fun _ _ => ⟨rfl, rfl, (by decide : 3 + 0 ≤ _), (by decide : 20 + 0 ≤ _)⟩)
    dsimp only [Pt.U, Pt.locs, Pt.cells, Pt.slots] at X8 l8 y8 z8 st8 hQ8
    subst l8 y8 z8
    obtain ⟨rfl, Nq8, Z8, Gq8⟩ := hQ8
    have N8 := Fr.app N7 Nq8
    have Gn8 : own_C Z T8.heap n0 b4 (3 : Int32) (3 : Int32) (0 : Int32) (0 : Int32) ((0 : Int32) + (1 : Int32)) v1 v2 v3 := Gq8
    obtain ⟨-, Eg8, -⟩ := id Gn8
    refine own_go (G := T8.setTop (mkF m 106 #[.val (.int p0), .val (.int p1), .val (.int p2), .val (.int v1), .val (.int v2), .val (.int v3), .val (.int ((v1 * v2) * v3)), .val (.ref b4), .val (.int (1 : Int32)), .unset] [(.int (own_R (0 : Int32) (0 : Int32) ((0 : Int32) + (1 : Int32)) v2 v3 (1 : Int32)))])) (st8) ?_
    refine own_go (G := T8.setTop (mkF m 111 #[.val (.int p0), .val (.int p1), .val (.int p2), .val (.int v1), .val (.int v2), .val (.int v3), .val (.int ((v1 * v2) * v3)), .val (.ref b4), .val (.int (1 : Int32)), .unset] [])) (fun _ k => XS.ifYes X8.here hx rfl (pc0 := 106) (pc' := 111) rfl (hb hby at_106) rfl ((if0 _ _).trans (feq (own_L3 (own_c hv1) (own_c hv2) (own_c hv3) q_7_2 : ¬ ((own_R (0 : Int32) (0 : Int32) ((0 : Int32) + (1 : Int32)) v2 v3 (1 : Int32)) = (0 : Int32)))).2) (by decide) (by decide) k) ?_
    refine own_go (G := T8.setTop (mkF m 113 #[.val (.int p0), .val (.int p1), .val (.int p2), .val (.int v1), .val (.int v2), .val (.int v3), .val (.int ((v1 * v2) * v3)), .val (.ref b4), .val (.int (1 : Int32)), .unset] [(.ref b4)])) (fun _ k => XS.aload X8.here hx rfl (hb hby at_111) rfl rfl k) ?_
    obtain ⟨cq9, kq9, qk9a, qk9b, qk9c⟩ := isOf hZ rfl Eg8
    obtain ⟨_, _, ⟨T9, L9, k9, n9⟩, -, X9, ⟨Lc9, hQ9, l9, y9, z9⟩, st9⟩ := X8.virtualBack hx (y := (⟨"com/example/mave/mave/engine/Choices", "next", "()Z"⟩ : MethodName)) (z := (⟨"com/example/mave/mave/engine/Choices", "next", "()Z"⟩ : MethodName)) hown (mvT hZ (hw _ (List.mem_of_getElem? (i := 28) rfl))) (mvT hZ (hw _ (List.mem_of_getElem? (i := 29) rfl))) (notFace_of_selects (args := #[]) (mvT hZ (hw _ (List.mem_of_getElem? (i := 31) rfl)))) (mvT hZ (hw _ (List.mem_of_getElem? (i := 31) rfl))) (mvT hZ (hw _ (List.mem_of_getElem? (i := 30) rfl))) (by decide) (backOf (W := 0) (rm5 l Z a0 hw [] b4 (3 : Int32) (0 : Int32) (0 : Int32) ((0 : Int32) + (1 : Int32)) v1 v2 v3 T8.heap n0 Z8 Gn8) hZ (hw _ (List.mem_of_getElem? (i := 32) rfl)) (hw _ (List.mem_of_getElem? (i := 3) rfl)) (by decide) (by decide)) qk9a qk9c (g := (mkF m 113 #[.val (.int p0), .val (.int p1), .val (.int p2), .val (.int v1), .val (.int v2), .val (.int v3), .val (.int ((v1 * v2) * v3)), .val (.ref b4), .val (.int (1 : Int32)), .unset] [(.ref b4)])) rfl (by rw [hml]; rfl) (Steps.refl _) (argsL := []) (rest := []) (lenOf pd3 rfl) rfl (by show 2 * 0 + _ ≤ _; exact Nat.le_of_eq rfl) (hb hby at_113) (fun _ _ => ⟨rfl, rfl, (by decide : 3 + 0 ≤ _), (by decide : 20 + 0 ≤ _)⟩)
    dsimp only [Pt.U, Pt.locs, Pt.cells, Pt.slots] at X9 l9 y9 z9 st9 hQ9
    subst l9 y9 z9
    obtain ⟨w9, rfl, Nq9, Z9, hD9⟩ := hQ9
    have N9 := Fr.app N8 Nq9
    refine own_go (G := T9.setTop (mkF m 116 #[.val (.int p0), .val (.int p1), .val (.int p2), .val (.int v1), .val (.int v2), .val (.int v3), .val (.int ((v1 * v2) * v3)), .val (.ref b4), .val (.int (1 : Int32)), .unset] [(.int w9)])) (fun _ k => st9.trans k) ?_
    rcases hD9 with ⟨hw_, q_9_2, Gx⟩ | ⟨hw_, q_9_2, q_9_1, Gx⟩ | ⟨hw_, q_9_2, q_9_1, q_9_0, Gx⟩ | ⟨hw_, q_9_2, q_9_1, q_9_0⟩
    · subst hw_
      have Gn9 : own_C Z T9.heap n0 b4 (0 : Int32) (3 : Int32) (0 : Int32) (0 : Int32) (((0 : Int32) + (1 : Int32)) + (1 : Int32)) v1 v2 v3 := Gx
      obtain ⟨-, Eg9, -⟩ := id Gn9
      refine own_go (G := T9.setTop (mkF m 118 #[.val (.int p0), .val (.int p1), .val (.int p2), .val (.int v1), .val (.int v2), .val (.int v3), .val (.int ((v1 * v2) * v3)), .val (.ref b4), .val (.int (1 : Int32)), .val (.int (1 : Int32))] [])) (fun _ k => XS.istore X9.here hx rfl (hb hby at_116) rfl (l' := #[.val (.int p0), .val (.int p1), .val (.int p2), .val (.int v1), .val (.int v2), .val (.int v3), .val (.int ((v1 * v2) * v3)), .val (.ref b4), .val (.int (1 : Int32)), .val (.int (1 : Int32))]) rfl k) ?_
      refine own_go (G := T9.setTop (mkF m 120 #[.val (.int p0), .val (.int p1), .val (.int p2), .val (.int v1), .val (.int v2), .val (.int v3), .val (.int ((v1 * v2) * v3)), .val (.ref b4), .val (.int (1 : Int32)), .val (.int (1 : Int32))] [(.int (1 : Int32))])) (fun _ k => XS.iload X9.here hx rfl (hb hby at_118) rfl k) ?_
      refine own_go (G := T9.setTop (mkF m 121 #[.val (.int p0), .val (.int p1), .val (.int p2), .val (.int v1), .val (.int v2), .val (.int v3), .val (.int ((v1 * v2) * v3)), .val (.ref b4), .val (.int (1 : Int32)), .val (.int (1 : Int32))] [(.int (2 : Int32)), (.int (1 : Int32))])) (fun _ k => XS.iconst X9.here hx rfl (hb hby at_120) k) ?_
      refine own_go (G := T9.setTop (mkF m 123 #[.val (.int p0), .val (.int p1), .val (.int p2), .val (.int v1), .val (.int v2), .val (.int v3), .val (.int ((v1 * v2) * v3)), .val (.ref b4), .val (.int (1 : Int32)), .val (.int (1 : Int32))] [(.int ((v1 * v2) * v3)), (.int (2 : Int32)), (.int (1 : Int32))])) (fun _ k => XS.iload X9.here hx rfl (hb hby at_121) rfl k) ?_
      refine own_go (G := T9.setTop (mkF m 126 #[.val (.int p0), .val (.int p1), .val (.int p2), .val (.int v1), .val (.int v2), .val (.int v3), .val (.int ((v1 * v2) * v3)), .val (.ref b4), .val (.int (1 : Int32)), .val (.int (1 : Int32))] [(.int (1 : Int32))])) (fun _ k => XS.icmpNo X9.here hx rfl (hb hby at_123) rfl (tlt (own_L4 (own_c hv1) (own_c hv2) (own_c hv3) q_7_2 q_9_2 : (2 : Int32) < ((v1 * v2) * v3))).2.1 k) ?_
      refine own_go (G := T9.setTop (mkF m 127 #[.val (.int p0), .val (.int p1), .val (.int p2), .val (.int v1), .val (.int v2), .val (.int v3), .val (.int ((v1 * v2) * v3)), .val (.ref b4), .val (.int (1 : Int32)), .val (.int (1 : Int32))] [(.int (1 : Int32)), (.int (1 : Int32))])) (fun _ k => XS.iconst X9.here hx rfl (hb hby at_126) k) ?_
      refine own_go (G := T9.setTop (mkF m 131 #[.val (.int p0), .val (.int p1), .val (.int p2), .val (.int v1), .val (.int v2), .val (.int v3), .val (.int ((v1 * v2) * v3)), .val (.ref b4), .val (.int (1 : Int32)), .val (.int (1 : Int32))] [(.int (1 : Int32)), (.int (1 : Int32))])) (fun _ k => XS.goto X9.here hx rfl (pc0 := 127) (pc' := 131) rfl (hb hby at_127) (by decide) (by decide) k) ?_
      refine own_go (G := T9.setTop (mkF m 136 #[.val (.int p0), .val (.int p1), .val (.int p2), .val (.int v1), .val (.int v2), .val (.int v3), .val (.int ((v1 * v2) * v3)), .val (.ref b4), .val (.int (1 : Int32)), .val (.int (1 : Int32))] [])) (fun _ k => XS.icmpYes X9.here hx rfl (pc0 := 131) (pc' := 136) rfl (hb hby at_131) rfl (teq (by decide : (1 : Int32) = (1 : Int32))).1 (by decide) (by decide) k) ?_
      refine own_go (G := T9.setTop (mkF m 138 #[.val (.int p0), .val (.int p1), .val (.int p2), .val (.int v1), .val (.int v2), .val (.int v3), .val (.int ((v1 * v2) * v3)), .val (.ref b4), .val (.int (1 : Int32)), .val (.int (1 : Int32))] [(.int (1 : Int32))])) (fun _ k => XS.iload X9.here hx rfl (hb hby at_136) rfl k) ?_
      refine own_go (G := T9.setTop (mkF m 143 #[.val (.int p0), .val (.int p1), .val (.int p2), .val (.int v1), .val (.int v2), .val (.int v3), .val (.int ((v1 * v2) * v3)), .val (.ref b4), .val (.int (1 : Int32)), .val (.int (1 : Int32))] [])) (fun _ k => XS.ifYes X9.here hx rfl (pc0 := 138) (pc' := 143) rfl (hb hby at_138) rfl ((if0 _ _).trans (feq (by decide : ¬ ((1 : Int32) = (0 : Int32)))).2) (by decide) (by decide) k) ?_
      refine own_go (G := T9.setTop (mkF m 145 #[.val (.int p0), .val (.int p1), .val (.int p2), .val (.int v1), .val (.int v2), .val (.int v3), .val (.int ((v1 * v2) * v3)), .val (.ref b4), .val (.int (1 : Int32)), .val (.int (1 : Int32))] [(.ref b4)])) (fun _ k => XS.aload X9.here hx rfl (hb hby at_143) rfl rfl k) ?_
      refine own_go (G := T9.setTop (mkF m 146 #[.val (.int p0), .val (.int p1), .val (.int p2), .val (.int v1), .val (.int v2), .val (.int v3), .val (.int ((v1 * v2) * v3)), .val (.ref b4), .val (.int (1 : Int32)), .val (.int (1 : Int32))] [(.int v1), (.ref b4)])) (fun _ k => XS.iloadN X9.here hx rfl (hb hby at_145) rfl k) ?_
      refine own_go (G := T9.setTop (mkF m 148 #[.val (.int p0), .val (.int p1), .val (.int p2), .val (.int v1), .val (.int v2), .val (.int v3), .val (.int ((v1 * v2) * v3)), .val (.ref b4), .val (.int (1 : Int32)), .val (.int (1 : Int32))] [(.int v2), (.int v1), (.ref b4)])) (fun _ k => XS.iload X9.here hx rfl (hb hby at_146) rfl k) ?_
      refine own_go (G := T9.setTop (mkF m 150 #[.val (.int p0), .val (.int p1), .val (.int p2), .val (.int v1), .val (.int v2), .val (.int v3), .val (.int ((v1 * v2) * v3)), .val (.ref b4), .val (.int (1 : Int32)), .val (.int (1 : Int32))] [(.int v3), (.int v2), (.int v1), (.ref b4)])) (fun _ k => XS.iload X9.here hx rfl (hb hby at_148) rfl k) ?_
      refine own_go (G := T9.setTop (mkF m 151 #[.val (.int p0), .val (.int p1), .val (.int p2), .val (.int v1), .val (.int v2), .val (.int v3), .val (.int ((v1 * v2) * v3)), .val (.ref b4), .val (.int (1 : Int32)), .val (.int (1 : Int32))] [(.int (2 : Int32)), (.int v3), (.int v2), (.int v1), (.ref b4)])) (fun _ k => XS.iconst X9.here hx rfl (hb hby at_150) k) ?_
      obtain ⟨_, _, ⟨T10, L10, k10, n10⟩, -, X10, ⟨Lc10, hQ10, l10, y10, z10⟩, st10⟩ := Jvm.LawKit.callS X9 hx (y := (⟨"com/example/mave/mave/engine/ChoicesNextPinLaw", "runIs", "(Lcom/example/mave/mave/engine/Choices;IIII)Z"⟩ : MethodName)) hown (mvT hZ (hw _ (List.mem_of_getElem? (i := 15) rfl))) (mvT hZ (hw _ (List.mem_of_getElem? (i := 16) rfl))) (mvT hZ (hw _ (List.mem_of_getElem? (i := 17) rfl))) (mvT hZ (hw _ (List.mem_of_getElem? (i := 18) rfl))) (by decide) (backOf (W := 0) (run3 l Z a0 hw [] b4 v1 v2 v3 (2 : Int32) (0 : Int32) (0 : Int32) (((0 : Int32) + (1 : Int32)) + (1 : Int32)) v1 v2 v3 T9.heap n0 Z9 Gn9 (own_z1 (own_c hv1) (own_c hv2) (own_c hv3)) (own_z2 (own_c hv1) (own_c hv2) (own_c hv3)) (own_z3 (own_c hv1) (own_c hv2) (own_c hv3))) hZ (hw _ (List.mem_of_getElem? (i := 18) rfl)) (hw _ (List.mem_of_getElem? (i := 17) rfl)) (by decide) (by decide)) (g := (mkF m 151 #[.val (.int p0), .val (.int p1), .val (.int p2), .val (.int v1), .val (.int v2), .val (.int v3), .val (.int ((v1 * v2) * v3)), .val (.ref b4), .val (.int (1 : Int32)), .val (.int (1 : Int32))] [(.int (2 : Int32)), (.int v3), (.int v2), (.int v1), (.ref b4)])) rfl (by rw [hml]; rfl) (argsL := [(.ref b4), (.int v1), (.int v2), (.int v3), (.int (2 : Int32))]) (rest := []) (lenOf pd2 rfl) rfl (by show 2 * 0 + _ ≤ _; exact Nat.le_of_eq rfl) (hb hby at_151) (fun _ _ => ⟨rfl, rfl, (by decide : 3 + 0 ≤ _), (by decide : 20 + 0 ≤ _)⟩)
      dsimp only [Pt.U, Pt.locs, Pt.cells, Pt.slots] at X10 l10 y10 z10 st10 hQ10
      subst l10 y10 z10
      obtain ⟨rfl, Nq10, Z10, Gq10⟩ := hQ10
      have N10 := Fr.app N9 Nq10
      have Gn10 : own_C Z T10.heap n0 b4 (3 : Int32) (3 : Int32) (0 : Int32) (0 : Int32) (((0 : Int32) + (1 : Int32)) + (1 : Int32)) v1 v2 v3 := Gq10
      obtain ⟨-, Eg10, -⟩ := id Gn10
      refine own_go (G := T10.setTop (mkF m 154 #[.val (.int p0), .val (.int p1), .val (.int p2), .val (.int v1), .val (.int v2), .val (.int v3), .val (.int ((v1 * v2) * v3)), .val (.ref b4), .val (.int (1 : Int32)), .val (.int (1 : Int32))] [(.int (own_R (0 : Int32) (0 : Int32) (((0 : Int32) + (1 : Int32)) + (1 : Int32)) v2 v3 (2 : Int32)))])) (st10) ?_
      rw [show (own_R (0 : Int32) (0 : Int32) (((0 : Int32) + (1 : Int32)) + (1 : Int32)) v2 v3 (2 : Int32)) = (1 : Int32) from own_L5 (own_c hv1) (own_c hv2) (own_c hv3) q_7_2 q_9_2]
      exact own_ret1 X10 hx Bd.returns (hb hby at_154) Bd.notSynchronized (by decide) (by decide) ⟨rfl, N10⟩
    · subst hw_
      have Gn9 : own_C Z T9.heap n0 b4 (0 : Int32) (2 : Int32) (0 : Int32) ((0 : Int32) + (1 : Int32)) ((0 : Int32) + (1 : Int32)) v1 v2 v3 := Gx
      obtain ⟨-, Eg9, -⟩ := id Gn9
      refine own_go (G := T9.setTop (mkF m 118 #[.val (.int p0), .val (.int p1), .val (.int p2), .val (.int v1), .val (.int v2), .val (.int v3), .val (.int ((v1 * v2) * v3)), .val (.ref b4), .val (.int (1 : Int32)), .val (.int (1 : Int32))] [])) (fun _ k => XS.istore X9.here hx rfl (hb hby at_116) rfl (l' := #[.val (.int p0), .val (.int p1), .val (.int p2), .val (.int v1), .val (.int v2), .val (.int v3), .val (.int ((v1 * v2) * v3)), .val (.ref b4), .val (.int (1 : Int32)), .val (.int (1 : Int32))]) rfl k) ?_
      refine own_go (G := T9.setTop (mkF m 120 #[.val (.int p0), .val (.int p1), .val (.int p2), .val (.int v1), .val (.int v2), .val (.int v3), .val (.int ((v1 * v2) * v3)), .val (.ref b4), .val (.int (1 : Int32)), .val (.int (1 : Int32))] [(.int (1 : Int32))])) (fun _ k => XS.iload X9.here hx rfl (hb hby at_118) rfl k) ?_
      refine own_go (G := T9.setTop (mkF m 121 #[.val (.int p0), .val (.int p1), .val (.int p2), .val (.int v1), .val (.int v2), .val (.int v3), .val (.int ((v1 * v2) * v3)), .val (.ref b4), .val (.int (1 : Int32)), .val (.int (1 : Int32))] [(.int (2 : Int32)), (.int (1 : Int32))])) (fun _ k => XS.iconst X9.here hx rfl (hb hby at_120) k) ?_
      refine own_go (G := T9.setTop (mkF m 123 #[.val (.int p0), .val (.int p1), .val (.int p2), .val (.int v1), .val (.int v2), .val (.int v3), .val (.int ((v1 * v2) * v3)), .val (.ref b4), .val (.int (1 : Int32)), .val (.int (1 : Int32))] [(.int ((v1 * v2) * v3)), (.int (2 : Int32)), (.int (1 : Int32))])) (fun _ k => XS.iload X9.here hx rfl (hb hby at_121) rfl k) ?_
      refine own_go (G := T9.setTop (mkF m 126 #[.val (.int p0), .val (.int p1), .val (.int p2), .val (.int v1), .val (.int v2), .val (.int v3), .val (.int ((v1 * v2) * v3)), .val (.ref b4), .val (.int (1 : Int32)), .val (.int (1 : Int32))] [(.int (1 : Int32))])) (fun _ k => XS.icmpNo X9.here hx rfl (hb hby at_123) rfl (tlt (own_L6 (own_c hv1) (own_c hv2) (own_c hv3) q_7_2 q_9_2 q_9_1 : (2 : Int32) < ((v1 * v2) * v3))).2.1 k) ?_
      refine own_go (G := T9.setTop (mkF m 127 #[.val (.int p0), .val (.int p1), .val (.int p2), .val (.int v1), .val (.int v2), .val (.int v3), .val (.int ((v1 * v2) * v3)), .val (.ref b4), .val (.int (1 : Int32)), .val (.int (1 : Int32))] [(.int (1 : Int32)), (.int (1 : Int32))])) (fun _ k => XS.iconst X9.here hx rfl (hb hby at_126) k) ?_
      refine own_go (G := T9.setTop (mkF m 131 #[.val (.int p0), .val (.int p1), .val (.int p2), .val (.int v1), .val (.int v2), .val (.int v3), .val (.int ((v1 * v2) * v3)), .val (.ref b4), .val (.int (1 : Int32)), .val (.int (1 : Int32))] [(.int (1 : Int32)), (.int (1 : Int32))])) (fun _ k => XS.goto X9.here hx rfl (pc0 := 127) (pc' := 131) rfl (hb hby at_127) (by decide) (by decide) k) ?_
      refine own_go (G := T9.setTop (mkF m 136 #[.val (.int p0), .val (.int p1), .val (.int p2), .val (.int v1), .val (.int v2), .val (.int v3), .val (.int ((v1 * v2) * v3)), .val (.ref b4), .val (.int (1 : Int32)), .val (.int (1 : Int32))] [])) (fun _ k => XS.icmpYes X9.here hx rfl (pc0 := 131) (pc' := 136) rfl (hb hby at_131) rfl (teq (by decide : (1 : Int32) = (1 : Int32))).1 (by decide) (by decide) k) ?_
      refine own_go (G := T9.setTop (mkF m 138 #[.val (.int p0), .val (.int p1), .val (.int p2), .val (.int v1), .val (.int v2), .val (.int v3), .val (.int ((v1 * v2) * v3)), .val (.ref b4), .val (.int (1 : Int32)), .val (.int (1 : Int32))] [(.int (1 : Int32))])) (fun _ k => XS.iload X9.here hx rfl (hb hby at_136) rfl k) ?_
      refine own_go (G := T9.setTop (mkF m 143 #[.val (.int p0), .val (.int p1), .val (.int p2), .val (.int v1), .val (.int v2), .val (.int v3), .val (.int ((v1 * v2) * v3)), .val (.ref b4), .val (.int (1 : Int32)), .val (.int (1 : Int32))] [])) (fun _ k => XS.ifYes X9.here hx rfl (pc0 := 138) (pc' := 143) rfl (hb hby at_138) rfl ((if0 _ _).trans (feq (by decide : ¬ ((1 : Int32) = (0 : Int32)))).2) (by decide) (by decide) k) ?_
      refine own_go (G := T9.setTop (mkF m 145 #[.val (.int p0), .val (.int p1), .val (.int p2), .val (.int v1), .val (.int v2), .val (.int v3), .val (.int ((v1 * v2) * v3)), .val (.ref b4), .val (.int (1 : Int32)), .val (.int (1 : Int32))] [(.ref b4)])) (fun _ k => XS.aload X9.here hx rfl (hb hby at_143) rfl rfl k) ?_
      refine own_go (G := T9.setTop (mkF m 146 #[.val (.int p0), .val (.int p1), .val (.int p2), .val (.int v1), .val (.int v2), .val (.int v3), .val (.int ((v1 * v2) * v3)), .val (.ref b4), .val (.int (1 : Int32)), .val (.int (1 : Int32))] [(.int v1), (.ref b4)])) (fun _ k => XS.iloadN X9.here hx rfl (hb hby at_145) rfl k) ?_
      refine own_go (G := T9.setTop (mkF m 148 #[.val (.int p0), .val (.int p1), .val (.int p2), .val (.int v1), .val (.int v2), .val (.int v3), .val (.int ((v1 * v2) * v3)), .val (.ref b4), .val (.int (1 : Int32)), .val (.int (1 : Int32))] [(.int v2), (.int v1), (.ref b4)])) (fun _ k => XS.iload X9.here hx rfl (hb hby at_146) rfl k) ?_
      refine own_go (G := T9.setTop (mkF m 150 #[.val (.int p0), .val (.int p1), .val (.int p2), .val (.int v1), .val (.int v2), .val (.int v3), .val (.int ((v1 * v2) * v3)), .val (.ref b4), .val (.int (1 : Int32)), .val (.int (1 : Int32))] [(.int v3), (.int v2), (.int v1), (.ref b4)])) (fun _ k => XS.iload X9.here hx rfl (hb hby at_148) rfl k) ?_
      refine own_go (G := T9.setTop (mkF m 151 #[.val (.int p0), .val (.int p1), .val (.int p2), .val (.int v1), .val (.int v2), .val (.int v3), .val (.int ((v1 * v2) * v3)), .val (.ref b4), .val (.int (1 : Int32)), .val (.int (1 : Int32))] [(.int (2 : Int32)), (.int v3), (.int v2), (.int v1), (.ref b4)])) (fun _ k => XS.iconst X9.here hx rfl (hb hby at_150) k) ?_
      obtain ⟨_, _, ⟨T11, L11, k11, n11⟩, -, X11, ⟨Lc11, hQ11, l11, y11, z11⟩, st11⟩ := Jvm.LawKit.callS X9 hx (y := (⟨"com/example/mave/mave/engine/ChoicesNextPinLaw", "runIs", "(Lcom/example/mave/mave/engine/Choices;IIII)Z"⟩ : MethodName)) hown (mvT hZ (hw _ (List.mem_of_getElem? (i := 15) rfl))) (mvT hZ (hw _ (List.mem_of_getElem? (i := 16) rfl))) (mvT hZ (hw _ (List.mem_of_getElem? (i := 17) rfl))) (mvT hZ (hw _ (List.mem_of_getElem? (i := 18) rfl))) (by decide) (backOf (W := 0) (run2 l Z a0 hw [] b4 v1 v2 v3 (2 : Int32) (0 : Int32) ((0 : Int32) + (1 : Int32)) ((0 : Int32) + (1 : Int32)) v1 v2 v3 T9.heap n0 Z9 Gn9 (own_z1 (own_c hv1) (own_c hv2) (own_c hv3)) (own_z2 (own_c hv1) (own_c hv2) (own_c hv3)) (own_z3 (own_c hv1) (own_c hv2) (own_c hv3))) hZ (hw _ (List.mem_of_getElem? (i := 18) rfl)) (hw _ (List.mem_of_getElem? (i := 17) rfl)) (by decide) (by decide)) (g := (mkF m 151 #[.val (.int p0), .val (.int p1), .val (.int p2), .val (.int v1), .val (.int v2), .val (.int v3), .val (.int ((v1 * v2) * v3)), .val (.ref b4), .val (.int (1 : Int32)), .val (.int (1 : Int32))] [(.int (2 : Int32)), (.int v3), (.int v2), (.int v1), (.ref b4)])) rfl (by rw [hml]; rfl) (argsL := [(.ref b4), (.int v1), (.int v2), (.int v3), (.int (2 : Int32))]) (rest := []) (lenOf pd2 rfl) rfl (by show 2 * 0 + _ ≤ _; exact Nat.le_of_eq rfl) (hb hby at_151) (fun _ _ => ⟨rfl, rfl, (by decide : 3 + 0 ≤ _), (by decide : 20 + 0 ≤ _)⟩)
      dsimp only [Pt.U, Pt.locs, Pt.cells, Pt.slots] at X11 l11 y11 z11 st11 hQ11
      subst l11 y11 z11
      obtain ⟨rfl, Nq11, Z11, Gq11⟩ := hQ11
      have N11 := Fr.app N9 Nq11
      have Gn11 : own_C Z T11.heap n0 b4 (3 : Int32) (2 : Int32) (0 : Int32) ((0 : Int32) + (1 : Int32)) (0 : Int32) v1 v2 v3 := Gq11
      obtain ⟨-, Eg11, -⟩ := id Gn11
      refine own_go (G := T11.setTop (mkF m 154 #[.val (.int p0), .val (.int p1), .val (.int p2), .val (.int v1), .val (.int v2), .val (.int v3), .val (.int ((v1 * v2) * v3)), .val (.ref b4), .val (.int (1 : Int32)), .val (.int (1 : Int32))] [(.int (own_R (0 : Int32) ((0 : Int32) + (1 : Int32)) (0 : Int32) v2 v3 (2 : Int32)))])) (st11) ?_
      rw [show (own_R (0 : Int32) ((0 : Int32) + (1 : Int32)) (0 : Int32) v2 v3 (2 : Int32)) = (1 : Int32) from own_L7 (own_c hv1) (own_c hv2) (own_c hv3) q_7_2 q_9_2 q_9_1]
      exact own_ret1 X11 hx Bd.returns (hb hby at_154) Bd.notSynchronized (by decide) (by decide) ⟨rfl, N11⟩
    · subst hw_
      have Gn9 : own_C Z T9.heap n0 b4 (0 : Int32) (1 : Int32) ((0 : Int32) + (1 : Int32)) (0 : Int32) ((0 : Int32) + (1 : Int32)) v1 v2 v3 := Gx
      obtain ⟨-, Eg9, -⟩ := id Gn9
      refine own_go (G := T9.setTop (mkF m 118 #[.val (.int p0), .val (.int p1), .val (.int p2), .val (.int v1), .val (.int v2), .val (.int v3), .val (.int ((v1 * v2) * v3)), .val (.ref b4), .val (.int (1 : Int32)), .val (.int (1 : Int32))] [])) (fun _ k => XS.istore X9.here hx rfl (hb hby at_116) rfl (l' := #[.val (.int p0), .val (.int p1), .val (.int p2), .val (.int v1), .val (.int v2), .val (.int v3), .val (.int ((v1 * v2) * v3)), .val (.ref b4), .val (.int (1 : Int32)), .val (.int (1 : Int32))]) rfl k) ?_
      refine own_go (G := T9.setTop (mkF m 120 #[.val (.int p0), .val (.int p1), .val (.int p2), .val (.int v1), .val (.int v2), .val (.int v3), .val (.int ((v1 * v2) * v3)), .val (.ref b4), .val (.int (1 : Int32)), .val (.int (1 : Int32))] [(.int (1 : Int32))])) (fun _ k => XS.iload X9.here hx rfl (hb hby at_118) rfl k) ?_
      refine own_go (G := T9.setTop (mkF m 121 #[.val (.int p0), .val (.int p1), .val (.int p2), .val (.int v1), .val (.int v2), .val (.int v3), .val (.int ((v1 * v2) * v3)), .val (.ref b4), .val (.int (1 : Int32)), .val (.int (1 : Int32))] [(.int (2 : Int32)), (.int (1 : Int32))])) (fun _ k => XS.iconst X9.here hx rfl (hb hby at_120) k) ?_
      refine own_go (G := T9.setTop (mkF m 123 #[.val (.int p0), .val (.int p1), .val (.int p2), .val (.int v1), .val (.int v2), .val (.int v3), .val (.int ((v1 * v2) * v3)), .val (.ref b4), .val (.int (1 : Int32)), .val (.int (1 : Int32))] [(.int ((v1 * v2) * v3)), (.int (2 : Int32)), (.int (1 : Int32))])) (fun _ k => XS.iload X9.here hx rfl (hb hby at_121) rfl k) ?_
      refine own_go (G := T9.setTop (mkF m 126 #[.val (.int p0), .val (.int p1), .val (.int p2), .val (.int v1), .val (.int v2), .val (.int v3), .val (.int ((v1 * v2) * v3)), .val (.ref b4), .val (.int (1 : Int32)), .val (.int (1 : Int32))] [(.int (1 : Int32))])) (fun _ k => XS.icmpNo X9.here hx rfl (hb hby at_123) rfl (tlt (own_L8 (own_c hv1) (own_c hv2) (own_c hv3) q_7_2 q_9_2 q_9_1 q_9_0 : (2 : Int32) < ((v1 * v2) * v3))).2.1 k) ?_
      refine own_go (G := T9.setTop (mkF m 127 #[.val (.int p0), .val (.int p1), .val (.int p2), .val (.int v1), .val (.int v2), .val (.int v3), .val (.int ((v1 * v2) * v3)), .val (.ref b4), .val (.int (1 : Int32)), .val (.int (1 : Int32))] [(.int (1 : Int32)), (.int (1 : Int32))])) (fun _ k => XS.iconst X9.here hx rfl (hb hby at_126) k) ?_
      refine own_go (G := T9.setTop (mkF m 131 #[.val (.int p0), .val (.int p1), .val (.int p2), .val (.int v1), .val (.int v2), .val (.int v3), .val (.int ((v1 * v2) * v3)), .val (.ref b4), .val (.int (1 : Int32)), .val (.int (1 : Int32))] [(.int (1 : Int32)), (.int (1 : Int32))])) (fun _ k => XS.goto X9.here hx rfl (pc0 := 127) (pc' := 131) rfl (hb hby at_127) (by decide) (by decide) k) ?_
      refine own_go (G := T9.setTop (mkF m 136 #[.val (.int p0), .val (.int p1), .val (.int p2), .val (.int v1), .val (.int v2), .val (.int v3), .val (.int ((v1 * v2) * v3)), .val (.ref b4), .val (.int (1 : Int32)), .val (.int (1 : Int32))] [])) (fun _ k => XS.icmpYes X9.here hx rfl (pc0 := 131) (pc' := 136) rfl (hb hby at_131) rfl (teq (by decide : (1 : Int32) = (1 : Int32))).1 (by decide) (by decide) k) ?_
      refine own_go (G := T9.setTop (mkF m 138 #[.val (.int p0), .val (.int p1), .val (.int p2), .val (.int v1), .val (.int v2), .val (.int v3), .val (.int ((v1 * v2) * v3)), .val (.ref b4), .val (.int (1 : Int32)), .val (.int (1 : Int32))] [(.int (1 : Int32))])) (fun _ k => XS.iload X9.here hx rfl (hb hby at_136) rfl k) ?_
      refine own_go (G := T9.setTop (mkF m 143 #[.val (.int p0), .val (.int p1), .val (.int p2), .val (.int v1), .val (.int v2), .val (.int v3), .val (.int ((v1 * v2) * v3)), .val (.ref b4), .val (.int (1 : Int32)), .val (.int (1 : Int32))] [])) (fun _ k => XS.ifYes X9.here hx rfl (pc0 := 138) (pc' := 143) rfl (hb hby at_138) rfl ((if0 _ _).trans (feq (by decide : ¬ ((1 : Int32) = (0 : Int32)))).2) (by decide) (by decide) k) ?_
      refine own_go (G := T9.setTop (mkF m 145 #[.val (.int p0), .val (.int p1), .val (.int p2), .val (.int v1), .val (.int v2), .val (.int v3), .val (.int ((v1 * v2) * v3)), .val (.ref b4), .val (.int (1 : Int32)), .val (.int (1 : Int32))] [(.ref b4)])) (fun _ k => XS.aload X9.here hx rfl (hb hby at_143) rfl rfl k) ?_
      refine own_go (G := T9.setTop (mkF m 146 #[.val (.int p0), .val (.int p1), .val (.int p2), .val (.int v1), .val (.int v2), .val (.int v3), .val (.int ((v1 * v2) * v3)), .val (.ref b4), .val (.int (1 : Int32)), .val (.int (1 : Int32))] [(.int v1), (.ref b4)])) (fun _ k => XS.iloadN X9.here hx rfl (hb hby at_145) rfl k) ?_
      refine own_go (G := T9.setTop (mkF m 148 #[.val (.int p0), .val (.int p1), .val (.int p2), .val (.int v1), .val (.int v2), .val (.int v3), .val (.int ((v1 * v2) * v3)), .val (.ref b4), .val (.int (1 : Int32)), .val (.int (1 : Int32))] [(.int v2), (.int v1), (.ref b4)])) (fun _ k => XS.iload X9.here hx rfl (hb hby at_146) rfl k) ?_
      refine own_go (G := T9.setTop (mkF m 150 #[.val (.int p0), .val (.int p1), .val (.int p2), .val (.int v1), .val (.int v2), .val (.int v3), .val (.int ((v1 * v2) * v3)), .val (.ref b4), .val (.int (1 : Int32)), .val (.int (1 : Int32))] [(.int v3), (.int v2), (.int v1), (.ref b4)])) (fun _ k => XS.iload X9.here hx rfl (hb hby at_148) rfl k) ?_
      refine own_go (G := T9.setTop (mkF m 151 #[.val (.int p0), .val (.int p1), .val (.int p2), .val (.int v1), .val (.int v2), .val (.int v3), .val (.int ((v1 * v2) * v3)), .val (.ref b4), .val (.int (1 : Int32)), .val (.int (1 : Int32))] [(.int (2 : Int32)), (.int v3), (.int v2), (.int v1), (.ref b4)])) (fun _ k => XS.iconst X9.here hx rfl (hb hby at_150) k) ?_
      obtain ⟨_, _, ⟨T12, L12, k12, n12⟩, -, X12, ⟨Lc12, hQ12, l12, y12, z12⟩, st12⟩ := Jvm.LawKit.callS X9 hx (y := (⟨"com/example/mave/mave/engine/ChoicesNextPinLaw", "runIs", "(Lcom/example/mave/mave/engine/Choices;IIII)Z"⟩ : MethodName)) hown (mvT hZ (hw _ (List.mem_of_getElem? (i := 15) rfl))) (mvT hZ (hw _ (List.mem_of_getElem? (i := 16) rfl))) (mvT hZ (hw _ (List.mem_of_getElem? (i := 17) rfl))) (mvT hZ (hw _ (List.mem_of_getElem? (i := 18) rfl))) (by decide) (backOf (W := 0) (run1 l Z a0 hw [] b4 v1 v2 v3 (2 : Int32) ((0 : Int32) + (1 : Int32)) (0 : Int32) ((0 : Int32) + (1 : Int32)) v1 v2 v3 T9.heap n0 Z9 Gn9 (own_z1 (own_c hv1) (own_c hv2) (own_c hv3)) (own_z2 (own_c hv1) (own_c hv2) (own_c hv3)) (own_z3 (own_c hv1) (own_c hv2) (own_c hv3))) hZ (hw _ (List.mem_of_getElem? (i := 18) rfl)) (hw _ (List.mem_of_getElem? (i := 17) rfl)) (by decide) (by decide)) (g := (mkF m 151 #[.val (.int p0), .val (.int p1), .val (.int p2), .val (.int v1), .val (.int v2), .val (.int v3), .val (.int ((v1 * v2) * v3)), .val (.ref b4), .val (.int (1 : Int32)), .val (.int (1 : Int32))] [(.int (2 : Int32)), (.int v3), (.int v2), (.int v1), (.ref b4)])) rfl (by rw [hml]; rfl) (argsL := [(.ref b4), (.int v1), (.int v2), (.int v3), (.int (2 : Int32))]) (rest := []) (lenOf pd2 rfl) rfl (by show 2 * 0 + _ ≤ _; exact Nat.le_of_eq rfl) (hb hby at_151) (fun _ _ => ⟨rfl, rfl, (by decide : 3 + 0 ≤ _), (by decide : 20 + 0 ≤ _)⟩)
      dsimp only [Pt.U, Pt.locs, Pt.cells, Pt.slots] at X12 l12 y12 z12 st12 hQ12
      subst l12 y12 z12
      obtain ⟨rfl, Nq12, Z12, Gq12⟩ := hQ12
      have N12 := Fr.app N9 Nq12
      have Gn12 : own_C Z T12.heap n0 b4 (3 : Int32) (1 : Int32) ((0 : Int32) + (1 : Int32)) (0 : Int32) (0 : Int32) v1 v2 v3 := Gq12
      obtain ⟨-, Eg12, -⟩ := id Gn12
      refine own_go (G := T12.setTop (mkF m 154 #[.val (.int p0), .val (.int p1), .val (.int p2), .val (.int v1), .val (.int v2), .val (.int v3), .val (.int ((v1 * v2) * v3)), .val (.ref b4), .val (.int (1 : Int32)), .val (.int (1 : Int32))] [(.int (own_R ((0 : Int32) + (1 : Int32)) (0 : Int32) (0 : Int32) v2 v3 (2 : Int32)))])) (st12) ?_
      rw [show (own_R ((0 : Int32) + (1 : Int32)) (0 : Int32) (0 : Int32) v2 v3 (2 : Int32)) = (1 : Int32) from own_L9 (own_c hv1) (own_c hv2) (own_c hv3) q_7_2 q_9_2 q_9_1 q_9_0]
      exact own_ret1 X12 hx Bd.returns (hb hby at_154) Bd.notSynchronized (by decide) (by decide) ⟨rfl, N12⟩
    · subst hw_
      refine own_go (G := T9.setTop (mkF m 118 #[.val (.int p0), .val (.int p1), .val (.int p2), .val (.int v1), .val (.int v2), .val (.int v3), .val (.int ((v1 * v2) * v3)), .val (.ref b4), .val (.int (1 : Int32)), .val (.int (0 : Int32))] [])) (fun _ k => XS.istore X9.here hx rfl (hb hby at_116) rfl (l' := #[.val (.int p0), .val (.int p1), .val (.int p2), .val (.int v1), .val (.int v2), .val (.int v3), .val (.int ((v1 * v2) * v3)), .val (.ref b4), .val (.int (1 : Int32)), .val (.int (0 : Int32))]) rfl k) ?_
      refine own_go (G := T9.setTop (mkF m 120 #[.val (.int p0), .val (.int p1), .val (.int p2), .val (.int v1), .val (.int v2), .val (.int v3), .val (.int ((v1 * v2) * v3)), .val (.ref b4), .val (.int (1 : Int32)), .val (.int (0 : Int32))] [(.int (0 : Int32))])) (fun _ k => XS.iload X9.here hx rfl (hb hby at_118) rfl k) ?_
      refine own_go (G := T9.setTop (mkF m 121 #[.val (.int p0), .val (.int p1), .val (.int p2), .val (.int v1), .val (.int v2), .val (.int v3), .val (.int ((v1 * v2) * v3)), .val (.ref b4), .val (.int (1 : Int32)), .val (.int (0 : Int32))] [(.int (2 : Int32)), (.int (0 : Int32))])) (fun _ k => XS.iconst X9.here hx rfl (hb hby at_120) k) ?_
      refine own_go (G := T9.setTop (mkF m 123 #[.val (.int p0), .val (.int p1), .val (.int p2), .val (.int v1), .val (.int v2), .val (.int v3), .val (.int ((v1 * v2) * v3)), .val (.ref b4), .val (.int (1 : Int32)), .val (.int (0 : Int32))] [(.int ((v1 * v2) * v3)), (.int (2 : Int32)), (.int (0 : Int32))])) (fun _ k => XS.iload X9.here hx rfl (hb hby at_121) rfl k) ?_
      refine own_go (G := T9.setTop (mkF m 130 #[.val (.int p0), .val (.int p1), .val (.int p2), .val (.int v1), .val (.int v2), .val (.int v3), .val (.int ((v1 * v2) * v3)), .val (.ref b4), .val (.int (1 : Int32)), .val (.int (0 : Int32))] [(.int (0 : Int32))])) (fun _ k => XS.icmpYes X9.here hx rfl (pc0 := 123) (pc' := 130) rfl (hb hby at_123) rfl (flt (own_L10 (own_c hv1) (own_c hv2) (own_c hv3) q_7_2 q_9_2 q_9_1 q_9_0 : ¬ ((2 : Int32) < ((v1 * v2) * v3)))).2.1 (by decide) (by decide) k) ?_
      refine own_go (G := T9.setTop (mkF m 131 #[.val (.int p0), .val (.int p1), .val (.int p2), .val (.int v1), .val (.int v2), .val (.int v3), .val (.int ((v1 * v2) * v3)), .val (.ref b4), .val (.int (1 : Int32)), .val (.int (0 : Int32))] [(.int (0 : Int32)), (.int (0 : Int32))])) (fun _ k => XS.iconst X9.here hx rfl (hb hby at_130) k) ?_
      refine own_go (G := T9.setTop (mkF m 136 #[.val (.int p0), .val (.int p1), .val (.int p2), .val (.int v1), .val (.int v2), .val (.int v3), .val (.int ((v1 * v2) * v3)), .val (.ref b4), .val (.int (1 : Int32)), .val (.int (0 : Int32))] [])) (fun _ k => XS.icmpYes X9.here hx rfl (pc0 := 131) (pc' := 136) rfl (hb hby at_131) rfl (teq (by decide : (0 : Int32) = (0 : Int32))).1 (by decide) (by decide) k) ?_
      refine own_go (G := T9.setTop (mkF m 138 #[.val (.int p0), .val (.int p1), .val (.int p2), .val (.int v1), .val (.int v2), .val (.int v3), .val (.int ((v1 * v2) * v3)), .val (.ref b4), .val (.int (1 : Int32)), .val (.int (0 : Int32))] [(.int (0 : Int32))])) (fun _ k => XS.iload X9.here hx rfl (hb hby at_136) rfl k) ?_
      refine own_go (G := T9.setTop (mkF m 141 #[.val (.int p0), .val (.int p1), .val (.int p2), .val (.int v1), .val (.int v2), .val (.int v3), .val (.int ((v1 * v2) * v3)), .val (.ref b4), .val (.int (1 : Int32)), .val (.int (0 : Int32))] [])) (fun _ k => XS.ifNo X9.here hx rfl (hb hby at_138) rfl ((if0 _ _).trans (teq (by decide : (0 : Int32) = (0 : Int32))).2) k) ?_
      refine own_go (G := T9.setTop (mkF m 142 #[.val (.int p0), .val (.int p1), .val (.int p2), .val (.int v1), .val (.int v2), .val (.int v3), .val (.int ((v1 * v2) * v3)), .val (.ref b4), .val (.int (1 : Int32)), .val (.int (0 : Int32))] [(.int (1 : Int32))])) (fun _ k => XS.iconst X9.here hx rfl (hb hby at_141) k) ?_
      exact own_ret1 X9 hx Bd.returns (hb hby at_142) Bd.notSynchronized (by decide) (by decide) ⟨rfl, N9⟩
  · subst hw_
    have Gn7 : own_C Z T7.heap n0 b4 (0 : Int32) (2 : Int32) (0 : Int32) ((0 : Int32) + (1 : Int32)) (0 : Int32) v1 v2 v3 := Gx
    obtain ⟨-, Eg7, -⟩ := id Gn7
    refine own_go (G := T7.setTop (mkF m 70 #[.val (.int p0), .val (.int p1), .val (.int p2), .val (.int v1), .val (.int v2), .val (.int v3), .val (.int ((v1 * v2) * v3)), .val (.ref b4), .val (.int (1 : Int32)), .unset] [])) (fun _ k => XS.istore X7.here hx rfl (hb hby at_68) rfl (l' := #[.val (.int p0), .val (.int p1), .val (.int p2), .val (.int v1), .val (.int v2), .val (.int v3), .val (.int ((v1 * v2) * v3)), .val (.ref b4), .val (.int (1 : Int32)), .unset]) rfl k) ?_
    refine own_go (G := T7.setTop (mkF m 72 #[.val (.int p0), .val (.int p1), .val (.int p2), .val (.int v1), .val (.int v2), .val (.int v3), .val (.int ((v1 * v2) * v3)), .val (.ref b4), .val (.int (1 : Int32)), .unset] [(.int (1 : Int32))])) (fun _ k => XS.iload X7.here hx rfl (hb hby at_70) rfl k) ?_
    refine own_go (G := T7.setTop (mkF m 73 #[.val (.int p0), .val (.int p1), .val (.int p2), .val (.int v1), .val (.int v2), .val (.int v3), .val (.int ((v1 * v2) * v3)), .val (.ref b4), .val (.int (1 : Int32)), .unset] [(.int (1 : Int32)), (.int (1 : Int32))])) (fun _ k => XS.iconst X7.here hx rfl (hb hby at_72) k) ?_
    refine own_go (G := T7.setTop (mkF m 75 #[.val (.int p0), .val (.int p1), .val (.int p2), .val (.int v1), .val (.int v2), .val (.int v3), .val (.int ((v1 * v2) * v3)), .val (.ref b4), .val (.int (1 : Int32)), .unset] [(.int ((v1 * v2) * v3)), (.int (1 : Int32)), (.int (1 : Int32))])) (fun _ k => XS.iload X7.here hx rfl (hb hby at_73) rfl k) ?_
    refine own_go (G := T7.setTop (mkF m 78 #[.val (.int p0), .val (.int p1), .val (.int p2), .val (.int v1), .val (.int v2), .val (.int v3), .val (.int ((v1 * v2) * v3)), .val (.ref b4), .val (.int (1 : Int32)), .unset] [(.int (1 : Int32))])) (fun _ k => XS.icmpNo X7.here hx rfl (hb hby at_75) rfl (tlt (own_L11 (own_c hv1) (own_c hv2) (own_c hv3) q_7_2 q_7_1 : (1 : Int32) < ((v1 * v2) * v3))).2.1 k) ?_
    refine own_go (G := T7.setTop (mkF m 79 #[.val (.int p0), .val (.int p1), .val (.int p2), .val (.int v1), .val (.int v2), .val (.int v3), .val (.int ((v1 * v2) * v3)), .val (.ref b4), .val (.int (1 : Int32)), .unset] [(.int (1 : Int32)), (.int (1 : Int32))])) (fun _ k => XS.iconst X7.here hx rfl (hb hby at_78) k) ?_
    refine own_go (G := T7.setTop (mkF m 83 #[.val (.int p0), .val (.int p1), .val (.int p2), .val (.int v1), .val (.int v2), .val (.int v3), .val (.int ((v1 * v2) * v3)), .val (.ref b4), .val (.int (1 : Int32)), .unset] [(.int (1 : Int32)), (.int (1 : Int32))])) (fun _ k => XS.goto X7.here hx rfl (pc0 := 79) (pc' := 83) rfl (hb hby at_79) (by decide) (by decide) k) ?_
    refine own_go (G := T7.setTop (mkF m 88 #[.val (.int p0), .val (.int p1), .val (.int p2), .val (.int v1), .val (.int v2), .val (.int v3), .val (.int ((v1 * v2) * v3)), .val (.ref b4), .val (.int (1 : Int32)), .unset] [])) (fun _ k => XS.icmpYes X7.here hx rfl (pc0 := 83) (pc' := 88) rfl (hb hby at_83) rfl (teq (by decide : (1 : Int32) = (1 : Int32))).1 (by decide) (by decide) k) ?_
    refine own_go (G := T7.setTop (mkF m 90 #[.val (.int p0), .val (.int p1), .val (.int p2), .val (.int v1), .val (.int v2), .val (.int v3), .val (.int ((v1 * v2) * v3)), .val (.ref b4), .val (.int (1 : Int32)), .unset] [(.int (1 : Int32))])) (fun _ k => XS.iload X7.here hx rfl (hb hby at_88) rfl k) ?_
    refine own_go (G := T7.setTop (mkF m 95 #[.val (.int p0), .val (.int p1), .val (.int p2), .val (.int v1), .val (.int v2), .val (.int v3), .val (.int ((v1 * v2) * v3)), .val (.ref b4), .val (.int (1 : Int32)), .unset] [])) (fun _ k => XS.ifYes X7.here hx rfl (pc0 := 90) (pc' := 95) rfl (hb hby at_90) rfl ((if0 _ _).trans (feq (by decide : ¬ ((1 : Int32) = (0 : Int32)))).2) (by decide) (by decide) k) ?_
    refine own_go (G := T7.setTop (mkF m 97 #[.val (.int p0), .val (.int p1), .val (.int p2), .val (.int v1), .val (.int v2), .val (.int v3), .val (.int ((v1 * v2) * v3)), .val (.ref b4), .val (.int (1 : Int32)), .unset] [(.ref b4)])) (fun _ k => XS.aload X7.here hx rfl (hb hby at_95) rfl rfl k) ?_
    refine own_go (G := T7.setTop (mkF m 98 #[.val (.int p0), .val (.int p1), .val (.int p2), .val (.int v1), .val (.int v2), .val (.int v3), .val (.int ((v1 * v2) * v3)), .val (.ref b4), .val (.int (1 : Int32)), .unset] [(.int v1), (.ref b4)])) (fun _ k => XS.iloadN X7.here hx rfl (hb hby at_97) rfl k) ?_
    refine own_go (G := T7.setTop (mkF m 100 #[.val (.int p0), .val (.int p1), .val (.int p2), .val (.int v1), .val (.int v2), .val (.int v3), .val (.int ((v1 * v2) * v3)), .val (.ref b4), .val (.int (1 : Int32)), .unset] [(.int v2), (.int v1), (.ref b4)])) (fun _ k => XS.iload X7.here hx rfl (hb hby at_98) rfl k) ?_
    refine own_go (G := T7.setTop (mkF m 102 #[.val (.int p0), .val (.int p1), .val (.int p2), .val (.int v1), .val (.int v2), .val (.int v3), .val (.int ((v1 * v2) * v3)), .val (.ref b4), .val (.int (1 : Int32)), .unset] [(.int v3), (.int v2), (.int v1), (.ref b4)])) (fun _ k => XS.iload X7.here hx rfl (hb hby at_100) rfl k) ?_
    refine own_go (G := T7.setTop (mkF m 103 #[.val (.int p0), .val (.int p1), .val (.int p2), .val (.int v1), .val (.int v2), .val (.int v3), .val (.int ((v1 * v2) * v3)), .val (.ref b4), .val (.int (1 : Int32)), .unset] [(.int (1 : Int32)), (.int v3), (.int v2), (.int v1), (.ref b4)])) (fun _ k => XS.iconst X7.here hx rfl (hb hby at_102) k) ?_
    obtain ⟨_, _, ⟨T13, L13, k13, n13⟩, -, X13, ⟨Lc13, hQ13, l13, y13, z13⟩, st13⟩ := Jvm.LawKit.callS X7 hx (y := (⟨"com/example/mave/mave/engine/ChoicesNextPinLaw", "runIs", "(Lcom/example/mave/mave/engine/Choices;IIII)Z"⟩ : MethodName)) hown (mvT hZ (hw _ (List.mem_of_getElem? (i := 15) rfl))) (mvT hZ (hw _ (List.mem_of_getElem? (i := 16) rfl))) (mvT hZ (hw _ (List.mem_of_getElem? (i := 17) rfl))) (mvT hZ (hw _ (List.mem_of_getElem? (i := 18) rfl))) (by decide) (backOf (W := 0) (run2 l Z a0 hw [] b4 v1 v2 v3 (1 : Int32) (0 : Int32) ((0 : Int32) + (1 : Int32)) (0 : Int32) v1 v2 v3 T7.heap n0 Z7 Gn7 (own_z1 (own_c hv1) (own_c hv2) (own_c hv3)) (own_z2 (own_c hv1) (own_c hv2) (own_c hv3)) (own_z3 (own_c hv1) (own_c hv2) (own_c hv3))) hZ (hw _ (List.mem_of_getElem? (i := 18) rfl)) (hw _ (List.mem_of_getElem? (i := 17) rfl)) (by decide) (by decide)) (g := (mkF m 103 #[.val (.int p0), .val (.int p1), .val (.int p2), .val (.int v1), .val (.int v2), .val (.int v3), .val (.int ((v1 * v2) * v3)), .val (.ref b4), .val (.int (1 : Int32)), .unset] [(.int (1 : Int32)), (.int v3), (.int v2), (.int v1), (.ref b4)])) rfl (by rw [hml]; rfl) (argsL := [(.ref b4), (.int v1), (.int v2), (.int v3), (.int (1 : Int32))]) (rest := []) (lenOf pd2 rfl) rfl (by show 2 * 0 + _ ≤ _; exact Nat.le_of_eq rfl) (hb hby at_103) (fun _ _ => ⟨rfl, rfl, (by decide : 3 + 0 ≤ _), (by decide : 20 + 0 ≤ _)⟩)
    dsimp only [Pt.U, Pt.locs, Pt.cells, Pt.slots] at X13 l13 y13 z13 st13 hQ13
    subst l13 y13 z13
    obtain ⟨rfl, Nq13, Z13, Gq13⟩ := hQ13
    have N13 := Fr.app N7 Nq13
    have Gn13 : own_C Z T13.heap n0 b4 (3 : Int32) (2 : Int32) (0 : Int32) ((0 : Int32) + (1 : Int32)) (0 : Int32) v1 v2 v3 := Gq13
    obtain ⟨-, Eg13, -⟩ := id Gn13
    refine own_go (G := T13.setTop (mkF m 106 #[.val (.int p0), .val (.int p1), .val (.int p2), .val (.int v1), .val (.int v2), .val (.int v3), .val (.int ((v1 * v2) * v3)), .val (.ref b4), .val (.int (1 : Int32)), .unset] [(.int (own_R (0 : Int32) ((0 : Int32) + (1 : Int32)) (0 : Int32) v2 v3 (1 : Int32)))])) (st13) ?_
    refine own_go (G := T13.setTop (mkF m 111 #[.val (.int p0), .val (.int p1), .val (.int p2), .val (.int v1), .val (.int v2), .val (.int v3), .val (.int ((v1 * v2) * v3)), .val (.ref b4), .val (.int (1 : Int32)), .unset] [])) (fun _ k => XS.ifYes X13.here hx rfl (pc0 := 106) (pc' := 111) rfl (hb hby at_106) rfl ((if0 _ _).trans (feq (own_L12 (own_c hv1) (own_c hv2) (own_c hv3) q_7_2 q_7_1 : ¬ ((own_R (0 : Int32) ((0 : Int32) + (1 : Int32)) (0 : Int32) v2 v3 (1 : Int32)) = (0 : Int32)))).2) (by decide) (by decide) k) ?_
    refine own_go (G := T13.setTop (mkF m 113 #[.val (.int p0), .val (.int p1), .val (.int p2), .val (.int v1), .val (.int v2), .val (.int v3), .val (.int ((v1 * v2) * v3)), .val (.ref b4), .val (.int (1 : Int32)), .unset] [(.ref b4)])) (fun _ k => XS.aload X13.here hx rfl (hb hby at_111) rfl rfl k) ?_
    obtain ⟨cq14, kq14, qk14a, qk14b, qk14c⟩ := isOf hZ rfl Eg13
    obtain ⟨_, _, ⟨T14, L14, k14, n14⟩, -, X14, ⟨Lc14, hQ14, l14, y14, z14⟩, st14⟩ := X13.virtualBack hx (y := (⟨"com/example/mave/mave/engine/Choices", "next", "()Z"⟩ : MethodName)) (z := (⟨"com/example/mave/mave/engine/Choices", "next", "()Z"⟩ : MethodName)) hown (mvT hZ (hw _ (List.mem_of_getElem? (i := 28) rfl))) (mvT hZ (hw _ (List.mem_of_getElem? (i := 29) rfl))) (notFace_of_selects (args := #[]) (mvT hZ (hw _ (List.mem_of_getElem? (i := 31) rfl)))) (mvT hZ (hw _ (List.mem_of_getElem? (i := 31) rfl))) (mvT hZ (hw _ (List.mem_of_getElem? (i := 30) rfl))) (by decide) (backOf (W := 0) (rm5 l Z a0 hw [] b4 (2 : Int32) (0 : Int32) ((0 : Int32) + (1 : Int32)) (0 : Int32) v1 v2 v3 T13.heap n0 Z13 Gn13) hZ (hw _ (List.mem_of_getElem? (i := 32) rfl)) (hw _ (List.mem_of_getElem? (i := 3) rfl)) (by decide) (by decide)) qk14a qk14c (g := (mkF m 113 #[.val (.int p0), .val (.int p1), .val (.int p2), .val (.int v1), .val (.int v2), .val (.int v3), .val (.int ((v1 * v2) * v3)), .val (.ref b4), .val (.int (1 : Int32)), .unset] [(.ref b4)])) rfl (by rw [hml]; rfl) (Steps.refl _) (argsL := []) (rest := []) (lenOf pd3 rfl) rfl (by show 2 * 0 + _ ≤ _; exact Nat.le_of_eq rfl) (hb hby at_113) (fun _ _ => ⟨rfl, rfl, (by decide : 3 + 0 ≤ _), (by decide : 20 + 0 ≤ _)⟩)
    dsimp only [Pt.U, Pt.locs, Pt.cells, Pt.slots] at X14 l14 y14 z14 st14 hQ14
    subst l14 y14 z14
    obtain ⟨w14, rfl, Nq14, Z14, hD14⟩ := hQ14
    have N14 := Fr.app N13 Nq14
    refine own_go (G := T14.setTop (mkF m 116 #[.val (.int p0), .val (.int p1), .val (.int p2), .val (.int v1), .val (.int v2), .val (.int v3), .val (.int ((v1 * v2) * v3)), .val (.ref b4), .val (.int (1 : Int32)), .unset] [(.int w14)])) (fun _ k => st14.trans k) ?_
    rcases hD14 with ⟨hw_, q_14_2, Gx⟩ | ⟨hw_, q_14_2, q_14_1, Gx⟩ | ⟨hw_, q_14_2, q_14_1, q_14_0, Gx⟩ | ⟨hw_, q_14_2, q_14_1, q_14_0⟩
    · subst hw_
      have Gn14 : own_C Z T14.heap n0 b4 (0 : Int32) (3 : Int32) (0 : Int32) ((0 : Int32) + (1 : Int32)) ((0 : Int32) + (1 : Int32)) v1 v2 v3 := Gx
      obtain ⟨-, Eg14, -⟩ := id Gn14
      refine own_go (G := T14.setTop (mkF m 118 #[.val (.int p0), .val (.int p1), .val (.int p2), .val (.int v1), .val (.int v2), .val (.int v3), .val (.int ((v1 * v2) * v3)), .val (.ref b4), .val (.int (1 : Int32)), .val (.int (1 : Int32))] [])) (fun _ k => XS.istore X14.here hx rfl (hb hby at_116) rfl (l' := #[.val (.int p0), .val (.int p1), .val (.int p2), .val (.int v1), .val (.int v2), .val (.int v3), .val (.int ((v1 * v2) * v3)), .val (.ref b4), .val (.int (1 : Int32)), .val (.int (1 : Int32))]) rfl k) ?_
      refine own_go (G := T14.setTop (mkF m 120 #[.val (.int p0), .val (.int p1), .val (.int p2), .val (.int v1), .val (.int v2), .val (.int v3), .val (.int ((v1 * v2) * v3)), .val (.ref b4), .val (.int (1 : Int32)), .val (.int (1 : Int32))] [(.int (1 : Int32))])) (fun _ k => XS.iload X14.here hx rfl (hb hby at_118) rfl k) ?_
      refine own_go (G := T14.setTop (mkF m 121 #[.val (.int p0), .val (.int p1), .val (.int p2), .val (.int v1), .val (.int v2), .val (.int v3), .val (.int ((v1 * v2) * v3)), .val (.ref b4), .val (.int (1 : Int32)), .val (.int (1 : Int32))] [(.int (2 : Int32)), (.int (1 : Int32))])) (fun _ k => XS.iconst X14.here hx rfl (hb hby at_120) k) ?_
      refine own_go (G := T14.setTop (mkF m 123 #[.val (.int p0), .val (.int p1), .val (.int p2), .val (.int v1), .val (.int v2), .val (.int v3), .val (.int ((v1 * v2) * v3)), .val (.ref b4), .val (.int (1 : Int32)), .val (.int (1 : Int32))] [(.int ((v1 * v2) * v3)), (.int (2 : Int32)), (.int (1 : Int32))])) (fun _ k => XS.iload X14.here hx rfl (hb hby at_121) rfl k) ?_
      refine own_go (G := T14.setTop (mkF m 126 #[.val (.int p0), .val (.int p1), .val (.int p2), .val (.int v1), .val (.int v2), .val (.int v3), .val (.int ((v1 * v2) * v3)), .val (.ref b4), .val (.int (1 : Int32)), .val (.int (1 : Int32))] [(.int (1 : Int32))])) (fun _ k => XS.icmpNo X14.here hx rfl (hb hby at_123) rfl (tlt (own_L13 (own_c hv1) (own_c hv2) (own_c hv3) q_7_2 q_7_1 q_14_2 : (2 : Int32) < ((v1 * v2) * v3))).2.1 k) ?_
      refine own_go (G := T14.setTop (mkF m 127 #[.val (.int p0), .val (.int p1), .val (.int p2), .val (.int v1), .val (.int v2), .val (.int v3), .val (.int ((v1 * v2) * v3)), .val (.ref b4), .val (.int (1 : Int32)), .val (.int (1 : Int32))] [(.int (1 : Int32)), (.int (1 : Int32))])) (fun _ k => XS.iconst X14.here hx rfl (hb hby at_126) k) ?_
      refine own_go (G := T14.setTop (mkF m 131 #[.val (.int p0), .val (.int p1), .val (.int p2), .val (.int v1), .val (.int v2), .val (.int v3), .val (.int ((v1 * v2) * v3)), .val (.ref b4), .val (.int (1 : Int32)), .val (.int (1 : Int32))] [(.int (1 : Int32)), (.int (1 : Int32))])) (fun _ k => XS.goto X14.here hx rfl (pc0 := 127) (pc' := 131) rfl (hb hby at_127) (by decide) (by decide) k) ?_
      refine own_go (G := T14.setTop (mkF m 136 #[.val (.int p0), .val (.int p1), .val (.int p2), .val (.int v1), .val (.int v2), .val (.int v3), .val (.int ((v1 * v2) * v3)), .val (.ref b4), .val (.int (1 : Int32)), .val (.int (1 : Int32))] [])) (fun _ k => XS.icmpYes X14.here hx rfl (pc0 := 131) (pc' := 136) rfl (hb hby at_131) rfl (teq (by decide : (1 : Int32) = (1 : Int32))).1 (by decide) (by decide) k) ?_
      refine own_go (G := T14.setTop (mkF m 138 #[.val (.int p0), .val (.int p1), .val (.int p2), .val (.int v1), .val (.int v2), .val (.int v3), .val (.int ((v1 * v2) * v3)), .val (.ref b4), .val (.int (1 : Int32)), .val (.int (1 : Int32))] [(.int (1 : Int32))])) (fun _ k => XS.iload X14.here hx rfl (hb hby at_136) rfl k) ?_
      refine own_go (G := T14.setTop (mkF m 143 #[.val (.int p0), .val (.int p1), .val (.int p2), .val (.int v1), .val (.int v2), .val (.int v3), .val (.int ((v1 * v2) * v3)), .val (.ref b4), .val (.int (1 : Int32)), .val (.int (1 : Int32))] [])) (fun _ k => XS.ifYes X14.here hx rfl (pc0 := 138) (pc' := 143) rfl (hb hby at_138) rfl ((if0 _ _).trans (feq (by decide : ¬ ((1 : Int32) = (0 : Int32)))).2) (by decide) (by decide) k) ?_
      refine own_go (G := T14.setTop (mkF m 145 #[.val (.int p0), .val (.int p1), .val (.int p2), .val (.int v1), .val (.int v2), .val (.int v3), .val (.int ((v1 * v2) * v3)), .val (.ref b4), .val (.int (1 : Int32)), .val (.int (1 : Int32))] [(.ref b4)])) (fun _ k => XS.aload X14.here hx rfl (hb hby at_143) rfl rfl k) ?_
      refine own_go (G := T14.setTop (mkF m 146 #[.val (.int p0), .val (.int p1), .val (.int p2), .val (.int v1), .val (.int v2), .val (.int v3), .val (.int ((v1 * v2) * v3)), .val (.ref b4), .val (.int (1 : Int32)), .val (.int (1 : Int32))] [(.int v1), (.ref b4)])) (fun _ k => XS.iloadN X14.here hx rfl (hb hby at_145) rfl k) ?_
      refine own_go (G := T14.setTop (mkF m 148 #[.val (.int p0), .val (.int p1), .val (.int p2), .val (.int v1), .val (.int v2), .val (.int v3), .val (.int ((v1 * v2) * v3)), .val (.ref b4), .val (.int (1 : Int32)), .val (.int (1 : Int32))] [(.int v2), (.int v1), (.ref b4)])) (fun _ k => XS.iload X14.here hx rfl (hb hby at_146) rfl k) ?_
      refine own_go (G := T14.setTop (mkF m 150 #[.val (.int p0), .val (.int p1), .val (.int p2), .val (.int v1), .val (.int v2), .val (.int v3), .val (.int ((v1 * v2) * v3)), .val (.ref b4), .val (.int (1 : Int32)), .val (.int (1 : Int32))] [(.int v3), (.int v2), (.int v1), (.ref b4)])) (fun _ k => XS.iload X14.here hx rfl (hb hby at_148) rfl k) ?_
      refine own_go (G := T14.setTop (mkF m 151 #[.val (.int p0), .val (.int p1), .val (.int p2), .val (.int v1), .val (.int v2), .val (.int v3), .val (.int ((v1 * v2) * v3)), .val (.ref b4), .val (.int (1 : Int32)), .val (.int (1 : Int32))] [(.int (2 : Int32)), (.int v3), (.int v2), (.int v1), (.ref b4)])) (fun _ k => XS.iconst X14.here hx rfl (hb hby at_150) k) ?_
      obtain ⟨_, _, ⟨T15, L15, k15, n15⟩, -, X15, ⟨Lc15, hQ15, l15, y15, z15⟩, st15⟩ := Jvm.LawKit.callS X14 hx (y := (⟨"com/example/mave/mave/engine/ChoicesNextPinLaw", "runIs", "(Lcom/example/mave/mave/engine/Choices;IIII)Z"⟩ : MethodName)) hown (mvT hZ (hw _ (List.mem_of_getElem? (i := 15) rfl))) (mvT hZ (hw _ (List.mem_of_getElem? (i := 16) rfl))) (mvT hZ (hw _ (List.mem_of_getElem? (i := 17) rfl))) (mvT hZ (hw _ (List.mem_of_getElem? (i := 18) rfl))) (by decide) (backOf (W := 0) (run3 l Z a0 hw [] b4 v1 v2 v3 (2 : Int32) (0 : Int32) ((0 : Int32) + (1 : Int32)) ((0 : Int32) + (1 : Int32)) v1 v2 v3 T14.heap n0 Z14 Gn14 (own_z1 (own_c hv1) (own_c hv2) (own_c hv3)) (own_z2 (own_c hv1) (own_c hv2) (own_c hv3)) (own_z3 (own_c hv1) (own_c hv2) (own_c hv3))) hZ (hw _ (List.mem_of_getElem? (i := 18) rfl)) (hw _ (List.mem_of_getElem? (i := 17) rfl)) (by decide) (by decide)) (g := (mkF m 151 #[.val (.int p0), .val (.int p1), .val (.int p2), .val (.int v1), .val (.int v2), .val (.int v3), .val (.int ((v1 * v2) * v3)), .val (.ref b4), .val (.int (1 : Int32)), .val (.int (1 : Int32))] [(.int (2 : Int32)), (.int v3), (.int v2), (.int v1), (.ref b4)])) rfl (by rw [hml]; rfl) (argsL := [(.ref b4), (.int v1), (.int v2), (.int v3), (.int (2 : Int32))]) (rest := []) (lenOf pd2 rfl) rfl (by show 2 * 0 + _ ≤ _; exact Nat.le_of_eq rfl) (hb hby at_151) (fun _ _ => ⟨rfl, rfl, (by decide : 3 + 0 ≤ _), (by decide : 20 + 0 ≤ _)⟩)
      dsimp only [Pt.U, Pt.locs, Pt.cells, Pt.slots] at X15 l15 y15 z15 st15 hQ15
      subst l15 y15 z15
      obtain ⟨rfl, Nq15, Z15, Gq15⟩ := hQ15
      have N15 := Fr.app N14 Nq15
      have Gn15 : own_C Z T15.heap n0 b4 (3 : Int32) (3 : Int32) (0 : Int32) ((0 : Int32) + (1 : Int32)) ((0 : Int32) + (1 : Int32)) v1 v2 v3 := Gq15
      obtain ⟨-, Eg15, -⟩ := id Gn15
      refine own_go (G := T15.setTop (mkF m 154 #[.val (.int p0), .val (.int p1), .val (.int p2), .val (.int v1), .val (.int v2), .val (.int v3), .val (.int ((v1 * v2) * v3)), .val (.ref b4), .val (.int (1 : Int32)), .val (.int (1 : Int32))] [(.int (own_R (0 : Int32) ((0 : Int32) + (1 : Int32)) ((0 : Int32) + (1 : Int32)) v2 v3 (2 : Int32)))])) (st15) ?_
      rw [show (own_R (0 : Int32) ((0 : Int32) + (1 : Int32)) ((0 : Int32) + (1 : Int32)) v2 v3 (2 : Int32)) = (1 : Int32) from own_L14 (own_c hv1) (own_c hv2) (own_c hv3) q_7_2 q_7_1 q_14_2]
      exact own_ret1 X15 hx Bd.returns (hb hby at_154) Bd.notSynchronized (by decide) (by decide) ⟨rfl, N15⟩
    · subst hw_
      have Gn14 : own_C Z T14.heap n0 b4 (0 : Int32) (2 : Int32) (0 : Int32) (((0 : Int32) + (1 : Int32)) + (1 : Int32)) (0 : Int32) v1 v2 v3 := Gx
      obtain ⟨-, Eg14, -⟩ := id Gn14
      refine own_go (G := T14.setTop (mkF m 118 #[.val (.int p0), .val (.int p1), .val (.int p2), .val (.int v1), .val (.int v2), .val (.int v3), .val (.int ((v1 * v2) * v3)), .val (.ref b4), .val (.int (1 : Int32)), .val (.int (1 : Int32))] [])) (fun _ k => XS.istore X14.here hx rfl (hb hby at_116) rfl (l' := #[.val (.int p0), .val (.int p1), .val (.int p2), .val (.int v1), .val (.int v2), .val (.int v3), .val (.int ((v1 * v2) * v3)), .val (.ref b4), .val (.int (1 : Int32)), .val (.int (1 : Int32))]) rfl k) ?_
      refine own_go (G := T14.setTop (mkF m 120 #[.val (.int p0), .val (.int p1), .val (.int p2), .val (.int v1), .val (.int v2), .val (.int v3), .val (.int ((v1 * v2) * v3)), .val (.ref b4), .val (.int (1 : Int32)), .val (.int (1 : Int32))] [(.int (1 : Int32))])) (fun _ k => XS.iload X14.here hx rfl (hb hby at_118) rfl k) ?_
      refine own_go (G := T14.setTop (mkF m 121 #[.val (.int p0), .val (.int p1), .val (.int p2), .val (.int v1), .val (.int v2), .val (.int v3), .val (.int ((v1 * v2) * v3)), .val (.ref b4), .val (.int (1 : Int32)), .val (.int (1 : Int32))] [(.int (2 : Int32)), (.int (1 : Int32))])) (fun _ k => XS.iconst X14.here hx rfl (hb hby at_120) k) ?_
      refine own_go (G := T14.setTop (mkF m 123 #[.val (.int p0), .val (.int p1), .val (.int p2), .val (.int v1), .val (.int v2), .val (.int v3), .val (.int ((v1 * v2) * v3)), .val (.ref b4), .val (.int (1 : Int32)), .val (.int (1 : Int32))] [(.int ((v1 * v2) * v3)), (.int (2 : Int32)), (.int (1 : Int32))])) (fun _ k => XS.iload X14.here hx rfl (hb hby at_121) rfl k) ?_
      refine own_go (G := T14.setTop (mkF m 126 #[.val (.int p0), .val (.int p1), .val (.int p2), .val (.int v1), .val (.int v2), .val (.int v3), .val (.int ((v1 * v2) * v3)), .val (.ref b4), .val (.int (1 : Int32)), .val (.int (1 : Int32))] [(.int (1 : Int32))])) (fun _ k => XS.icmpNo X14.here hx rfl (hb hby at_123) rfl (tlt (own_L15 (own_c hv1) (own_c hv2) (own_c hv3) q_7_1 q_7_2 q_14_1 : (2 : Int32) < ((v1 * v2) * v3))).2.1 k) ?_
      refine own_go (G := T14.setTop (mkF m 127 #[.val (.int p0), .val (.int p1), .val (.int p2), .val (.int v1), .val (.int v2), .val (.int v3), .val (.int ((v1 * v2) * v3)), .val (.ref b4), .val (.int (1 : Int32)), .val (.int (1 : Int32))] [(.int (1 : Int32)), (.int (1 : Int32))])) (fun _ k => XS.iconst X14.here hx rfl (hb hby at_126) k) ?_
      refine own_go (G := T14.setTop (mkF m 131 #[.val (.int p0), .val (.int p1), .val (.int p2), .val (.int v1), .val (.int v2), .val (.int v3), .val (.int ((v1 * v2) * v3)), .val (.ref b4), .val (.int (1 : Int32)), .val (.int (1 : Int32))] [(.int (1 : Int32)), (.int (1 : Int32))])) (fun _ k => XS.goto X14.here hx rfl (pc0 := 127) (pc' := 131) rfl (hb hby at_127) (by decide) (by decide) k) ?_
      refine own_go (G := T14.setTop (mkF m 136 #[.val (.int p0), .val (.int p1), .val (.int p2), .val (.int v1), .val (.int v2), .val (.int v3), .val (.int ((v1 * v2) * v3)), .val (.ref b4), .val (.int (1 : Int32)), .val (.int (1 : Int32))] [])) (fun _ k => XS.icmpYes X14.here hx rfl (pc0 := 131) (pc' := 136) rfl (hb hby at_131) rfl (teq (by decide : (1 : Int32) = (1 : Int32))).1 (by decide) (by decide) k) ?_
      refine own_go (G := T14.setTop (mkF m 138 #[.val (.int p0), .val (.int p1), .val (.int p2), .val (.int v1), .val (.int v2), .val (.int v3), .val (.int ((v1 * v2) * v3)), .val (.ref b4), .val (.int (1 : Int32)), .val (.int (1 : Int32))] [(.int (1 : Int32))])) (fun _ k => XS.iload X14.here hx rfl (hb hby at_136) rfl k) ?_
      refine own_go (G := T14.setTop (mkF m 143 #[.val (.int p0), .val (.int p1), .val (.int p2), .val (.int v1), .val (.int v2), .val (.int v3), .val (.int ((v1 * v2) * v3)), .val (.ref b4), .val (.int (1 : Int32)), .val (.int (1 : Int32))] [])) (fun _ k => XS.ifYes X14.here hx rfl (pc0 := 138) (pc' := 143) rfl (hb hby at_138) rfl ((if0 _ _).trans (feq (by decide : ¬ ((1 : Int32) = (0 : Int32)))).2) (by decide) (by decide) k) ?_
      refine own_go (G := T14.setTop (mkF m 145 #[.val (.int p0), .val (.int p1), .val (.int p2), .val (.int v1), .val (.int v2), .val (.int v3), .val (.int ((v1 * v2) * v3)), .val (.ref b4), .val (.int (1 : Int32)), .val (.int (1 : Int32))] [(.ref b4)])) (fun _ k => XS.aload X14.here hx rfl (hb hby at_143) rfl rfl k) ?_
      refine own_go (G := T14.setTop (mkF m 146 #[.val (.int p0), .val (.int p1), .val (.int p2), .val (.int v1), .val (.int v2), .val (.int v3), .val (.int ((v1 * v2) * v3)), .val (.ref b4), .val (.int (1 : Int32)), .val (.int (1 : Int32))] [(.int v1), (.ref b4)])) (fun _ k => XS.iloadN X14.here hx rfl (hb hby at_145) rfl k) ?_
      refine own_go (G := T14.setTop (mkF m 148 #[.val (.int p0), .val (.int p1), .val (.int p2), .val (.int v1), .val (.int v2), .val (.int v3), .val (.int ((v1 * v2) * v3)), .val (.ref b4), .val (.int (1 : Int32)), .val (.int (1 : Int32))] [(.int v2), (.int v1), (.ref b4)])) (fun _ k => XS.iload X14.here hx rfl (hb hby at_146) rfl k) ?_
      refine own_go (G := T14.setTop (mkF m 150 #[.val (.int p0), .val (.int p1), .val (.int p2), .val (.int v1), .val (.int v2), .val (.int v3), .val (.int ((v1 * v2) * v3)), .val (.ref b4), .val (.int (1 : Int32)), .val (.int (1 : Int32))] [(.int v3), (.int v2), (.int v1), (.ref b4)])) (fun _ k => XS.iload X14.here hx rfl (hb hby at_148) rfl k) ?_
      refine own_go (G := T14.setTop (mkF m 151 #[.val (.int p0), .val (.int p1), .val (.int p2), .val (.int v1), .val (.int v2), .val (.int v3), .val (.int ((v1 * v2) * v3)), .val (.ref b4), .val (.int (1 : Int32)), .val (.int (1 : Int32))] [(.int (2 : Int32)), (.int v3), (.int v2), (.int v1), (.ref b4)])) (fun _ k => XS.iconst X14.here hx rfl (hb hby at_150) k) ?_
      obtain ⟨_, _, ⟨T16, L16, k16, n16⟩, -, X16, ⟨Lc16, hQ16, l16, y16, z16⟩, st16⟩ := Jvm.LawKit.callS X14 hx (y := (⟨"com/example/mave/mave/engine/ChoicesNextPinLaw", "runIs", "(Lcom/example/mave/mave/engine/Choices;IIII)Z"⟩ : MethodName)) hown (mvT hZ (hw _ (List.mem_of_getElem? (i := 15) rfl))) (mvT hZ (hw _ (List.mem_of_getElem? (i := 16) rfl))) (mvT hZ (hw _ (List.mem_of_getElem? (i := 17) rfl))) (mvT hZ (hw _ (List.mem_of_getElem? (i := 18) rfl))) (by decide) (backOf (W := 0) (run2 l Z a0 hw [] b4 v1 v2 v3 (2 : Int32) (0 : Int32) (((0 : Int32) + (1 : Int32)) + (1 : Int32)) (0 : Int32) v1 v2 v3 T14.heap n0 Z14 Gn14 (own_z1 (own_c hv1) (own_c hv2) (own_c hv3)) (own_z2 (own_c hv1) (own_c hv2) (own_c hv3)) (own_z3 (own_c hv1) (own_c hv2) (own_c hv3))) hZ (hw _ (List.mem_of_getElem? (i := 18) rfl)) (hw _ (List.mem_of_getElem? (i := 17) rfl)) (by decide) (by decide)) (g := (mkF m 151 #[.val (.int p0), .val (.int p1), .val (.int p2), .val (.int v1), .val (.int v2), .val (.int v3), .val (.int ((v1 * v2) * v3)), .val (.ref b4), .val (.int (1 : Int32)), .val (.int (1 : Int32))] [(.int (2 : Int32)), (.int v3), (.int v2), (.int v1), (.ref b4)])) rfl (by rw [hml]; rfl) (argsL := [(.ref b4), (.int v1), (.int v2), (.int v3), (.int (2 : Int32))]) (rest := []) (lenOf pd2 rfl) rfl (by show 2 * 0 + _ ≤ _; exact Nat.le_of_eq rfl) (hb hby at_151) (fun _ _ => ⟨rfl, rfl, (by decide : 3 + 0 ≤ _), (by decide : 20 + 0 ≤ _)⟩)
      dsimp only [Pt.U, Pt.locs, Pt.cells, Pt.slots] at X16 l16 y16 z16 st16 hQ16
      subst l16 y16 z16
      obtain ⟨rfl, Nq16, Z16, Gq16⟩ := hQ16
      have N16 := Fr.app N14 Nq16
      have Gn16 : own_C Z T16.heap n0 b4 (3 : Int32) (2 : Int32) (0 : Int32) (((0 : Int32) + (1 : Int32)) + (1 : Int32)) (0 : Int32) v1 v2 v3 := Gq16
      obtain ⟨-, Eg16, -⟩ := id Gn16
      refine own_go (G := T16.setTop (mkF m 154 #[.val (.int p0), .val (.int p1), .val (.int p2), .val (.int v1), .val (.int v2), .val (.int v3), .val (.int ((v1 * v2) * v3)), .val (.ref b4), .val (.int (1 : Int32)), .val (.int (1 : Int32))] [(.int (own_R (0 : Int32) (((0 : Int32) + (1 : Int32)) + (1 : Int32)) (0 : Int32) v2 v3 (2 : Int32)))])) (st16) ?_
      rw [show (own_R (0 : Int32) (((0 : Int32) + (1 : Int32)) + (1 : Int32)) (0 : Int32) v2 v3 (2 : Int32)) = (1 : Int32) from own_L16 (own_c hv1) (own_c hv2) (own_c hv3) q_7_1 q_7_2 q_14_1]
      exact own_ret1 X16 hx Bd.returns (hb hby at_154) Bd.notSynchronized (by decide) (by decide) ⟨rfl, N16⟩
    · subst hw_
      have Gn14 : own_C Z T14.heap n0 b4 (0 : Int32) (1 : Int32) ((0 : Int32) + (1 : Int32)) ((0 : Int32) + (1 : Int32)) (0 : Int32) v1 v2 v3 := Gx
      obtain ⟨-, Eg14, -⟩ := id Gn14
      refine own_go (G := T14.setTop (mkF m 118 #[.val (.int p0), .val (.int p1), .val (.int p2), .val (.int v1), .val (.int v2), .val (.int v3), .val (.int ((v1 * v2) * v3)), .val (.ref b4), .val (.int (1 : Int32)), .val (.int (1 : Int32))] [])) (fun _ k => XS.istore X14.here hx rfl (hb hby at_116) rfl (l' := #[.val (.int p0), .val (.int p1), .val (.int p2), .val (.int v1), .val (.int v2), .val (.int v3), .val (.int ((v1 * v2) * v3)), .val (.ref b4), .val (.int (1 : Int32)), .val (.int (1 : Int32))]) rfl k) ?_
      refine own_go (G := T14.setTop (mkF m 120 #[.val (.int p0), .val (.int p1), .val (.int p2), .val (.int v1), .val (.int v2), .val (.int v3), .val (.int ((v1 * v2) * v3)), .val (.ref b4), .val (.int (1 : Int32)), .val (.int (1 : Int32))] [(.int (1 : Int32))])) (fun _ k => XS.iload X14.here hx rfl (hb hby at_118) rfl k) ?_
      refine own_go (G := T14.setTop (mkF m 121 #[.val (.int p0), .val (.int p1), .val (.int p2), .val (.int v1), .val (.int v2), .val (.int v3), .val (.int ((v1 * v2) * v3)), .val (.ref b4), .val (.int (1 : Int32)), .val (.int (1 : Int32))] [(.int (2 : Int32)), (.int (1 : Int32))])) (fun _ k => XS.iconst X14.here hx rfl (hb hby at_120) k) ?_
      refine own_go (G := T14.setTop (mkF m 123 #[.val (.int p0), .val (.int p1), .val (.int p2), .val (.int v1), .val (.int v2), .val (.int v3), .val (.int ((v1 * v2) * v3)), .val (.ref b4), .val (.int (1 : Int32)), .val (.int (1 : Int32))] [(.int ((v1 * v2) * v3)), (.int (2 : Int32)), (.int (1 : Int32))])) (fun _ k => XS.iload X14.here hx rfl (hb hby at_121) rfl k) ?_
      refine own_go (G := T14.setTop (mkF m 126 #[.val (.int p0), .val (.int p1), .val (.int p2), .val (.int v1), .val (.int v2), .val (.int v3), .val (.int ((v1 * v2) * v3)), .val (.ref b4), .val (.int (1 : Int32)), .val (.int (1 : Int32))] [(.int (1 : Int32))])) (fun _ k => XS.icmpNo X14.here hx rfl (hb hby at_123) rfl (tlt (own_L17 (own_c hv1) (own_c hv2) (own_c hv3) q_7_1 q_7_2 q_14_1 q_14_0 : (2 : Int32) < ((v1 * v2) * v3))).2.1 k) ?_
      refine own_go (G := T14.setTop (mkF m 127 #[.val (.int p0), .val (.int p1), .val (.int p2), .val (.int v1), .val (.int v2), .val (.int v3), .val (.int ((v1 * v2) * v3)), .val (.ref b4), .val (.int (1 : Int32)), .val (.int (1 : Int32))] [(.int (1 : Int32)), (.int (1 : Int32))])) (fun _ k => XS.iconst X14.here hx rfl (hb hby at_126) k) ?_
      refine own_go (G := T14.setTop (mkF m 131 #[.val (.int p0), .val (.int p1), .val (.int p2), .val (.int v1), .val (.int v2), .val (.int v3), .val (.int ((v1 * v2) * v3)), .val (.ref b4), .val (.int (1 : Int32)), .val (.int (1 : Int32))] [(.int (1 : Int32)), (.int (1 : Int32))])) (fun _ k => XS.goto X14.here hx rfl (pc0 := 127) (pc' := 131) rfl (hb hby at_127) (by decide) (by decide) k) ?_
      refine own_go (G := T14.setTop (mkF m 136 #[.val (.int p0), .val (.int p1), .val (.int p2), .val (.int v1), .val (.int v2), .val (.int v3), .val (.int ((v1 * v2) * v3)), .val (.ref b4), .val (.int (1 : Int32)), .val (.int (1 : Int32))] [])) (fun _ k => XS.icmpYes X14.here hx rfl (pc0 := 131) (pc' := 136) rfl (hb hby at_131) rfl (teq (by decide : (1 : Int32) = (1 : Int32))).1 (by decide) (by decide) k) ?_
      refine own_go (G := T14.setTop (mkF m 138 #[.val (.int p0), .val (.int p1), .val (.int p2), .val (.int v1), .val (.int v2), .val (.int v3), .val (.int ((v1 * v2) * v3)), .val (.ref b4), .val (.int (1 : Int32)), .val (.int (1 : Int32))] [(.int (1 : Int32))])) (fun _ k => XS.iload X14.here hx rfl (hb hby at_136) rfl k) ?_
      refine own_go (G := T14.setTop (mkF m 143 #[.val (.int p0), .val (.int p1), .val (.int p2), .val (.int v1), .val (.int v2), .val (.int v3), .val (.int ((v1 * v2) * v3)), .val (.ref b4), .val (.int (1 : Int32)), .val (.int (1 : Int32))] [])) (fun _ k => XS.ifYes X14.here hx rfl (pc0 := 138) (pc' := 143) rfl (hb hby at_138) rfl ((if0 _ _).trans (feq (by decide : ¬ ((1 : Int32) = (0 : Int32)))).2) (by decide) (by decide) k) ?_
      refine own_go (G := T14.setTop (mkF m 145 #[.val (.int p0), .val (.int p1), .val (.int p2), .val (.int v1), .val (.int v2), .val (.int v3), .val (.int ((v1 * v2) * v3)), .val (.ref b4), .val (.int (1 : Int32)), .val (.int (1 : Int32))] [(.ref b4)])) (fun _ k => XS.aload X14.here hx rfl (hb hby at_143) rfl rfl k) ?_
      refine own_go (G := T14.setTop (mkF m 146 #[.val (.int p0), .val (.int p1), .val (.int p2), .val (.int v1), .val (.int v2), .val (.int v3), .val (.int ((v1 * v2) * v3)), .val (.ref b4), .val (.int (1 : Int32)), .val (.int (1 : Int32))] [(.int v1), (.ref b4)])) (fun _ k => XS.iloadN X14.here hx rfl (hb hby at_145) rfl k) ?_
      refine own_go (G := T14.setTop (mkF m 148 #[.val (.int p0), .val (.int p1), .val (.int p2), .val (.int v1), .val (.int v2), .val (.int v3), .val (.int ((v1 * v2) * v3)), .val (.ref b4), .val (.int (1 : Int32)), .val (.int (1 : Int32))] [(.int v2), (.int v1), (.ref b4)])) (fun _ k => XS.iload X14.here hx rfl (hb hby at_146) rfl k) ?_
      refine own_go (G := T14.setTop (mkF m 150 #[.val (.int p0), .val (.int p1), .val (.int p2), .val (.int v1), .val (.int v2), .val (.int v3), .val (.int ((v1 * v2) * v3)), .val (.ref b4), .val (.int (1 : Int32)), .val (.int (1 : Int32))] [(.int v3), (.int v2), (.int v1), (.ref b4)])) (fun _ k => XS.iload X14.here hx rfl (hb hby at_148) rfl k) ?_
      refine own_go (G := T14.setTop (mkF m 151 #[.val (.int p0), .val (.int p1), .val (.int p2), .val (.int v1), .val (.int v2), .val (.int v3), .val (.int ((v1 * v2) * v3)), .val (.ref b4), .val (.int (1 : Int32)), .val (.int (1 : Int32))] [(.int (2 : Int32)), (.int v3), (.int v2), (.int v1), (.ref b4)])) (fun _ k => XS.iconst X14.here hx rfl (hb hby at_150) k) ?_
      obtain ⟨_, _, ⟨T17, L17, k17, n17⟩, -, X17, ⟨Lc17, hQ17, l17, y17, z17⟩, st17⟩ := Jvm.LawKit.callS X14 hx (y := (⟨"com/example/mave/mave/engine/ChoicesNextPinLaw", "runIs", "(Lcom/example/mave/mave/engine/Choices;IIII)Z"⟩ : MethodName)) hown (mvT hZ (hw _ (List.mem_of_getElem? (i := 15) rfl))) (mvT hZ (hw _ (List.mem_of_getElem? (i := 16) rfl))) (mvT hZ (hw _ (List.mem_of_getElem? (i := 17) rfl))) (mvT hZ (hw _ (List.mem_of_getElem? (i := 18) rfl))) (by decide) (backOf (W := 0) (run1 l Z a0 hw [] b4 v1 v2 v3 (2 : Int32) ((0 : Int32) + (1 : Int32)) ((0 : Int32) + (1 : Int32)) (0 : Int32) v1 v2 v3 T14.heap n0 Z14 Gn14 (own_z1 (own_c hv1) (own_c hv2) (own_c hv3)) (own_z2 (own_c hv1) (own_c hv2) (own_c hv3)) (own_z3 (own_c hv1) (own_c hv2) (own_c hv3))) hZ (hw _ (List.mem_of_getElem? (i := 18) rfl)) (hw _ (List.mem_of_getElem? (i := 17) rfl)) (by decide) (by decide)) (g := (mkF m 151 #[.val (.int p0), .val (.int p1), .val (.int p2), .val (.int v1), .val (.int v2), .val (.int v3), .val (.int ((v1 * v2) * v3)), .val (.ref b4), .val (.int (1 : Int32)), .val (.int (1 : Int32))] [(.int (2 : Int32)), (.int v3), (.int v2), (.int v1), (.ref b4)])) rfl (by rw [hml]; rfl) (argsL := [(.ref b4), (.int v1), (.int v2), (.int v3), (.int (2 : Int32))]) (rest := []) (lenOf pd2 rfl) rfl (by show 2 * 0 + _ ≤ _; exact Nat.le_of_eq rfl) (hb hby at_151) (fun _ _ => ⟨rfl, rfl, (by decide : 3 + 0 ≤ _), (by decide : 20 + 0 ≤ _)⟩)
      dsimp only [Pt.U, Pt.locs, Pt.cells, Pt.slots] at X17 l17 y17 z17 st17 hQ17
      subst l17 y17 z17
      obtain ⟨rfl, Nq17, Z17, Gq17⟩ := hQ17
      have N17 := Fr.app N14 Nq17
      have Gn17 : own_C Z T17.heap n0 b4 (3 : Int32) (1 : Int32) ((0 : Int32) + (1 : Int32)) (0 : Int32) (0 : Int32) v1 v2 v3 := Gq17
      obtain ⟨-, Eg17, -⟩ := id Gn17
      refine own_go (G := T17.setTop (mkF m 154 #[.val (.int p0), .val (.int p1), .val (.int p2), .val (.int v1), .val (.int v2), .val (.int v3), .val (.int ((v1 * v2) * v3)), .val (.ref b4), .val (.int (1 : Int32)), .val (.int (1 : Int32))] [(.int (own_R ((0 : Int32) + (1 : Int32)) (0 : Int32) (0 : Int32) v2 v3 (2 : Int32)))])) (st17) ?_
      rw [show (own_R ((0 : Int32) + (1 : Int32)) (0 : Int32) (0 : Int32) v2 v3 (2 : Int32)) = (1 : Int32) from own_L18 (own_c hv1) (own_c hv2) (own_c hv3) q_7_1 q_7_2 q_14_1 q_14_0]
      exact own_ret1 X17 hx Bd.returns (hb hby at_154) Bd.notSynchronized (by decide) (by decide) ⟨rfl, N17⟩
    · subst hw_
      refine own_go (G := T14.setTop (mkF m 118 #[.val (.int p0), .val (.int p1), .val (.int p2), .val (.int v1), .val (.int v2), .val (.int v3), .val (.int ((v1 * v2) * v3)), .val (.ref b4), .val (.int (1 : Int32)), .val (.int (0 : Int32))] [])) (fun _ k => XS.istore X14.here hx rfl (hb hby at_116) rfl (l' := #[.val (.int p0), .val (.int p1), .val (.int p2), .val (.int v1), .val (.int v2), .val (.int v3), .val (.int ((v1 * v2) * v3)), .val (.ref b4), .val (.int (1 : Int32)), .val (.int (0 : Int32))]) rfl k) ?_
      refine own_go (G := T14.setTop (mkF m 120 #[.val (.int p0), .val (.int p1), .val (.int p2), .val (.int v1), .val (.int v2), .val (.int v3), .val (.int ((v1 * v2) * v3)), .val (.ref b4), .val (.int (1 : Int32)), .val (.int (0 : Int32))] [(.int (0 : Int32))])) (fun _ k => XS.iload X14.here hx rfl (hb hby at_118) rfl k) ?_
      refine own_go (G := T14.setTop (mkF m 121 #[.val (.int p0), .val (.int p1), .val (.int p2), .val (.int v1), .val (.int v2), .val (.int v3), .val (.int ((v1 * v2) * v3)), .val (.ref b4), .val (.int (1 : Int32)), .val (.int (0 : Int32))] [(.int (2 : Int32)), (.int (0 : Int32))])) (fun _ k => XS.iconst X14.here hx rfl (hb hby at_120) k) ?_
      refine own_go (G := T14.setTop (mkF m 123 #[.val (.int p0), .val (.int p1), .val (.int p2), .val (.int v1), .val (.int v2), .val (.int v3), .val (.int ((v1 * v2) * v3)), .val (.ref b4), .val (.int (1 : Int32)), .val (.int (0 : Int32))] [(.int ((v1 * v2) * v3)), (.int (2 : Int32)), (.int (0 : Int32))])) (fun _ k => XS.iload X14.here hx rfl (hb hby at_121) rfl k) ?_
      refine own_go (G := T14.setTop (mkF m 130 #[.val (.int p0), .val (.int p1), .val (.int p2), .val (.int v1), .val (.int v2), .val (.int v3), .val (.int ((v1 * v2) * v3)), .val (.ref b4), .val (.int (1 : Int32)), .val (.int (0 : Int32))] [(.int (0 : Int32))])) (fun _ k => XS.icmpYes X14.here hx rfl (pc0 := 123) (pc' := 130) rfl (hb hby at_123) rfl (flt (own_L19 (own_c hv1) (own_c hv2) (own_c hv3) q_7_1 q_7_2 q_14_1 q_14_0 : ¬ ((2 : Int32) < ((v1 * v2) * v3)))).2.1 (by decide) (by decide) k) ?_
      refine own_go (G := T14.setTop (mkF m 131 #[.val (.int p0), .val (.int p1), .val (.int p2), .val (.int v1), .val (.int v2), .val (.int v3), .val (.int ((v1 * v2) * v3)), .val (.ref b4), .val (.int (1 : Int32)), .val (.int (0 : Int32))] [(.int (0 : Int32)), (.int (0 : Int32))])) (fun _ k => XS.iconst X14.here hx rfl (hb hby at_130) k) ?_
      refine own_go (G := T14.setTop (mkF m 136 #[.val (.int p0), .val (.int p1), .val (.int p2), .val (.int v1), .val (.int v2), .val (.int v3), .val (.int ((v1 * v2) * v3)), .val (.ref b4), .val (.int (1 : Int32)), .val (.int (0 : Int32))] [])) (fun _ k => XS.icmpYes X14.here hx rfl (pc0 := 131) (pc' := 136) rfl (hb hby at_131) rfl (teq (by decide : (0 : Int32) = (0 : Int32))).1 (by decide) (by decide) k) ?_
      refine own_go (G := T14.setTop (mkF m 138 #[.val (.int p0), .val (.int p1), .val (.int p2), .val (.int v1), .val (.int v2), .val (.int v3), .val (.int ((v1 * v2) * v3)), .val (.ref b4), .val (.int (1 : Int32)), .val (.int (0 : Int32))] [(.int (0 : Int32))])) (fun _ k => XS.iload X14.here hx rfl (hb hby at_136) rfl k) ?_
      refine own_go (G := T14.setTop (mkF m 141 #[.val (.int p0), .val (.int p1), .val (.int p2), .val (.int v1), .val (.int v2), .val (.int v3), .val (.int ((v1 * v2) * v3)), .val (.ref b4), .val (.int (1 : Int32)), .val (.int (0 : Int32))] [])) (fun _ k => XS.ifNo X14.here hx rfl (hb hby at_138) rfl ((if0 _ _).trans (teq (by decide : (0 : Int32) = (0 : Int32))).2) k) ?_
      refine own_go (G := T14.setTop (mkF m 142 #[.val (.int p0), .val (.int p1), .val (.int p2), .val (.int v1), .val (.int v2), .val (.int v3), .val (.int ((v1 * v2) * v3)), .val (.ref b4), .val (.int (1 : Int32)), .val (.int (0 : Int32))] [(.int (1 : Int32))])) (fun _ k => XS.iconst X14.here hx rfl (hb hby at_141) k) ?_
      exact own_ret1 X14 hx Bd.returns (hb hby at_142) Bd.notSynchronized (by decide) (by decide) ⟨rfl, N14⟩
  · subst hw_
    have Gn7 : own_C Z T7.heap n0 b4 (0 : Int32) (1 : Int32) ((0 : Int32) + (1 : Int32)) (0 : Int32) (0 : Int32) v1 v2 v3 := Gx
    obtain ⟨-, Eg7, -⟩ := id Gn7
    refine own_go (G := T7.setTop (mkF m 70 #[.val (.int p0), .val (.int p1), .val (.int p2), .val (.int v1), .val (.int v2), .val (.int v3), .val (.int ((v1 * v2) * v3)), .val (.ref b4), .val (.int (1 : Int32)), .unset] [])) (fun _ k => XS.istore X7.here hx rfl (hb hby at_68) rfl (l' := #[.val (.int p0), .val (.int p1), .val (.int p2), .val (.int v1), .val (.int v2), .val (.int v3), .val (.int ((v1 * v2) * v3)), .val (.ref b4), .val (.int (1 : Int32)), .unset]) rfl k) ?_
    refine own_go (G := T7.setTop (mkF m 72 #[.val (.int p0), .val (.int p1), .val (.int p2), .val (.int v1), .val (.int v2), .val (.int v3), .val (.int ((v1 * v2) * v3)), .val (.ref b4), .val (.int (1 : Int32)), .unset] [(.int (1 : Int32))])) (fun _ k => XS.iload X7.here hx rfl (hb hby at_70) rfl k) ?_
    refine own_go (G := T7.setTop (mkF m 73 #[.val (.int p0), .val (.int p1), .val (.int p2), .val (.int v1), .val (.int v2), .val (.int v3), .val (.int ((v1 * v2) * v3)), .val (.ref b4), .val (.int (1 : Int32)), .unset] [(.int (1 : Int32)), (.int (1 : Int32))])) (fun _ k => XS.iconst X7.here hx rfl (hb hby at_72) k) ?_
    refine own_go (G := T7.setTop (mkF m 75 #[.val (.int p0), .val (.int p1), .val (.int p2), .val (.int v1), .val (.int v2), .val (.int v3), .val (.int ((v1 * v2) * v3)), .val (.ref b4), .val (.int (1 : Int32)), .unset] [(.int ((v1 * v2) * v3)), (.int (1 : Int32)), (.int (1 : Int32))])) (fun _ k => XS.iload X7.here hx rfl (hb hby at_73) rfl k) ?_
    refine own_go (G := T7.setTop (mkF m 78 #[.val (.int p0), .val (.int p1), .val (.int p2), .val (.int v1), .val (.int v2), .val (.int v3), .val (.int ((v1 * v2) * v3)), .val (.ref b4), .val (.int (1 : Int32)), .unset] [(.int (1 : Int32))])) (fun _ k => XS.icmpNo X7.here hx rfl (hb hby at_75) rfl (tlt (own_L20 (own_c hv1) (own_c hv2) (own_c hv3) q_7_2 q_7_1 q_7_0 : (1 : Int32) < ((v1 * v2) * v3))).2.1 k) ?_
    refine own_go (G := T7.setTop (mkF m 79 #[.val (.int p0), .val (.int p1), .val (.int p2), .val (.int v1), .val (.int v2), .val (.int v3), .val (.int ((v1 * v2) * v3)), .val (.ref b4), .val (.int (1 : Int32)), .unset] [(.int (1 : Int32)), (.int (1 : Int32))])) (fun _ k => XS.iconst X7.here hx rfl (hb hby at_78) k) ?_
    refine own_go (G := T7.setTop (mkF m 83 #[.val (.int p0), .val (.int p1), .val (.int p2), .val (.int v1), .val (.int v2), .val (.int v3), .val (.int ((v1 * v2) * v3)), .val (.ref b4), .val (.int (1 : Int32)), .unset] [(.int (1 : Int32)), (.int (1 : Int32))])) (fun _ k => XS.goto X7.here hx rfl (pc0 := 79) (pc' := 83) rfl (hb hby at_79) (by decide) (by decide) k) ?_
    refine own_go (G := T7.setTop (mkF m 88 #[.val (.int p0), .val (.int p1), .val (.int p2), .val (.int v1), .val (.int v2), .val (.int v3), .val (.int ((v1 * v2) * v3)), .val (.ref b4), .val (.int (1 : Int32)), .unset] [])) (fun _ k => XS.icmpYes X7.here hx rfl (pc0 := 83) (pc' := 88) rfl (hb hby at_83) rfl (teq (by decide : (1 : Int32) = (1 : Int32))).1 (by decide) (by decide) k) ?_
    refine own_go (G := T7.setTop (mkF m 90 #[.val (.int p0), .val (.int p1), .val (.int p2), .val (.int v1), .val (.int v2), .val (.int v3), .val (.int ((v1 * v2) * v3)), .val (.ref b4), .val (.int (1 : Int32)), .unset] [(.int (1 : Int32))])) (fun _ k => XS.iload X7.here hx rfl (hb hby at_88) rfl k) ?_
    refine own_go (G := T7.setTop (mkF m 95 #[.val (.int p0), .val (.int p1), .val (.int p2), .val (.int v1), .val (.int v2), .val (.int v3), .val (.int ((v1 * v2) * v3)), .val (.ref b4), .val (.int (1 : Int32)), .unset] [])) (fun _ k => XS.ifYes X7.here hx rfl (pc0 := 90) (pc' := 95) rfl (hb hby at_90) rfl ((if0 _ _).trans (feq (by decide : ¬ ((1 : Int32) = (0 : Int32)))).2) (by decide) (by decide) k) ?_
    refine own_go (G := T7.setTop (mkF m 97 #[.val (.int p0), .val (.int p1), .val (.int p2), .val (.int v1), .val (.int v2), .val (.int v3), .val (.int ((v1 * v2) * v3)), .val (.ref b4), .val (.int (1 : Int32)), .unset] [(.ref b4)])) (fun _ k => XS.aload X7.here hx rfl (hb hby at_95) rfl rfl k) ?_
    refine own_go (G := T7.setTop (mkF m 98 #[.val (.int p0), .val (.int p1), .val (.int p2), .val (.int v1), .val (.int v2), .val (.int v3), .val (.int ((v1 * v2) * v3)), .val (.ref b4), .val (.int (1 : Int32)), .unset] [(.int v1), (.ref b4)])) (fun _ k => XS.iloadN X7.here hx rfl (hb hby at_97) rfl k) ?_
    refine own_go (G := T7.setTop (mkF m 100 #[.val (.int p0), .val (.int p1), .val (.int p2), .val (.int v1), .val (.int v2), .val (.int v3), .val (.int ((v1 * v2) * v3)), .val (.ref b4), .val (.int (1 : Int32)), .unset] [(.int v2), (.int v1), (.ref b4)])) (fun _ k => XS.iload X7.here hx rfl (hb hby at_98) rfl k) ?_
    refine own_go (G := T7.setTop (mkF m 102 #[.val (.int p0), .val (.int p1), .val (.int p2), .val (.int v1), .val (.int v2), .val (.int v3), .val (.int ((v1 * v2) * v3)), .val (.ref b4), .val (.int (1 : Int32)), .unset] [(.int v3), (.int v2), (.int v1), (.ref b4)])) (fun _ k => XS.iload X7.here hx rfl (hb hby at_100) rfl k) ?_
    refine own_go (G := T7.setTop (mkF m 103 #[.val (.int p0), .val (.int p1), .val (.int p2), .val (.int v1), .val (.int v2), .val (.int v3), .val (.int ((v1 * v2) * v3)), .val (.ref b4), .val (.int (1 : Int32)), .unset] [(.int (1 : Int32)), (.int v3), (.int v2), (.int v1), (.ref b4)])) (fun _ k => XS.iconst X7.here hx rfl (hb hby at_102) k) ?_
    obtain ⟨_, _, ⟨T18, L18, k18, n18⟩, -, X18, ⟨Lc18, hQ18, l18, y18, z18⟩, st18⟩ := Jvm.LawKit.callS X7 hx (y := (⟨"com/example/mave/mave/engine/ChoicesNextPinLaw", "runIs", "(Lcom/example/mave/mave/engine/Choices;IIII)Z"⟩ : MethodName)) hown (mvT hZ (hw _ (List.mem_of_getElem? (i := 15) rfl))) (mvT hZ (hw _ (List.mem_of_getElem? (i := 16) rfl))) (mvT hZ (hw _ (List.mem_of_getElem? (i := 17) rfl))) (mvT hZ (hw _ (List.mem_of_getElem? (i := 18) rfl))) (by decide) (backOf (W := 0) (run1 l Z a0 hw [] b4 v1 v2 v3 (1 : Int32) ((0 : Int32) + (1 : Int32)) (0 : Int32) (0 : Int32) v1 v2 v3 T7.heap n0 Z7 Gn7 (own_z1 (own_c hv1) (own_c hv2) (own_c hv3)) (own_z2 (own_c hv1) (own_c hv2) (own_c hv3)) (own_z3 (own_c hv1) (own_c hv2) (own_c hv3))) hZ (hw _ (List.mem_of_getElem? (i := 18) rfl)) (hw _ (List.mem_of_getElem? (i := 17) rfl)) (by decide) (by decide)) (g := (mkF m 103 #[.val (.int p0), .val (.int p1), .val (.int p2), .val (.int v1), .val (.int v2), .val (.int v3), .val (.int ((v1 * v2) * v3)), .val (.ref b4), .val (.int (1 : Int32)), .unset] [(.int (1 : Int32)), (.int v3), (.int v2), (.int v1), (.ref b4)])) rfl (by rw [hml]; rfl) (argsL := [(.ref b4), (.int v1), (.int v2), (.int v3), (.int (1 : Int32))]) (rest := []) (lenOf pd2 rfl) rfl (by show 2 * 0 + _ ≤ _; exact Nat.le_of_eq rfl) (hb hby at_103) (fun _ _ => ⟨rfl, rfl, (by decide : 3 + 0 ≤ _), (by decide : 20 + 0 ≤ _)⟩)
    dsimp only [Pt.U, Pt.locs, Pt.cells, Pt.slots] at X18 l18 y18 z18 st18 hQ18
    subst l18 y18 z18
    obtain ⟨rfl, Nq18, Z18, Gq18⟩ := hQ18
    have N18 := Fr.app N7 Nq18
    have Gn18 : own_C Z T18.heap n0 b4 (3 : Int32) (1 : Int32) ((0 : Int32) + (1 : Int32)) (0 : Int32) (0 : Int32) v1 v2 v3 := Gq18
    obtain ⟨-, Eg18, -⟩ := id Gn18
    refine own_go (G := T18.setTop (mkF m 106 #[.val (.int p0), .val (.int p1), .val (.int p2), .val (.int v1), .val (.int v2), .val (.int v3), .val (.int ((v1 * v2) * v3)), .val (.ref b4), .val (.int (1 : Int32)), .unset] [(.int (own_R ((0 : Int32) + (1 : Int32)) (0 : Int32) (0 : Int32) v2 v3 (1 : Int32)))])) (st18) ?_
    refine own_go (G := T18.setTop (mkF m 111 #[.val (.int p0), .val (.int p1), .val (.int p2), .val (.int v1), .val (.int v2), .val (.int v3), .val (.int ((v1 * v2) * v3)), .val (.ref b4), .val (.int (1 : Int32)), .unset] [])) (fun _ k => XS.ifYes X18.here hx rfl (pc0 := 106) (pc' := 111) rfl (hb hby at_106) rfl ((if0 _ _).trans (feq (own_L21 (own_c hv1) (own_c hv2) (own_c hv3) q_7_2 q_7_1 q_7_0 : ¬ ((own_R ((0 : Int32) + (1 : Int32)) (0 : Int32) (0 : Int32) v2 v3 (1 : Int32)) = (0 : Int32)))).2) (by decide) (by decide) k) ?_
    refine own_go (G := T18.setTop (mkF m 113 #[.val (.int p0), .val (.int p1), .val (.int p2), .val (.int v1), .val (.int v2), .val (.int v3), .val (.int ((v1 * v2) * v3)), .val (.ref b4), .val (.int (1 : Int32)), .unset] [(.ref b4)])) (fun _ k => XS.aload X18.here hx rfl (hb hby at_111) rfl rfl k) ?_
    obtain ⟨cq19, kq19, qk19a, qk19b, qk19c⟩ := isOf hZ rfl Eg18
    obtain ⟨_, _, ⟨T19, L19, k19, n19⟩, -, X19, ⟨Lc19, hQ19, l19, y19, z19⟩, st19⟩ := X18.virtualBack hx (y := (⟨"com/example/mave/mave/engine/Choices", "next", "()Z"⟩ : MethodName)) (z := (⟨"com/example/mave/mave/engine/Choices", "next", "()Z"⟩ : MethodName)) hown (mvT hZ (hw _ (List.mem_of_getElem? (i := 28) rfl))) (mvT hZ (hw _ (List.mem_of_getElem? (i := 29) rfl))) (notFace_of_selects (args := #[]) (mvT hZ (hw _ (List.mem_of_getElem? (i := 31) rfl)))) (mvT hZ (hw _ (List.mem_of_getElem? (i := 31) rfl))) (mvT hZ (hw _ (List.mem_of_getElem? (i := 30) rfl))) (by decide) (backOf (W := 0) (rm5 l Z a0 hw [] b4 (1 : Int32) ((0 : Int32) + (1 : Int32)) (0 : Int32) (0 : Int32) v1 v2 v3 T18.heap n0 Z18 Gn18) hZ (hw _ (List.mem_of_getElem? (i := 32) rfl)) (hw _ (List.mem_of_getElem? (i := 3) rfl)) (by decide) (by decide)) qk19a qk19c (g := (mkF m 113 #[.val (.int p0), .val (.int p1), .val (.int p2), .val (.int v1), .val (.int v2), .val (.int v3), .val (.int ((v1 * v2) * v3)), .val (.ref b4), .val (.int (1 : Int32)), .unset] [(.ref b4)])) rfl (by rw [hml]; rfl) (Steps.refl _) (argsL := []) (rest := []) (lenOf pd3 rfl) rfl (by show 2 * 0 + _ ≤ _; exact Nat.le_of_eq rfl) (hb hby at_113) (fun _ _ => ⟨rfl, rfl, (by decide : 3 + 0 ≤ _), (by decide : 20 + 0 ≤ _)⟩)
    dsimp only [Pt.U, Pt.locs, Pt.cells, Pt.slots] at X19 l19 y19 z19 st19 hQ19
    subst l19 y19 z19
    obtain ⟨w19, rfl, Nq19, Z19, hD19⟩ := hQ19
    have N19 := Fr.app N18 Nq19
    refine own_go (G := T19.setTop (mkF m 116 #[.val (.int p0), .val (.int p1), .val (.int p2), .val (.int v1), .val (.int v2), .val (.int v3), .val (.int ((v1 * v2) * v3)), .val (.ref b4), .val (.int (1 : Int32)), .unset] [(.int w19)])) (fun _ k => st19.trans k) ?_
    rcases hD19 with ⟨hw_, q_19_2, Gx⟩ | ⟨hw_, q_19_2, q_19_1, Gx⟩ | ⟨hw_, q_19_2, q_19_1, q_19_0, Gx⟩ | ⟨hw_, q_19_2, q_19_1, q_19_0⟩
    · subst hw_
      have Gn19 : own_C Z T19.heap n0 b4 (0 : Int32) (3 : Int32) ((0 : Int32) + (1 : Int32)) (0 : Int32) ((0 : Int32) + (1 : Int32)) v1 v2 v3 := Gx
      obtain ⟨-, Eg19, -⟩ := id Gn19
      refine own_go (G := T19.setTop (mkF m 118 #[.val (.int p0), .val (.int p1), .val (.int p2), .val (.int v1), .val (.int v2), .val (.int v3), .val (.int ((v1 * v2) * v3)), .val (.ref b4), .val (.int (1 : Int32)), .val (.int (1 : Int32))] [])) (fun _ k => XS.istore X19.here hx rfl (hb hby at_116) rfl (l' := #[.val (.int p0), .val (.int p1), .val (.int p2), .val (.int v1), .val (.int v2), .val (.int v3), .val (.int ((v1 * v2) * v3)), .val (.ref b4), .val (.int (1 : Int32)), .val (.int (1 : Int32))]) rfl k) ?_
      refine own_go (G := T19.setTop (mkF m 120 #[.val (.int p0), .val (.int p1), .val (.int p2), .val (.int v1), .val (.int v2), .val (.int v3), .val (.int ((v1 * v2) * v3)), .val (.ref b4), .val (.int (1 : Int32)), .val (.int (1 : Int32))] [(.int (1 : Int32))])) (fun _ k => XS.iload X19.here hx rfl (hb hby at_118) rfl k) ?_
      refine own_go (G := T19.setTop (mkF m 121 #[.val (.int p0), .val (.int p1), .val (.int p2), .val (.int v1), .val (.int v2), .val (.int v3), .val (.int ((v1 * v2) * v3)), .val (.ref b4), .val (.int (1 : Int32)), .val (.int (1 : Int32))] [(.int (2 : Int32)), (.int (1 : Int32))])) (fun _ k => XS.iconst X19.here hx rfl (hb hby at_120) k) ?_
      refine own_go (G := T19.setTop (mkF m 123 #[.val (.int p0), .val (.int p1), .val (.int p2), .val (.int v1), .val (.int v2), .val (.int v3), .val (.int ((v1 * v2) * v3)), .val (.ref b4), .val (.int (1 : Int32)), .val (.int (1 : Int32))] [(.int ((v1 * v2) * v3)), (.int (2 : Int32)), (.int (1 : Int32))])) (fun _ k => XS.iload X19.here hx rfl (hb hby at_121) rfl k) ?_
      refine own_go (G := T19.setTop (mkF m 126 #[.val (.int p0), .val (.int p1), .val (.int p2), .val (.int v1), .val (.int v2), .val (.int v3), .val (.int ((v1 * v2) * v3)), .val (.ref b4), .val (.int (1 : Int32)), .val (.int (1 : Int32))] [(.int (1 : Int32))])) (fun _ k => XS.icmpNo X19.here hx rfl (hb hby at_123) rfl (tlt (own_L22 (own_c hv1) (own_c hv2) (own_c hv3) q_7_2 q_7_1 q_7_0 q_19_2 : (2 : Int32) < ((v1 * v2) * v3))).2.1 k) ?_
      refine own_go (G := T19.setTop (mkF m 127 #[.val (.int p0), .val (.int p1), .val (.int p2), .val (.int v1), .val (.int v2), .val (.int v3), .val (.int ((v1 * v2) * v3)), .val (.ref b4), .val (.int (1 : Int32)), .val (.int (1 : Int32))] [(.int (1 : Int32)), (.int (1 : Int32))])) (fun _ k => XS.iconst X19.here hx rfl (hb hby at_126) k) ?_
      refine own_go (G := T19.setTop (mkF m 131 #[.val (.int p0), .val (.int p1), .val (.int p2), .val (.int v1), .val (.int v2), .val (.int v3), .val (.int ((v1 * v2) * v3)), .val (.ref b4), .val (.int (1 : Int32)), .val (.int (1 : Int32))] [(.int (1 : Int32)), (.int (1 : Int32))])) (fun _ k => XS.goto X19.here hx rfl (pc0 := 127) (pc' := 131) rfl (hb hby at_127) (by decide) (by decide) k) ?_
      refine own_go (G := T19.setTop (mkF m 136 #[.val (.int p0), .val (.int p1), .val (.int p2), .val (.int v1), .val (.int v2), .val (.int v3), .val (.int ((v1 * v2) * v3)), .val (.ref b4), .val (.int (1 : Int32)), .val (.int (1 : Int32))] [])) (fun _ k => XS.icmpYes X19.here hx rfl (pc0 := 131) (pc' := 136) rfl (hb hby at_131) rfl (teq (by decide : (1 : Int32) = (1 : Int32))).1 (by decide) (by decide) k) ?_
      refine own_go (G := T19.setTop (mkF m 138 #[.val (.int p0), .val (.int p1), .val (.int p2), .val (.int v1), .val (.int v2), .val (.int v3), .val (.int ((v1 * v2) * v3)), .val (.ref b4), .val (.int (1 : Int32)), .val (.int (1 : Int32))] [(.int (1 : Int32))])) (fun _ k => XS.iload X19.here hx rfl (hb hby at_136) rfl k) ?_
      refine own_go (G := T19.setTop (mkF m 143 #[.val (.int p0), .val (.int p1), .val (.int p2), .val (.int v1), .val (.int v2), .val (.int v3), .val (.int ((v1 * v2) * v3)), .val (.ref b4), .val (.int (1 : Int32)), .val (.int (1 : Int32))] [])) (fun _ k => XS.ifYes X19.here hx rfl (pc0 := 138) (pc' := 143) rfl (hb hby at_138) rfl ((if0 _ _).trans (feq (by decide : ¬ ((1 : Int32) = (0 : Int32)))).2) (by decide) (by decide) k) ?_
      refine own_go (G := T19.setTop (mkF m 145 #[.val (.int p0), .val (.int p1), .val (.int p2), .val (.int v1), .val (.int v2), .val (.int v3), .val (.int ((v1 * v2) * v3)), .val (.ref b4), .val (.int (1 : Int32)), .val (.int (1 : Int32))] [(.ref b4)])) (fun _ k => XS.aload X19.here hx rfl (hb hby at_143) rfl rfl k) ?_
      refine own_go (G := T19.setTop (mkF m 146 #[.val (.int p0), .val (.int p1), .val (.int p2), .val (.int v1), .val (.int v2), .val (.int v3), .val (.int ((v1 * v2) * v3)), .val (.ref b4), .val (.int (1 : Int32)), .val (.int (1 : Int32))] [(.int v1), (.ref b4)])) (fun _ k => XS.iloadN X19.here hx rfl (hb hby at_145) rfl k) ?_
      refine own_go (G := T19.setTop (mkF m 148 #[.val (.int p0), .val (.int p1), .val (.int p2), .val (.int v1), .val (.int v2), .val (.int v3), .val (.int ((v1 * v2) * v3)), .val (.ref b4), .val (.int (1 : Int32)), .val (.int (1 : Int32))] [(.int v2), (.int v1), (.ref b4)])) (fun _ k => XS.iload X19.here hx rfl (hb hby at_146) rfl k) ?_
      refine own_go (G := T19.setTop (mkF m 150 #[.val (.int p0), .val (.int p1), .val (.int p2), .val (.int v1), .val (.int v2), .val (.int v3), .val (.int ((v1 * v2) * v3)), .val (.ref b4), .val (.int (1 : Int32)), .val (.int (1 : Int32))] [(.int v3), (.int v2), (.int v1), (.ref b4)])) (fun _ k => XS.iload X19.here hx rfl (hb hby at_148) rfl k) ?_
      refine own_go (G := T19.setTop (mkF m 151 #[.val (.int p0), .val (.int p1), .val (.int p2), .val (.int v1), .val (.int v2), .val (.int v3), .val (.int ((v1 * v2) * v3)), .val (.ref b4), .val (.int (1 : Int32)), .val (.int (1 : Int32))] [(.int (2 : Int32)), (.int v3), (.int v2), (.int v1), (.ref b4)])) (fun _ k => XS.iconst X19.here hx rfl (hb hby at_150) k) ?_
      obtain ⟨_, _, ⟨T20, L20, k20, n20⟩, -, X20, ⟨Lc20, hQ20, l20, y20, z20⟩, st20⟩ := Jvm.LawKit.callS X19 hx (y := (⟨"com/example/mave/mave/engine/ChoicesNextPinLaw", "runIs", "(Lcom/example/mave/mave/engine/Choices;IIII)Z"⟩ : MethodName)) hown (mvT hZ (hw _ (List.mem_of_getElem? (i := 15) rfl))) (mvT hZ (hw _ (List.mem_of_getElem? (i := 16) rfl))) (mvT hZ (hw _ (List.mem_of_getElem? (i := 17) rfl))) (mvT hZ (hw _ (List.mem_of_getElem? (i := 18) rfl))) (by decide) (backOf (W := 0) (run3 l Z a0 hw [] b4 v1 v2 v3 (2 : Int32) ((0 : Int32) + (1 : Int32)) (0 : Int32) ((0 : Int32) + (1 : Int32)) v1 v2 v3 T19.heap n0 Z19 Gn19 (own_z1 (own_c hv1) (own_c hv2) (own_c hv3)) (own_z2 (own_c hv1) (own_c hv2) (own_c hv3)) (own_z3 (own_c hv1) (own_c hv2) (own_c hv3))) hZ (hw _ (List.mem_of_getElem? (i := 18) rfl)) (hw _ (List.mem_of_getElem? (i := 17) rfl)) (by decide) (by decide)) (g := (mkF m 151 #[.val (.int p0), .val (.int p1), .val (.int p2), .val (.int v1), .val (.int v2), .val (.int v3), .val (.int ((v1 * v2) * v3)), .val (.ref b4), .val (.int (1 : Int32)), .val (.int (1 : Int32))] [(.int (2 : Int32)), (.int v3), (.int v2), (.int v1), (.ref b4)])) rfl (by rw [hml]; rfl) (argsL := [(.ref b4), (.int v1), (.int v2), (.int v3), (.int (2 : Int32))]) (rest := []) (lenOf pd2 rfl) rfl (by show 2 * 0 + _ ≤ _; exact Nat.le_of_eq rfl) (hb hby at_151) (fun _ _ => ⟨rfl, rfl, (by decide : 3 + 0 ≤ _), (by decide : 20 + 0 ≤ _)⟩)
      dsimp only [Pt.U, Pt.locs, Pt.cells, Pt.slots] at X20 l20 y20 z20 st20 hQ20
      subst l20 y20 z20
      obtain ⟨rfl, Nq20, Z20, Gq20⟩ := hQ20
      have N20 := Fr.app N19 Nq20
      have Gn20 : own_C Z T20.heap n0 b4 (3 : Int32) (3 : Int32) ((0 : Int32) + (1 : Int32)) (0 : Int32) ((0 : Int32) + (1 : Int32)) v1 v2 v3 := Gq20
      obtain ⟨-, Eg20, -⟩ := id Gn20
      refine own_go (G := T20.setTop (mkF m 154 #[.val (.int p0), .val (.int p1), .val (.int p2), .val (.int v1), .val (.int v2), .val (.int v3), .val (.int ((v1 * v2) * v3)), .val (.ref b4), .val (.int (1 : Int32)), .val (.int (1 : Int32))] [(.int (own_R ((0 : Int32) + (1 : Int32)) (0 : Int32) ((0 : Int32) + (1 : Int32)) v2 v3 (2 : Int32)))])) (st20) ?_
      rw [show (own_R ((0 : Int32) + (1 : Int32)) (0 : Int32) ((0 : Int32) + (1 : Int32)) v2 v3 (2 : Int32)) = (1 : Int32) from own_L23 (own_c hv1) (own_c hv2) (own_c hv3) q_7_2 q_7_1 q_7_0 q_19_2]
      exact own_ret1 X20 hx Bd.returns (hb hby at_154) Bd.notSynchronized (by decide) (by decide) ⟨rfl, N20⟩
    · subst hw_
      have Gn19 : own_C Z T19.heap n0 b4 (0 : Int32) (2 : Int32) ((0 : Int32) + (1 : Int32)) ((0 : Int32) + (1 : Int32)) (0 : Int32) v1 v2 v3 := Gx
      obtain ⟨-, Eg19, -⟩ := id Gn19
      refine own_go (G := T19.setTop (mkF m 118 #[.val (.int p0), .val (.int p1), .val (.int p2), .val (.int v1), .val (.int v2), .val (.int v3), .val (.int ((v1 * v2) * v3)), .val (.ref b4), .val (.int (1 : Int32)), .val (.int (1 : Int32))] [])) (fun _ k => XS.istore X19.here hx rfl (hb hby at_116) rfl (l' := #[.val (.int p0), .val (.int p1), .val (.int p2), .val (.int v1), .val (.int v2), .val (.int v3), .val (.int ((v1 * v2) * v3)), .val (.ref b4), .val (.int (1 : Int32)), .val (.int (1 : Int32))]) rfl k) ?_
      refine own_go (G := T19.setTop (mkF m 120 #[.val (.int p0), .val (.int p1), .val (.int p2), .val (.int v1), .val (.int v2), .val (.int v3), .val (.int ((v1 * v2) * v3)), .val (.ref b4), .val (.int (1 : Int32)), .val (.int (1 : Int32))] [(.int (1 : Int32))])) (fun _ k => XS.iload X19.here hx rfl (hb hby at_118) rfl k) ?_
      refine own_go (G := T19.setTop (mkF m 121 #[.val (.int p0), .val (.int p1), .val (.int p2), .val (.int v1), .val (.int v2), .val (.int v3), .val (.int ((v1 * v2) * v3)), .val (.ref b4), .val (.int (1 : Int32)), .val (.int (1 : Int32))] [(.int (2 : Int32)), (.int (1 : Int32))])) (fun _ k => XS.iconst X19.here hx rfl (hb hby at_120) k) ?_
      refine own_go (G := T19.setTop (mkF m 123 #[.val (.int p0), .val (.int p1), .val (.int p2), .val (.int v1), .val (.int v2), .val (.int v3), .val (.int ((v1 * v2) * v3)), .val (.ref b4), .val (.int (1 : Int32)), .val (.int (1 : Int32))] [(.int ((v1 * v2) * v3)), (.int (2 : Int32)), (.int (1 : Int32))])) (fun _ k => XS.iload X19.here hx rfl (hb hby at_121) rfl k) ?_
      refine own_go (G := T19.setTop (mkF m 126 #[.val (.int p0), .val (.int p1), .val (.int p2), .val (.int v1), .val (.int v2), .val (.int v3), .val (.int ((v1 * v2) * v3)), .val (.ref b4), .val (.int (1 : Int32)), .val (.int (1 : Int32))] [(.int (1 : Int32))])) (fun _ k => XS.icmpNo X19.here hx rfl (hb hby at_123) rfl (tlt (own_L24 (own_c hv1) (own_c hv2) (own_c hv3) q_7_1 q_7_0 q_7_2 q_19_1 : (2 : Int32) < ((v1 * v2) * v3))).2.1 k) ?_
      refine own_go (G := T19.setTop (mkF m 127 #[.val (.int p0), .val (.int p1), .val (.int p2), .val (.int v1), .val (.int v2), .val (.int v3), .val (.int ((v1 * v2) * v3)), .val (.ref b4), .val (.int (1 : Int32)), .val (.int (1 : Int32))] [(.int (1 : Int32)), (.int (1 : Int32))])) (fun _ k => XS.iconst X19.here hx rfl (hb hby at_126) k) ?_
      refine own_go (G := T19.setTop (mkF m 131 #[.val (.int p0), .val (.int p1), .val (.int p2), .val (.int v1), .val (.int v2), .val (.int v3), .val (.int ((v1 * v2) * v3)), .val (.ref b4), .val (.int (1 : Int32)), .val (.int (1 : Int32))] [(.int (1 : Int32)), (.int (1 : Int32))])) (fun _ k => XS.goto X19.here hx rfl (pc0 := 127) (pc' := 131) rfl (hb hby at_127) (by decide) (by decide) k) ?_
      refine own_go (G := T19.setTop (mkF m 136 #[.val (.int p0), .val (.int p1), .val (.int p2), .val (.int v1), .val (.int v2), .val (.int v3), .val (.int ((v1 * v2) * v3)), .val (.ref b4), .val (.int (1 : Int32)), .val (.int (1 : Int32))] [])) (fun _ k => XS.icmpYes X19.here hx rfl (pc0 := 131) (pc' := 136) rfl (hb hby at_131) rfl (teq (by decide : (1 : Int32) = (1 : Int32))).1 (by decide) (by decide) k) ?_
      refine own_go (G := T19.setTop (mkF m 138 #[.val (.int p0), .val (.int p1), .val (.int p2), .val (.int v1), .val (.int v2), .val (.int v3), .val (.int ((v1 * v2) * v3)), .val (.ref b4), .val (.int (1 : Int32)), .val (.int (1 : Int32))] [(.int (1 : Int32))])) (fun _ k => XS.iload X19.here hx rfl (hb hby at_136) rfl k) ?_
      refine own_go (G := T19.setTop (mkF m 143 #[.val (.int p0), .val (.int p1), .val (.int p2), .val (.int v1), .val (.int v2), .val (.int v3), .val (.int ((v1 * v2) * v3)), .val (.ref b4), .val (.int (1 : Int32)), .val (.int (1 : Int32))] [])) (fun _ k => XS.ifYes X19.here hx rfl (pc0 := 138) (pc' := 143) rfl (hb hby at_138) rfl ((if0 _ _).trans (feq (by decide : ¬ ((1 : Int32) = (0 : Int32)))).2) (by decide) (by decide) k) ?_
      refine own_go (G := T19.setTop (mkF m 145 #[.val (.int p0), .val (.int p1), .val (.int p2), .val (.int v1), .val (.int v2), .val (.int v3), .val (.int ((v1 * v2) * v3)), .val (.ref b4), .val (.int (1 : Int32)), .val (.int (1 : Int32))] [(.ref b4)])) (fun _ k => XS.aload X19.here hx rfl (hb hby at_143) rfl rfl k) ?_
      refine own_go (G := T19.setTop (mkF m 146 #[.val (.int p0), .val (.int p1), .val (.int p2), .val (.int v1), .val (.int v2), .val (.int v3), .val (.int ((v1 * v2) * v3)), .val (.ref b4), .val (.int (1 : Int32)), .val (.int (1 : Int32))] [(.int v1), (.ref b4)])) (fun _ k => XS.iloadN X19.here hx rfl (hb hby at_145) rfl k) ?_
      refine own_go (G := T19.setTop (mkF m 148 #[.val (.int p0), .val (.int p1), .val (.int p2), .val (.int v1), .val (.int v2), .val (.int v3), .val (.int ((v1 * v2) * v3)), .val (.ref b4), .val (.int (1 : Int32)), .val (.int (1 : Int32))] [(.int v2), (.int v1), (.ref b4)])) (fun _ k => XS.iload X19.here hx rfl (hb hby at_146) rfl k) ?_
      refine own_go (G := T19.setTop (mkF m 150 #[.val (.int p0), .val (.int p1), .val (.int p2), .val (.int v1), .val (.int v2), .val (.int v3), .val (.int ((v1 * v2) * v3)), .val (.ref b4), .val (.int (1 : Int32)), .val (.int (1 : Int32))] [(.int v3), (.int v2), (.int v1), (.ref b4)])) (fun _ k => XS.iload X19.here hx rfl (hb hby at_148) rfl k) ?_
      refine own_go (G := T19.setTop (mkF m 151 #[.val (.int p0), .val (.int p1), .val (.int p2), .val (.int v1), .val (.int v2), .val (.int v3), .val (.int ((v1 * v2) * v3)), .val (.ref b4), .val (.int (1 : Int32)), .val (.int (1 : Int32))] [(.int (2 : Int32)), (.int v3), (.int v2), (.int v1), (.ref b4)])) (fun _ k => XS.iconst X19.here hx rfl (hb hby at_150) k) ?_
      obtain ⟨_, _, ⟨T21, L21, k21, n21⟩, -, X21, ⟨Lc21, hQ21, l21, y21, z21⟩, st21⟩ := Jvm.LawKit.callS X19 hx (y := (⟨"com/example/mave/mave/engine/ChoicesNextPinLaw", "runIs", "(Lcom/example/mave/mave/engine/Choices;IIII)Z"⟩ : MethodName)) hown (mvT hZ (hw _ (List.mem_of_getElem? (i := 15) rfl))) (mvT hZ (hw _ (List.mem_of_getElem? (i := 16) rfl))) (mvT hZ (hw _ (List.mem_of_getElem? (i := 17) rfl))) (mvT hZ (hw _ (List.mem_of_getElem? (i := 18) rfl))) (by decide) (backOf (W := 0) (run2 l Z a0 hw [] b4 v1 v2 v3 (2 : Int32) ((0 : Int32) + (1 : Int32)) ((0 : Int32) + (1 : Int32)) (0 : Int32) v1 v2 v3 T19.heap n0 Z19 Gn19 (own_z1 (own_c hv1) (own_c hv2) (own_c hv3)) (own_z2 (own_c hv1) (own_c hv2) (own_c hv3)) (own_z3 (own_c hv1) (own_c hv2) (own_c hv3))) hZ (hw _ (List.mem_of_getElem? (i := 18) rfl)) (hw _ (List.mem_of_getElem? (i := 17) rfl)) (by decide) (by decide)) (g := (mkF m 151 #[.val (.int p0), .val (.int p1), .val (.int p2), .val (.int v1), .val (.int v2), .val (.int v3), .val (.int ((v1 * v2) * v3)), .val (.ref b4), .val (.int (1 : Int32)), .val (.int (1 : Int32))] [(.int (2 : Int32)), (.int v3), (.int v2), (.int v1), (.ref b4)])) rfl (by rw [hml]; rfl) (argsL := [(.ref b4), (.int v1), (.int v2), (.int v3), (.int (2 : Int32))]) (rest := []) (lenOf pd2 rfl) rfl (by show 2 * 0 + _ ≤ _; exact Nat.le_of_eq rfl) (hb hby at_151) (fun _ _ => ⟨rfl, rfl, (by decide : 3 + 0 ≤ _), (by decide : 20 + 0 ≤ _)⟩)
      dsimp only [Pt.U, Pt.locs, Pt.cells, Pt.slots] at X21 l21 y21 z21 st21 hQ21
      subst l21 y21 z21
      obtain ⟨rfl, Nq21, Z21, Gq21⟩ := hQ21
      have N21 := Fr.app N19 Nq21
      have Gn21 : own_C Z T21.heap n0 b4 (3 : Int32) (2 : Int32) ((0 : Int32) + (1 : Int32)) ((0 : Int32) + (1 : Int32)) (0 : Int32) v1 v2 v3 := Gq21
      obtain ⟨-, Eg21, -⟩ := id Gn21
      refine own_go (G := T21.setTop (mkF m 154 #[.val (.int p0), .val (.int p1), .val (.int p2), .val (.int v1), .val (.int v2), .val (.int v3), .val (.int ((v1 * v2) * v3)), .val (.ref b4), .val (.int (1 : Int32)), .val (.int (1 : Int32))] [(.int (own_R ((0 : Int32) + (1 : Int32)) ((0 : Int32) + (1 : Int32)) (0 : Int32) v2 v3 (2 : Int32)))])) (st21) ?_
      rw [show (own_R ((0 : Int32) + (1 : Int32)) ((0 : Int32) + (1 : Int32)) (0 : Int32) v2 v3 (2 : Int32)) = (1 : Int32) from own_L25 (own_c hv1) (own_c hv2) (own_c hv3) q_7_1 q_7_0 q_7_2 q_19_1]
      exact own_ret1 X21 hx Bd.returns (hb hby at_154) Bd.notSynchronized (by decide) (by decide) ⟨rfl, N21⟩
    · subst hw_
      have Gn19 : own_C Z T19.heap n0 b4 (0 : Int32) (1 : Int32) (((0 : Int32) + (1 : Int32)) + (1 : Int32)) (0 : Int32) (0 : Int32) v1 v2 v3 := Gx
      obtain ⟨-, Eg19, -⟩ := id Gn19
      refine own_go (G := T19.setTop (mkF m 118 #[.val (.int p0), .val (.int p1), .val (.int p2), .val (.int v1), .val (.int v2), .val (.int v3), .val (.int ((v1 * v2) * v3)), .val (.ref b4), .val (.int (1 : Int32)), .val (.int (1 : Int32))] [])) (fun _ k => XS.istore X19.here hx rfl (hb hby at_116) rfl (l' := #[.val (.int p0), .val (.int p1), .val (.int p2), .val (.int v1), .val (.int v2), .val (.int v3), .val (.int ((v1 * v2) * v3)), .val (.ref b4), .val (.int (1 : Int32)), .val (.int (1 : Int32))]) rfl k) ?_
      refine own_go (G := T19.setTop (mkF m 120 #[.val (.int p0), .val (.int p1), .val (.int p2), .val (.int v1), .val (.int v2), .val (.int v3), .val (.int ((v1 * v2) * v3)), .val (.ref b4), .val (.int (1 : Int32)), .val (.int (1 : Int32))] [(.int (1 : Int32))])) (fun _ k => XS.iload X19.here hx rfl (hb hby at_118) rfl k) ?_
      refine own_go (G := T19.setTop (mkF m 121 #[.val (.int p0), .val (.int p1), .val (.int p2), .val (.int v1), .val (.int v2), .val (.int v3), .val (.int ((v1 * v2) * v3)), .val (.ref b4), .val (.int (1 : Int32)), .val (.int (1 : Int32))] [(.int (2 : Int32)), (.int (1 : Int32))])) (fun _ k => XS.iconst X19.here hx rfl (hb hby at_120) k) ?_
      refine own_go (G := T19.setTop (mkF m 123 #[.val (.int p0), .val (.int p1), .val (.int p2), .val (.int v1), .val (.int v2), .val (.int v3), .val (.int ((v1 * v2) * v3)), .val (.ref b4), .val (.int (1 : Int32)), .val (.int (1 : Int32))] [(.int ((v1 * v2) * v3)), (.int (2 : Int32)), (.int (1 : Int32))])) (fun _ k => XS.iload X19.here hx rfl (hb hby at_121) rfl k) ?_
      refine own_go (G := T19.setTop (mkF m 126 #[.val (.int p0), .val (.int p1), .val (.int p2), .val (.int v1), .val (.int v2), .val (.int v3), .val (.int ((v1 * v2) * v3)), .val (.ref b4), .val (.int (1 : Int32)), .val (.int (1 : Int32))] [(.int (1 : Int32))])) (fun _ k => XS.icmpNo X19.here hx rfl (hb hby at_123) rfl (tlt (own_L26 (own_c hv1) (own_c hv2) (own_c hv3) q_7_0 q_7_2 q_7_1 q_19_0 : (2 : Int32) < ((v1 * v2) * v3))).2.1 k) ?_
      refine own_go (G := T19.setTop (mkF m 127 #[.val (.int p0), .val (.int p1), .val (.int p2), .val (.int v1), .val (.int v2), .val (.int v3), .val (.int ((v1 * v2) * v3)), .val (.ref b4), .val (.int (1 : Int32)), .val (.int (1 : Int32))] [(.int (1 : Int32)), (.int (1 : Int32))])) (fun _ k => XS.iconst X19.here hx rfl (hb hby at_126) k) ?_
      refine own_go (G := T19.setTop (mkF m 131 #[.val (.int p0), .val (.int p1), .val (.int p2), .val (.int v1), .val (.int v2), .val (.int v3), .val (.int ((v1 * v2) * v3)), .val (.ref b4), .val (.int (1 : Int32)), .val (.int (1 : Int32))] [(.int (1 : Int32)), (.int (1 : Int32))])) (fun _ k => XS.goto X19.here hx rfl (pc0 := 127) (pc' := 131) rfl (hb hby at_127) (by decide) (by decide) k) ?_
      refine own_go (G := T19.setTop (mkF m 136 #[.val (.int p0), .val (.int p1), .val (.int p2), .val (.int v1), .val (.int v2), .val (.int v3), .val (.int ((v1 * v2) * v3)), .val (.ref b4), .val (.int (1 : Int32)), .val (.int (1 : Int32))] [])) (fun _ k => XS.icmpYes X19.here hx rfl (pc0 := 131) (pc' := 136) rfl (hb hby at_131) rfl (teq (by decide : (1 : Int32) = (1 : Int32))).1 (by decide) (by decide) k) ?_
      refine own_go (G := T19.setTop (mkF m 138 #[.val (.int p0), .val (.int p1), .val (.int p2), .val (.int v1), .val (.int v2), .val (.int v3), .val (.int ((v1 * v2) * v3)), .val (.ref b4), .val (.int (1 : Int32)), .val (.int (1 : Int32))] [(.int (1 : Int32))])) (fun _ k => XS.iload X19.here hx rfl (hb hby at_136) rfl k) ?_
      refine own_go (G := T19.setTop (mkF m 143 #[.val (.int p0), .val (.int p1), .val (.int p2), .val (.int v1), .val (.int v2), .val (.int v3), .val (.int ((v1 * v2) * v3)), .val (.ref b4), .val (.int (1 : Int32)), .val (.int (1 : Int32))] [])) (fun _ k => XS.ifYes X19.here hx rfl (pc0 := 138) (pc' := 143) rfl (hb hby at_138) rfl ((if0 _ _).trans (feq (by decide : ¬ ((1 : Int32) = (0 : Int32)))).2) (by decide) (by decide) k) ?_
      refine own_go (G := T19.setTop (mkF m 145 #[.val (.int p0), .val (.int p1), .val (.int p2), .val (.int v1), .val (.int v2), .val (.int v3), .val (.int ((v1 * v2) * v3)), .val (.ref b4), .val (.int (1 : Int32)), .val (.int (1 : Int32))] [(.ref b4)])) (fun _ k => XS.aload X19.here hx rfl (hb hby at_143) rfl rfl k) ?_
      refine own_go (G := T19.setTop (mkF m 146 #[.val (.int p0), .val (.int p1), .val (.int p2), .val (.int v1), .val (.int v2), .val (.int v3), .val (.int ((v1 * v2) * v3)), .val (.ref b4), .val (.int (1 : Int32)), .val (.int (1 : Int32))] [(.int v1), (.ref b4)])) (fun _ k => XS.iloadN X19.here hx rfl (hb hby at_145) rfl k) ?_
      refine own_go (G := T19.setTop (mkF m 148 #[.val (.int p0), .val (.int p1), .val (.int p2), .val (.int v1), .val (.int v2), .val (.int v3), .val (.int ((v1 * v2) * v3)), .val (.ref b4), .val (.int (1 : Int32)), .val (.int (1 : Int32))] [(.int v2), (.int v1), (.ref b4)])) (fun _ k => XS.iload X19.here hx rfl (hb hby at_146) rfl k) ?_
      refine own_go (G := T19.setTop (mkF m 150 #[.val (.int p0), .val (.int p1), .val (.int p2), .val (.int v1), .val (.int v2), .val (.int v3), .val (.int ((v1 * v2) * v3)), .val (.ref b4), .val (.int (1 : Int32)), .val (.int (1 : Int32))] [(.int v3), (.int v2), (.int v1), (.ref b4)])) (fun _ k => XS.iload X19.here hx rfl (hb hby at_148) rfl k) ?_
      refine own_go (G := T19.setTop (mkF m 151 #[.val (.int p0), .val (.int p1), .val (.int p2), .val (.int v1), .val (.int v2), .val (.int v3), .val (.int ((v1 * v2) * v3)), .val (.ref b4), .val (.int (1 : Int32)), .val (.int (1 : Int32))] [(.int (2 : Int32)), (.int v3), (.int v2), (.int v1), (.ref b4)])) (fun _ k => XS.iconst X19.here hx rfl (hb hby at_150) k) ?_
      obtain ⟨_, _, ⟨T22, L22, k22, n22⟩, -, X22, ⟨Lc22, hQ22, l22, y22, z22⟩, st22⟩ := Jvm.LawKit.callS X19 hx (y := (⟨"com/example/mave/mave/engine/ChoicesNextPinLaw", "runIs", "(Lcom/example/mave/mave/engine/Choices;IIII)Z"⟩ : MethodName)) hown (mvT hZ (hw _ (List.mem_of_getElem? (i := 15) rfl))) (mvT hZ (hw _ (List.mem_of_getElem? (i := 16) rfl))) (mvT hZ (hw _ (List.mem_of_getElem? (i := 17) rfl))) (mvT hZ (hw _ (List.mem_of_getElem? (i := 18) rfl))) (by decide) (backOf (W := 0) (run1 l Z a0 hw [] b4 v1 v2 v3 (2 : Int32) (((0 : Int32) + (1 : Int32)) + (1 : Int32)) (0 : Int32) (0 : Int32) v1 v2 v3 T19.heap n0 Z19 Gn19 (own_z1 (own_c hv1) (own_c hv2) (own_c hv3)) (own_z2 (own_c hv1) (own_c hv2) (own_c hv3)) (own_z3 (own_c hv1) (own_c hv2) (own_c hv3))) hZ (hw _ (List.mem_of_getElem? (i := 18) rfl)) (hw _ (List.mem_of_getElem? (i := 17) rfl)) (by decide) (by decide)) (g := (mkF m 151 #[.val (.int p0), .val (.int p1), .val (.int p2), .val (.int v1), .val (.int v2), .val (.int v3), .val (.int ((v1 * v2) * v3)), .val (.ref b4), .val (.int (1 : Int32)), .val (.int (1 : Int32))] [(.int (2 : Int32)), (.int v3), (.int v2), (.int v1), (.ref b4)])) rfl (by rw [hml]; rfl) (argsL := [(.ref b4), (.int v1), (.int v2), (.int v3), (.int (2 : Int32))]) (rest := []) (lenOf pd2 rfl) rfl (by show 2 * 0 + _ ≤ _; exact Nat.le_of_eq rfl) (hb hby at_151) (fun _ _ => ⟨rfl, rfl, (by decide : 3 + 0 ≤ _), (by decide : 20 + 0 ≤ _)⟩)
      dsimp only [Pt.U, Pt.locs, Pt.cells, Pt.slots] at X22 l22 y22 z22 st22 hQ22
      subst l22 y22 z22
      obtain ⟨rfl, Nq22, Z22, Gq22⟩ := hQ22
      have N22 := Fr.app N19 Nq22
      have Gn22 : own_C Z T22.heap n0 b4 (3 : Int32) (1 : Int32) (((0 : Int32) + (1 : Int32)) + (1 : Int32)) (0 : Int32) (0 : Int32) v1 v2 v3 := Gq22
      obtain ⟨-, Eg22, -⟩ := id Gn22
      refine own_go (G := T22.setTop (mkF m 154 #[.val (.int p0), .val (.int p1), .val (.int p2), .val (.int v1), .val (.int v2), .val (.int v3), .val (.int ((v1 * v2) * v3)), .val (.ref b4), .val (.int (1 : Int32)), .val (.int (1 : Int32))] [(.int (own_R (((0 : Int32) + (1 : Int32)) + (1 : Int32)) (0 : Int32) (0 : Int32) v2 v3 (2 : Int32)))])) (st22) ?_
      rw [show (own_R (((0 : Int32) + (1 : Int32)) + (1 : Int32)) (0 : Int32) (0 : Int32) v2 v3 (2 : Int32)) = (1 : Int32) from own_L27 (own_c hv1) (own_c hv2) (own_c hv3) q_7_0 q_7_2 q_7_1 q_19_0]
      exact own_ret1 X22 hx Bd.returns (hb hby at_154) Bd.notSynchronized (by decide) (by decide) ⟨rfl, N22⟩
    · subst hw_
      refine own_go (G := T19.setTop (mkF m 118 #[.val (.int p0), .val (.int p1), .val (.int p2), .val (.int v1), .val (.int v2), .val (.int v3), .val (.int ((v1 * v2) * v3)), .val (.ref b4), .val (.int (1 : Int32)), .val (.int (0 : Int32))] [])) (fun _ k => XS.istore X19.here hx rfl (hb hby at_116) rfl (l' := #[.val (.int p0), .val (.int p1), .val (.int p2), .val (.int v1), .val (.int v2), .val (.int v3), .val (.int ((v1 * v2) * v3)), .val (.ref b4), .val (.int (1 : Int32)), .val (.int (0 : Int32))]) rfl k) ?_
      refine own_go (G := T19.setTop (mkF m 120 #[.val (.int p0), .val (.int p1), .val (.int p2), .val (.int v1), .val (.int v2), .val (.int v3), .val (.int ((v1 * v2) * v3)), .val (.ref b4), .val (.int (1 : Int32)), .val (.int (0 : Int32))] [(.int (0 : Int32))])) (fun _ k => XS.iload X19.here hx rfl (hb hby at_118) rfl k) ?_
      refine own_go (G := T19.setTop (mkF m 121 #[.val (.int p0), .val (.int p1), .val (.int p2), .val (.int v1), .val (.int v2), .val (.int v3), .val (.int ((v1 * v2) * v3)), .val (.ref b4), .val (.int (1 : Int32)), .val (.int (0 : Int32))] [(.int (2 : Int32)), (.int (0 : Int32))])) (fun _ k => XS.iconst X19.here hx rfl (hb hby at_120) k) ?_
      refine own_go (G := T19.setTop (mkF m 123 #[.val (.int p0), .val (.int p1), .val (.int p2), .val (.int v1), .val (.int v2), .val (.int v3), .val (.int ((v1 * v2) * v3)), .val (.ref b4), .val (.int (1 : Int32)), .val (.int (0 : Int32))] [(.int ((v1 * v2) * v3)), (.int (2 : Int32)), (.int (0 : Int32))])) (fun _ k => XS.iload X19.here hx rfl (hb hby at_121) rfl k) ?_
      refine own_go (G := T19.setTop (mkF m 130 #[.val (.int p0), .val (.int p1), .val (.int p2), .val (.int v1), .val (.int v2), .val (.int v3), .val (.int ((v1 * v2) * v3)), .val (.ref b4), .val (.int (1 : Int32)), .val (.int (0 : Int32))] [(.int (0 : Int32))])) (fun _ k => XS.icmpYes X19.here hx rfl (pc0 := 123) (pc' := 130) rfl (hb hby at_123) rfl (flt (own_L28 (own_c hv1) (own_c hv2) (own_c hv3) q_7_0 q_7_2 q_7_1 q_19_0 : ¬ ((2 : Int32) < ((v1 * v2) * v3)))).2.1 (by decide) (by decide) k) ?_
      refine own_go (G := T19.setTop (mkF m 131 #[.val (.int p0), .val (.int p1), .val (.int p2), .val (.int v1), .val (.int v2), .val (.int v3), .val (.int ((v1 * v2) * v3)), .val (.ref b4), .val (.int (1 : Int32)), .val (.int (0 : Int32))] [(.int (0 : Int32)), (.int (0 : Int32))])) (fun _ k => XS.iconst X19.here hx rfl (hb hby at_130) k) ?_
      refine own_go (G := T19.setTop (mkF m 136 #[.val (.int p0), .val (.int p1), .val (.int p2), .val (.int v1), .val (.int v2), .val (.int v3), .val (.int ((v1 * v2) * v3)), .val (.ref b4), .val (.int (1 : Int32)), .val (.int (0 : Int32))] [])) (fun _ k => XS.icmpYes X19.here hx rfl (pc0 := 131) (pc' := 136) rfl (hb hby at_131) rfl (teq (by decide : (0 : Int32) = (0 : Int32))).1 (by decide) (by decide) k) ?_
      refine own_go (G := T19.setTop (mkF m 138 #[.val (.int p0), .val (.int p1), .val (.int p2), .val (.int v1), .val (.int v2), .val (.int v3), .val (.int ((v1 * v2) * v3)), .val (.ref b4), .val (.int (1 : Int32)), .val (.int (0 : Int32))] [(.int (0 : Int32))])) (fun _ k => XS.iload X19.here hx rfl (hb hby at_136) rfl k) ?_
      refine own_go (G := T19.setTop (mkF m 141 #[.val (.int p0), .val (.int p1), .val (.int p2), .val (.int v1), .val (.int v2), .val (.int v3), .val (.int ((v1 * v2) * v3)), .val (.ref b4), .val (.int (1 : Int32)), .val (.int (0 : Int32))] [])) (fun _ k => XS.ifNo X19.here hx rfl (hb hby at_138) rfl ((if0 _ _).trans (teq (by decide : (0 : Int32) = (0 : Int32))).2) k) ?_
      refine own_go (G := T19.setTop (mkF m 142 #[.val (.int p0), .val (.int p1), .val (.int p2), .val (.int v1), .val (.int v2), .val (.int v3), .val (.int ((v1 * v2) * v3)), .val (.ref b4), .val (.int (1 : Int32)), .val (.int (0 : Int32))] [(.int (1 : Int32))])) (fun _ k => XS.iconst X19.here hx rfl (hb hby at_141) k) ?_
      exact own_ret1 X19 hx Bd.returns (hb hby at_142) Bd.notSynchronized (by decide) (by decide) ⟨rfl, N19⟩
  · subst hw_
    refine own_go (G := T7.setTop (mkF m 70 #[.val (.int p0), .val (.int p1), .val (.int p2), .val (.int v1), .val (.int v2), .val (.int v3), .val (.int ((v1 * v2) * v3)), .val (.ref b4), .val (.int (0 : Int32)), .unset] [])) (fun _ k => XS.istore X7.here hx rfl (hb hby at_68) rfl (l' := #[.val (.int p0), .val (.int p1), .val (.int p2), .val (.int v1), .val (.int v2), .val (.int v3), .val (.int ((v1 * v2) * v3)), .val (.ref b4), .val (.int (0 : Int32)), .unset]) rfl k) ?_
    refine own_go (G := T7.setTop (mkF m 72 #[.val (.int p0), .val (.int p1), .val (.int p2), .val (.int v1), .val (.int v2), .val (.int v3), .val (.int ((v1 * v2) * v3)), .val (.ref b4), .val (.int (0 : Int32)), .unset] [(.int (0 : Int32))])) (fun _ k => XS.iload X7.here hx rfl (hb hby at_70) rfl k) ?_
    refine own_go (G := T7.setTop (mkF m 73 #[.val (.int p0), .val (.int p1), .val (.int p2), .val (.int v1), .val (.int v2), .val (.int v3), .val (.int ((v1 * v2) * v3)), .val (.ref b4), .val (.int (0 : Int32)), .unset] [(.int (1 : Int32)), (.int (0 : Int32))])) (fun _ k => XS.iconst X7.here hx rfl (hb hby at_72) k) ?_
    refine own_go (G := T7.setTop (mkF m 75 #[.val (.int p0), .val (.int p1), .val (.int p2), .val (.int v1), .val (.int v2), .val (.int v3), .val (.int ((v1 * v2) * v3)), .val (.ref b4), .val (.int (0 : Int32)), .unset] [(.int ((v1 * v2) * v3)), (.int (1 : Int32)), (.int (0 : Int32))])) (fun _ k => XS.iload X7.here hx rfl (hb hby at_73) rfl k) ?_
    refine own_go (G := T7.setTop (mkF m 82 #[.val (.int p0), .val (.int p1), .val (.int p2), .val (.int v1), .val (.int v2), .val (.int v3), .val (.int ((v1 * v2) * v3)), .val (.ref b4), .val (.int (0 : Int32)), .unset] [(.int (0 : Int32))])) (fun _ k => XS.icmpYes X7.here hx rfl (pc0 := 75) (pc' := 82) rfl (hb hby at_75) rfl (flt (own_L29 (own_c hv1) (own_c hv2) (own_c hv3) q_7_2 q_7_1 q_7_0 : ¬ ((1 : Int32) < ((v1 * v2) * v3)))).2.1 (by decide) (by decide) k) ?_
    refine own_go (G := T7.setTop (mkF m 83 #[.val (.int p0), .val (.int p1), .val (.int p2), .val (.int v1), .val (.int v2), .val (.int v3), .val (.int ((v1 * v2) * v3)), .val (.ref b4), .val (.int (0 : Int32)), .unset] [(.int (0 : Int32)), (.int (0 : Int32))])) (fun _ k => XS.iconst X7.here hx rfl (hb hby at_82) k) ?_
    refine own_go (G := T7.setTop (mkF m 88 #[.val (.int p0), .val (.int p1), .val (.int p2), .val (.int v1), .val (.int v2), .val (.int v3), .val (.int ((v1 * v2) * v3)), .val (.ref b4), .val (.int (0 : Int32)), .unset] [])) (fun _ k => XS.icmpYes X7.here hx rfl (pc0 := 83) (pc' := 88) rfl (hb hby at_83) rfl (teq (by decide : (0 : Int32) = (0 : Int32))).1 (by decide) (by decide) k) ?_
    refine own_go (G := T7.setTop (mkF m 90 #[.val (.int p0), .val (.int p1), .val (.int p2), .val (.int v1), .val (.int v2), .val (.int v3), .val (.int ((v1 * v2) * v3)), .val (.ref b4), .val (.int (0 : Int32)), .unset] [(.int (0 : Int32))])) (fun _ k => XS.iload X7.here hx rfl (hb hby at_88) rfl k) ?_
    refine own_go (G := T7.setTop (mkF m 93 #[.val (.int p0), .val (.int p1), .val (.int p2), .val (.int v1), .val (.int v2), .val (.int v3), .val (.int ((v1 * v2) * v3)), .val (.ref b4), .val (.int (0 : Int32)), .unset] [])) (fun _ k => XS.ifNo X7.here hx rfl (hb hby at_90) rfl ((if0 _ _).trans (teq (by decide : (0 : Int32) = (0 : Int32))).2) k) ?_
    refine own_go (G := T7.setTop (mkF m 94 #[.val (.int p0), .val (.int p1), .val (.int p2), .val (.int v1), .val (.int v2), .val (.int v3), .val (.int ((v1 * v2) * v3)), .val (.ref b4), .val (.int (0 : Int32)), .unset] [(.int (1 : Int32))])) (fun _ k => XS.iconst X7.here hx rfl (hb hby at_93) k) ?_
    exact own_ret1 X7 hx Bd.returns (hb hby at_94) Bd.notSynchronized (by decide) (by decide) ⟨rfl, N7⟩
set_option maxRecDepth 65536 in
set_option maxHeartbeats 40000000 in
theorem comes_1 {Post : Tables → Env → Array Value → State → Outcome → State → Prop} (hpost : ∀ tb e args s v u, (limb_1_1.after args s (.returned v) u = true ∧ limb_1_2.after args s (.returned v) u = true ∧ True) → FrameEnd s (.returned v) u (Jvm.fieldLocs frame_1_writes args s ++ Jvm.arrayLocs frame_1_arrays args s ++ Jvm.staticLocs frame_1_statics s) 16 128 → Post tb e args s (.returned v) u) :
    ArmFor flags0 classFile x code maxLocals ret World_1 tables_1 room_1 Calls_1 rest_1 Pre_1 Post := by
  intro l hfl _ _ p e ha hc hk s m args below hf hA hF happ hP
  obtain ⟨hcalls, hrest, hpre⟩ := hP
  obtain ⟨-, -, -, hnamed, -, -, -, hat⟩ := (Spec.applies_iff hf).mp happ
  obtain ⟨hg, hn⟩ := and_e (Cond.before_iff.mp (show (Jvm.Cond.and given_1 narrow_1).before args s = true from hpre))
  obtain ⟨gc, g0⟩ := and_e hg
  obtain ⟨ga0, g1⟩ := and_e g0
  obtain ⟨ga1, g2⟩ := and_e g1
  obtain ⟨w0, w1, w2, rfl⟩ : ∃ w0 w1 w2 : Value, args = #[w0, w1, w2] := by
    have hs : args.size = 3 := by simpa [Cond.value, given_1] using gc
    obtain ⟨L⟩ := args
    match L, hs with
    | [w0, w1, w2], _ => exact ⟨w0, w1, w2, rfl⟩
  have hw := fun d (hd : d ∈ tables_1) => atoms_spec (ws := Jvm.Cond.code x code maxLocals ret :: tables_1) hat d (List.mem_cons_of_mem _ hd)
  obtain ⟨i0, ei0⟩ := is_v ga0
  obtain rfl : w0 = (.int i0) := Option.some.inj ei0
  obtain ⟨i1, ei1⟩ := is_v ga1
  obtain rfl : w1 = (.int i1) := Option.some.inj ei1
  obtain ⟨i2, ei2⟩ := is_v g2
  obtain rfl : w2 = (.int i2) := Option.some.inj ei2
  obtain ⟨n, o, h1, h2, h3, _, L, rfl, ⟨rfl, N⟩, hq⟩ := rm0 l s _ hw tables_1 i0 i1 i2 s.heap s.heap.size (Nat.le_refl _) p e ha hc hk s m _ below hf ((Spec.applies_iff_loose hf).mp happ).1 ⟨rfl, State.Warmed39.refl s, rfl⟩ trivial
  refine ⟨n, _, h1, h2, h3, hpost _ _ _ _ _ _ ⟨Cond.after_iff.mpr rfl, Cond.after_iff.mpr (eq_i res_at (Term.int_eval (1)) rfl), trivial⟩ ⟨hq.1, hq.2.1, (hq.2.2.sift fun y hy => Or.inr (N y hy)).mono (by decide) (by decide)⟩⟩
theorem main_1_1 : Claimed_1_1 := comes_1 fun _ _ _ _ _ _ h hF => ⟨h.1, hF⟩
theorem main_1_2 : Claimed_1_2 := comes_1 fun _ _ _ _ _ _ h hF => ⟨h.2.1, hF⟩
end Jvm.Pilot.@@N@@
namespace Jvm.Pilot.@@N@@
open Jvm Jvm.ClassFile Sem Op Lib Jvm.Free Jvm.Stand Jvm.Pilot.@@N@@.Jvm.D
/-! MADE BY PROGRAM (witnessworld.py) out of the Statement's table words and the real class files: 9 classes; the members and pool entries that the words name. The judged class is class 1, her method 1. -/
namespace start1
open Jvm.ClassFile
def u (s : String) : CpInfo := .utf8 (stringToUtf16 s)
/-- a pool by its gaps: so many unusable entries, then the entry; so many at the end -/
def gap : Nat → List CpInfo → List CpInfo
  | 0, r => r
  | n + 1, r => .unusable :: gap n r
def poolList (es : List (Nat × CpInfo)) (last : Nat) : List CpInfo := es.foldr (fun e r => gap e.1 (e.2 :: r)) (gap last [])
def pool (es : List (Nat × CpInfo)) (last : Nat) : Array CpInfo := ⟨poolList es last⟩
def fileOf (pool : Array CpInfo) (this : Nat) (attrs : Array Attribute := #[]) (ms : Array MethodInfo := #[]) (fl : Nat := 33) (sup : Nat := 0) (ifs : Array Nat := #[]) (fds : Array FieldInfo := #[]) : ClassFile where
  minorVersion := 0
  majorVersion := 65
  constantPool := pool
  accessFlags := fl
  thisClass := this
  superClass := sup
  interfaces := ifs
  fields := fds
  methods := ms
  attributes := attrs
def plain (name : String) (sup : Option ClassId) : Class where
  name := name
  kind := .ordinary
  loader := none
  accessFlags := 33
  super := sup
  interfaces := #[]
  cf := none
  fields := #[]
  methods := #[]
  instanceTypes := #[]
  staticTypes := #[]
  resolved := #[]
  callSites := []
  init := .initialized
  statics := none
  mirror := none

def pool0 : Array CpInfo := pool [(5, u "<init>"), (0, u "()V"), (1, .class_ 10), (1, u "java/lang/Object")] 113

def k0c0 : Code := { maxStack := 0, maxLocals := 1, code := object_method_1_code, exceptionTable := #[], attributes := #[] }
def k0m0 : Method := { name := "<init>", desc := "()V", sig := { parameters := [], returnType := none }, accessFlags := 1, code := some k0c0 }
/-- java/lang/Object -/
def k0 : Class := { plain "java/lang/Object" none with
  accessFlags := 33
  interfaces := #[]
  cf := some (fileOf pool0 8 #[] #[{ accessFlags := 1, nameIndex := 5, descriptorIndex := 6, attributes := #[] }] 33 0 #[] #[])
  fields := #[]
  methods := #[k0m0]
  instanceTypes := #[]
  staticTypes := #[]
  resolved := Array.replicate 124 none
  statics := none }

def pool1 : Array CpInfo := pool [(2, .class_ 4), (0, .nameAndType 5 6), (0, u "java/lang/Object"), (0, u "<init>"), (0, u "()V"), (0, .integer 2147483647), (0, .class_ 9), (0, u "com/example/mave/mave/engine/Choices"), (0, .methodref 8 3), (0, .methodref 12 13), (0, .class_ 14), (0, .nameAndType 15 16), (0, u "com/example/mave/mave/engine/ChoicesNextPinLaw"), (0, u "runIs"), (0, u "(Lcom/example/mave/mave/engine/Choices;IIII)Z"), (0, .methodref 8 18), (0, .nameAndType 19 20), (0, u "next"), (0, u "()Z"), (0, .methodref 8 22), (0, .nameAndType 23 24), (0, u "choose"), (0, u "(I)I"), (2, u "law"), (0, u "(III)Z")] 3

def k1m0 : Method := { name := "<init>", desc := "()V", sig := { parameters := [], returnType := none }, accessFlags := 1, code := none }
def k1c1 : Code := { maxStack := 5, maxLocals := 10, code := code, exceptionTable := #[], attributes := #[] }
def k1m1 : Method := { name := "law", desc := "(III)Z", sig := { parameters := [.int, .int, .int], returnType := some .boolean }, accessFlags := 9, code := some k1c1 }
def k1c2 : Code := { maxStack := 3, maxLocals := 11, code := method_3_code, exceptionTable := #[], attributes := #[] }
def k1m2 : Method := { name := "runIs", desc := "(Lcom/example/mave/mave/engine/Choices;IIII)Z", sig := { parameters := [(.object "com/example/mave/mave/engine/Choices"), .int, .int, .int, .int], returnType := some .boolean }, accessFlags := 10, code := some k1c2 }
/-- com/example/mave/mave/engine/ChoicesNextPinLaw -/
def k1 : Class := { plain "com/example/mave/mave/engine/ChoicesNextPinLaw" (some 0) with
  accessFlags := 49
  interfaces := #[]
  cf := some (fileOf pool1 12 #[] #[{ accessFlags := 1, nameIndex := 5, descriptorIndex := 6, attributes := #[] }, { accessFlags := 9, nameIndex := 27, descriptorIndex := 28, attributes := #[] }, { accessFlags := 10, nameIndex := 15, descriptorIndex := 16, attributes := #[] }] 49 2 #[] #[])
  fields := #[]
  methods := #[k1m0, k1m1, k1m2]
  instanceTypes := #[]
  staticTypes := #[]
  resolved := Array.replicate 32 none
  statics := none }

def pool2 : Array CpInfo := pool [(1, .methodref 2 3), (0, .class_ 4), (0, .nameAndType 5 6), (0, u "java/lang/Object"), (0, u "<init>"), (0, u "()V"), (0, .fieldref 8 9), (0, .class_ 10), (0, .nameAndType 11 12), (0, u "com/example/mave/mave/engine/Choices"), (0, u "taken"), (0, u "[I"), (0, .fieldref 8 14), (0, .nameAndType 15 12), (0, u "alternatives"), (0, .fieldref 8 17), (0, .nameAndType 18 19), (0, u "made"), (0, u "I"), (0, .fieldref 8 21), (0, .nameAndType 22 19), (0, u "replayed"), (9, u "choose"), (0, u "(I)I"), (1, u "next"), (0, u "()Z")] 2

def k2c0 : Code := { maxStack := 2, maxLocals := 1, code := prog_8_method_1_code, exceptionTable := #[], attributes := #[] }
def k2m0 : Method := { name := "<init>", desc := "()V", sig := { parameters := [], returnType := none }, accessFlags := 0, code := some k2c0 }
def k2c1 : Code := { maxStack := 5, maxLocals := 2, code := prog_8_method_3_code, exceptionTable := #[], attributes := #[] }
def k2m1 : Method := { name := "choose", desc := "(I)I", sig := { parameters := [.int], returnType := some .int }, accessFlags := 0, code := some k2c1 }
def k2c2 : Code := { maxStack := 4, maxLocals := 2, code := prog_8_method_4_code, exceptionTable := #[], attributes := #[] }
def k2m2 : Method := { name := "next", desc := "()Z", sig := { parameters := [], returnType := some .boolean }, accessFlags := 0, code := some k2c2 }
/-- com/example/mave/mave/engine/Choices -/
def k2 : Class := { plain "com/example/mave/mave/engine/Choices" (some 0) with
  accessFlags := 48
  interfaces := #[]
  cf := some (fileOf pool2 8 #[] #[{ accessFlags := 0, nameIndex := 5, descriptorIndex := 6, attributes := #[] }, { accessFlags := 0, nameIndex := 32, descriptorIndex := 33, attributes := #[] }, { accessFlags := 0, nameIndex := 35, descriptorIndex := 36, attributes := #[] }] 48 2 #[] #[{ accessFlags := 2, nameIndex := 11, descriptorIndex := 12, attributes := #[] }, { accessFlags := 2, nameIndex := 15, descriptorIndex := 12, attributes := #[] }, { accessFlags := 2, nameIndex := 18, descriptorIndex := 19, attributes := #[] }, { accessFlags := 2, nameIndex := 22, descriptorIndex := 19, attributes := #[] }])
  fields := #[{ name := "taken", type := (.array .int), accessFlags := 2, slot := 0, constantValue := 0 }, { name := "alternatives", type := (.array .int), accessFlags := 2, slot := 1, constantValue := 0 }, { name := "made", type := .int, accessFlags := 2, slot := 2, constantValue := 0 }, { name := "replayed", type := .int, accessFlags := 2, slot := 3, constantValue := 0 }]
  methods := #[k2m0, k2m1, k2m2]
  instanceTypes := #[(.array .int), (.array .int), .int, .int]
  staticTypes := #[]
  resolved := Array.replicate 39 none
  statics := none }

def pool3 : Array CpInfo := pool [(1, u "java/lang/Cloneable"), (0, .class_ 1), (0, u "java/lang/Object"), (0, .class_ 3)] 3

/-- java/lang/Cloneable -/
def k3 : Class := { plain "java/lang/Cloneable" (some 0) with
  accessFlags := 1537
  interfaces := #[]
  cf := some (fileOf pool3 2 #[] #[] 1537 4 #[] #[])
  fields := #[]
  methods := #[]
  instanceTypes := #[]
  staticTypes := #[]
  resolved := Array.replicate 8 none
  statics := none }

def pool4 : Array CpInfo := pool [(1, u "java/io/Serializable"), (0, .class_ 1), (0, u "java/lang/Object"), (0, .class_ 3)] 3

/-- java/io/Serializable -/
def k4 : Class := { plain "java/io/Serializable" (some 0) with
  accessFlags := 1537
  interfaces := #[]
  cf := some (fileOf pool4 2 #[] #[] 1537 4 #[] #[])
  fields := #[]
  methods := #[]
  instanceTypes := #[]
  staticTypes := #[]
  resolved := Array.replicate 8 none
  statics := none }

/-- the primitive byte -/
def k5 : Class := { plain "byte" none with kind := .primitive 'B', accessFlags := 0x411 }
/-- [B -/
def k6 : Class := { plain "[B" (some 0) with kind := .array 5 .byte, interfaces := #[3, 4], accessFlags := 1041 }

/-- the primitive int -/
def k7 : Class := { plain "int" none with kind := .primitive 'I', accessFlags := 0x411 }
/-- [I -/
def k8 : Class := { plain "[I" (some 0) with kind := .array 7 .int, interfaces := #[3, 4], accessFlags := 1041 }

def heap : Heap := #[]
def classes : Array Class := #[k0, k1, k2, k3, k4, k5, k6, k7, k8]
def interned : List (Array UInt16 × Addr) := []
def slotsUsed : Nat := 0
def theMethod : MethodId := ⟨1, 1⟩
def args0 : Array Value := #[.int 5, .int 5, .int 5]
def aboutOver (below : List Frame) : State where
  vm := { classes := classes, interned := interned.toArray }
  heap := heap
  slotsUsed := slotsUsed
  threads := #[{ frames := .invoking theMethod args0 :: below }]
def below0 : List Frame := [.native { method := ⟨0, 0⟩, args := #[] }]
def about1 : State := aboutOver below0
def p0 : Program := .bare "" "" ""
def e0 : Env := launch0.env 0 0 0
theorem w_frames : about1.frames = Frame.invoking theMethod args0 :: below0 := rfl
set_option maxRecDepth 65536 in
theorem w_args : argsFit about1.vm theMethod args0 = true := by decide +kernel
set_option maxRecDepth 65536 in
theorem w_heap : heapFits about1 = true := by decide +kernel
set_option maxRecDepth 65536 in
theorem w_runnable : about1.curStatus? = some .runnable := by decide +kernel
set_option maxRecDepth 65536 in
theorem w_alone : about1.alone = true := by decide +kernel
set_option maxRecDepth 65536 in
theorem w_named : about1.methodNamed? x = some theMethod := by decide +kernel
set_option maxRecDepth 65536 in
theorem w_hears : about1.hears theMethod below0 = true := by decide +kernel
set_option maxRecDepth 65536 in
theorem w_ripe : about1.ripe theMethod args0 below0 = true := by decide +kernel
theorem w_running : about1.status = .running := rfl
set_option maxRecDepth 65536 in
theorem w_room : about1.hasRoom e0.platform room_1 = true :=
  launch0.hasRoom_least _ room_1 (by decide +kernel) (by decide +kernel) (by decide +kernel) (by decide +kernel) (by decide +kernel) (by decide +kernel)
theorem allAtoms_all (ts : List Jvm.Cond) (a : Array Jvm.Value) (st : Jvm.State) : (allAtoms ts).before a st = ts.all (fun c => c.before a st) := by
  induction ts with
  | nil => rfl
  | cons c t ih =>
    show (Jvm.Cond.and c (allAtoms t)).before a st = _
    rw [Jvm.Cond.before_and, ih, List.all_cons]
def words1 : List Jvm.Cond := Jvm.Cond.code x code maxLocals ret :: tables_1
/-- a 'code' word, met by the world's own term for the bytes: nothing is compared byte by byte -/
theorem code_word {y : MethodName} {bytes : ByteArray} {mx : Nat} {rt : Option FieldType} {a : Array Value} {s : State} {m : MethodId} {meth : Method} {c : Code} (h1 : s.methodNamed? y = some m) (h2 : s.vm.method? m = some meth) (h3 : meth.code = some c) (h4 : c.code = bytes)
    (h5 : (c.maxLocals == mx && c.exceptionTable.isEmpty && decide (c.maxStack ≤ mostOperands) && decide (meth.sig.returnType = rt) && !meth.locks && decide (parseMethodDescriptor y.desc = some meth.sig)) = true) : (Jvm.Cond.code y bytes mx rt).before a s = true := by
  simp only [Bool.and_eq_true, beq_iff_eq, Bool.not_eq_true', decide_eq_true_eq] at h5
  obtain ⟨⟨⟨⟨⟨g1, g2⟩, g3⟩, g4⟩, g5⟩, g6⟩ := h5
  simp [Cond.before, Cond.holds, Cond.value, h1, h2, h3, h4, g1, g2, g3, g4, g5, g6]
def isCode : Jvm.Cond → Bool
  | .code _ _ _ _ => true
  | _ => false
theorem all_split {L : List Jvm.Cond} {P : Jvm.Cond → Bool} (h1 : L.all (fun c => isCode c || P c) = true) (h2 : ∀ c ∈ L.filter isCode, P c = true) : L.all P = true := by
  refine List.all_eq_true.mpr fun c hc => ?_
  have h := List.all_eq_true.mp h1 c hc
  rcases Bool.eq_false_or_eq_true (isCode c) with hi | hi
  · exact h2 c (List.mem_filter.mpr ⟨hc, hi⟩)
  · simpa [hi] using h
set_option maxRecDepth 65536 in
theorem w_c0 : (Jvm.Cond.code x code maxLocals ret).before args0 about1 = true := code_word (m := ⟨1, 1⟩) (meth := k1m1) (c := k1c1) (by decide +kernel) rfl rfl rfl (by decide +kernel)
set_option maxRecDepth 65536 in
theorem w_c1 : (Jvm.Cond.code ({ cls := "com/example/mave/mave/engine/Choices", name := "<init>", desc := "()V" } : Jvm.MethodName) prog_8_method_1_code (1 : Nat) (Option.none : Option Jvm.ClassFile.FieldType)).before args0 about1 = true := code_word (m := ⟨2, 0⟩) (meth := k2m0) (c := k2c0) (by decide +kernel) rfl rfl rfl (by decide +kernel)
set_option maxRecDepth 65536 in
theorem w_c2 : (Jvm.Cond.code ({ cls := "java/lang/Object", name := "<init>", desc := "()V" } : Jvm.MethodName) object_method_1_code (1 : Nat) (Option.none : Option Jvm.ClassFile.FieldType)).before args0 about1 = true := code_word (m := ⟨0, 0⟩) (meth := k0m0) (c := k0c0) (by decide +kernel) rfl rfl rfl (by decide +kernel)
set_option maxRecDepth 65536 in
theorem w_c3 : (Jvm.Cond.code ({ cls := "com/example/mave/mave/engine/ChoicesNextPinLaw", name := "runIs", desc := "(Lcom/example/mave/mave/engine/Choices;IIII)Z" } : Jvm.MethodName) method_3_code (11 : Nat) (Option.some Jvm.ClassFile.FieldType.boolean)).before args0 about1 = true := code_word (m := ⟨1, 2⟩) (meth := k1m2) (c := k1c2) (by decide +kernel) rfl rfl rfl (by decide +kernel)
set_option maxRecDepth 65536 in
theorem w_c4 : (Jvm.Cond.code ({ cls := "com/example/mave/mave/engine/Choices", name := "choose", desc := "(I)I" } : Jvm.MethodName) prog_8_method_3_code (2 : Nat) (Option.some Jvm.ClassFile.FieldType.int)).before args0 about1 = true := code_word (m := ⟨2, 1⟩) (meth := k2m1) (c := k2c1) (by decide +kernel) rfl rfl rfl (by decide +kernel)
set_option maxRecDepth 65536 in
theorem w_c5 : (Jvm.Cond.code ({ cls := "com/example/mave/mave/engine/Choices", name := "next", desc := "()Z" } : Jvm.MethodName) prog_8_method_4_code (2 : Nat) (Option.some Jvm.ClassFile.FieldType.boolean)).before args0 about1 = true := code_word (m := ⟨2, 2⟩) (meth := k2m2) (c := k2c2) (by decide +kernel) rfl rfl rfl (by decide +kernel)
def codes1 : List Jvm.Cond := [Jvm.Cond.code x code maxLocals ret, Jvm.Cond.code ({ cls := "com/example/mave/mave/engine/Choices", name := "<init>", desc := "()V" } : Jvm.MethodName) prog_8_method_1_code (1 : Nat) (Option.none : Option Jvm.ClassFile.FieldType), Jvm.Cond.code ({ cls := "java/lang/Object", name := "<init>", desc := "()V" } : Jvm.MethodName) object_method_1_code (1 : Nat) (Option.none : Option Jvm.ClassFile.FieldType), Jvm.Cond.code ({ cls := "com/example/mave/mave/engine/ChoicesNextPinLaw", name := "runIs", desc := "(Lcom/example/mave/mave/engine/Choices;IIII)Z" } : Jvm.MethodName) method_3_code (11 : Nat) (Option.some Jvm.ClassFile.FieldType.boolean), Jvm.Cond.code ({ cls := "com/example/mave/mave/engine/Choices", name := "choose", desc := "(I)I" } : Jvm.MethodName) prog_8_method_3_code (2 : Nat) (Option.some Jvm.ClassFile.FieldType.int), Jvm.Cond.code ({ cls := "com/example/mave/mave/engine/Choices", name := "next", desc := "()Z" } : Jvm.MethodName) prog_8_method_4_code (2 : Nat) (Option.some Jvm.ClassFile.FieldType.boolean)]
set_option maxRecDepth 65536 in
theorem codes_eq : words1.filter isCode = codes1 := rfl
theorem w_codes : ∀ c ∈ words1.filter isCode, c.before args0 about1 = true := by
  rw [codes_eq]
  intro c hc
  simp only [codes1, List.mem_cons, List.not_mem_nil, or_false] at hc
  rcases hc with rfl | rfl | rfl | rfl | rfl | rfl
  · exact w_c0
  · exact w_c1
  · exact w_c2
  · exact w_c3
  · exact w_c4
  · exact w_c5
set_option maxRecDepth 65536 in
theorem w_t1 : (words1.take 24).all (fun c => isCode c || c.before args0 about1) = true := by decide +kernel
set_option maxRecDepth 65536 in
theorem w_t2 : (words1.drop 24).all (fun c => isCode c || c.before args0 about1) = true := by decide +kernel
theorem w_tables : (allAtoms (Jvm.Cond.code x code maxLocals ret :: tables_1)).before args0 about1 = true := by
  rw [allAtoms_all]
  show words1.all (fun c => c.before args0 about1) = true
  refine all_split ?_ w_codes
  rw [← List.take_append_drop 24 words1, List.all_append, w_t1, w_t2]
  rfl
set_option maxRecDepth 65536 in
theorem w_case : (Jvm.Cond.and given_1 narrow_1).before args0 about1 = true := by decide +kernel
theorem w_applies : (headSpec (Jvm.Cond.code x code maxLocals ret :: tables_1) room_1).applies x e0.platform about1 = true :=
  (Spec.applies_iff w_frames).mpr ⟨w_running, w_runnable, w_alone, w_named, w_hears, w_ripe, w_room, w_tables⟩
theorem atStart : AtStart classFile x code maxLocals ret World_1 tables_1 room_1 Calls_1 rest_1 Pre_1 launch0 p0 e0 about1 theMethod args0 below0 :=
  ⟨lists_1, trivial, launch0.admits_env _ _ _, launch0.least_env, fairChoices_fair.cas, fairChoices_fair.clock, w_frames, w_args, w_heap, w_applies, trivial, trivial, w_case⟩
end start1
theorem witness_1 : WitnessClaimed_1 := ⟨start1.p0, start1.e0, start1.about1, start1.theMethod, start1.args0, start1.below0, start1.atStart⟩
end Jvm.Pilot.@@N@@
