import JvmDerived
import JvmDerived.Pilot.@@N@@Statement
import JvmDerived.Pilot.@@N@@Code
set_option linter.unusedVariables false
set_option linter.unusedSimpArgs false
namespace Jvm.Pilot.@@N@@
open Jvm Jvm.ClassFile Sem Op Lib Jvm.Free Jvm.Stand Jvm.LawKit Jvm.RoadKit Bundle Jvm.Pilot.@@N@@.Jvm.D
/-- the run from F ends, with an outcome and a state that Φ takes -/
def own_Goes (p : Program) (e : Env) (below : List Frame) (Φ : Outcome → State → Prop) (F : State) : Prop :=
  ∃ s₂ o, Steps p.tables e below F s₂ ∧ s₂.status = .running ∧ Ended s₂ below o ∧ Φ o s₂
theorem own_go {p : Program} {e : Env} {below : List Frame} {Φ : Outcome → State → Prop} {F G : State}
    (k : ∀ t, Steps p.tables e below G t → Steps p.tables e below F t) (h : own_Goes p e below Φ G) : own_Goes p e below Φ F := by
  obtain ⟨s₂, o, h1, h2⟩ := h
  exact ⟨s₂, o, k _ h1, h2⟩
/-- what a contract says of the end -/
def own_End (s : State) (Q : Option Value → Heap → List Loc → Prop) (k n : Nat) (o : Outcome) (U' : State) : Prop :=
  ∃ v L, o = .returned v ∧ Q v U'.heap L ∧ FrameEnd s o U' L k n
/-- a value is returned, the heap is as it was -/
def own_Same (w : Value) (h0 : Heap) (n0 : Nat) (v : Option Value) (h : Heap) (L : List Loc) : Prop := v = some w ∧ Fr n0 L ∧ h = h0
/-- nothing is returned, the heap is as it was -/
def own_SameV (h0 : Heap) (n0 : Nat) (v : Option Value) (h : Heap) (L : List Loc) : Prop := v = none ∧ Fr n0 L ∧ h = h0
section Own
variable {p : Program} {l : Launch} {e : Env} {R : Room} {s : State} {m : MethodId} {args : Array Value} {below : List Frame} {meth : Method} {c : Code} {T : State} {locs : List Loc} {cells slots : Nat}
theorem own_ret (X : Stand p l e R s m args below meth c T locs cells slots) (hx : p.tables.exec = Jvm.exec) {pc : Nat} {Ls : Array Slot} {w : Value} {t : FieldType} {i : Instr} {rest : List Value} (hret : meth.sig.returnType = some t) (hn : narrow t w = w)
    (hi : (i = .ireturn ∧ (t = .int ∨ t = .boolean ∨ t = .byte ∨ t = .char ∨ t = .short) ∧ ∃ z, w = .int z) ∨ (i = .lreturn ∧ t = .long ∧ ∃ z, w = .long z) ∨ (i = .dreturn ∧ t = .double ∧ ∃ z, w = .double z) ∨ (i = .freturn ∧ t = .float ∧ ∃ z, w = .float z) ∨ (i = .areturn ∧ t.isReference = true ∧ w.isRef = true))
    (hd : decode c.code pc = .ok (i, 1)) (hlk : meth.locks = false) {Q : Option Value → Heap → List Loc → Prop} {k n : Nat} (h1 : cells ≤ k) (h2 : slots ≤ n) (hQ : Q (some w) T.heap locs) :
    own_Goes p e below (own_End s Q k n) (T.setTop (mkF m pc Ls (w :: rest))) := by
  obtain ⟨fs, hr, hrun, hended, hW, hsame⟩ := X.leave (v := some w) (fun h => by rw [hret] at h; cases h) hlk
  exact ⟨_, _, retOut X hx hret hn hi hd hr, hrun, hended, _, _, rfl, hQ, ⟨_, rfl⟩, hW, hsame.mono h1 h2⟩
theorem own_retI (X : Stand p l e R s m args below meth c T locs cells slots) (hx : p.tables.exec = Jvm.exec) {pc : Nat} {Ls : Array Slot} {z : Int32} {rest : List Value} (hret : meth.sig.returnType = some .int)
    (hd : decode c.code pc = .ok (.ireturn, 1)) (hlk : meth.locks = false) {Q : Option Value → Heap → List Loc → Prop} {k n : Nat} (h1 : cells ≤ k) (h2 : slots ≤ n) (hQ : Q (some (.int z)) T.heap locs) :
    own_Goes p e below (own_End s Q k n) (T.setTop (mkF m pc Ls (.int z :: rest))) := own_ret X hx hret rfl (Or.inl ⟨rfl, Or.inl rfl, z, rfl⟩) hd hlk h1 h2 hQ
theorem own_retJ (X : Stand p l e R s m args below meth c T locs cells slots) (hx : p.tables.exec = Jvm.exec) {pc : Nat} {Ls : Array Slot} {z : Int64} {rest : List Value} (hret : meth.sig.returnType = some .long)
    (hd : decode c.code pc = .ok (.lreturn, 1)) (hlk : meth.locks = false) {Q : Option Value → Heap → List Loc → Prop} {k n : Nat} (h1 : cells ≤ k) (h2 : slots ≤ n) (hQ : Q (some (.long z)) T.heap locs) :
    own_Goes p e below (own_End s Q k n) (T.setTop (mkF m pc Ls (.long z :: rest))) := own_ret X hx hret rfl (Or.inr (Or.inl ⟨rfl, rfl, z, rfl⟩)) hd hlk h1 h2 hQ
theorem own_retB (X : Stand p l e R s m args below meth c T locs cells slots) (hx : p.tables.exec = Jvm.exec) {pc : Nat} {Ls : Array Slot} {z : Int32} {rest : List Value} (hret : meth.sig.returnType = some .boolean) (hz : z = 0 ∨ z = 1)
    (hd : decode c.code pc = .ok (.ireturn, 1)) (hlk : meth.locks = false) {Q : Option Value → Heap → List Loc → Prop} {k n : Nat} (h1 : cells ≤ k) (h2 : slots ≤ n) (hQ : Q (some (.int z)) T.heap locs) :
    own_Goes p e below (own_End s Q k n) (T.setTop (mkF m pc Ls (.int z :: rest))) := own_ret X hx hret (by rcases hz with rfl | rfl <;> rfl) (Or.inl ⟨rfl, Or.inr (Or.inl rfl), z, rfl⟩) hd hlk h1 h2 hQ
theorem own_ret1 (X : Stand p l e R s m args below meth c T locs cells slots) (hx : p.tables.exec = Jvm.exec) {pc : Nat} {Ls : Array Slot} {rest : List Value} (hret : meth.sig.returnType = some .boolean)
    (hd : decode c.code pc = .ok (.ireturn, 1)) (hlk : meth.locks = false) {Q : Option Value → Heap → List Loc → Prop} {k n : Nat} (h1 : cells ≤ k) (h2 : slots ≤ n) (hQ : Q (some (.int 1)) T.heap locs) :
    own_Goes p e below (own_End s Q k n) (T.setTop (mkF m pc Ls (.int 1 :: rest))) := own_retB X hx hret (Or.inr rfl) hd hlk h1 h2 hQ
theorem own_ret0 (X : Stand p l e R s m args below meth c T locs cells slots) (hx : p.tables.exec = Jvm.exec) {pc : Nat} {Ls : Array Slot} {rest : List Value} (hret : meth.sig.returnType = some .boolean)
    (hd : decode c.code pc = .ok (.ireturn, 1)) (hlk : meth.locks = false) {Q : Option Value → Heap → List Loc → Prop} {k n : Nat} (h1 : cells ≤ k) (h2 : slots ≤ n) (hQ : Q (some (.int 0)) T.heap locs) :
    own_Goes p e below (own_End s Q k n) (T.setTop (mkF m pc Ls (.int 0 :: rest))) := own_retB X hx hret (Or.inl rfl) hd hlk h1 h2 hQ
theorem own_retN (X : Stand p l e R s m args below meth c T locs cells slots) (hx : p.tables.exec = Jvm.exec) {pc : Nat} {Ls : Array Slot} {z : Int32} {t : FieldType} {rest : List Value} (hret : meth.sig.returnType = some t) (ht : t = .boolean ∨ t = .byte ∨ t = .char ∨ t = .short)
    (hd : decode c.code pc = .ok (.ireturn, 1)) (hlk : meth.locks = false) {Q : Option Value → Heap → List Loc → Prop} {k n : Nat} (h1 : cells ≤ k) (h2 : slots ≤ n) (hQ : Q (some (.int (nar t z))) T.heap locs) :
    own_Goes p e below (own_End s Q k n) (T.setTop (mkF m pc Ls (.int z :: rest))) := by
  obtain ⟨fs, hr, hrun, hended, hW, hsame⟩ := X.leave (v := some (.int (nar t z))) (fun h => by rw [hret] at h; cases h) hlk
  exact ⟨_, _, retN X hx hret ht hd hr, hrun, hended, _, _, rfl, hQ, ⟨_, rfl⟩, hW, hsame.mono h1 h2⟩
theorem own_retA (X : Stand p l e R s m args below meth c T locs cells slots) (hx : p.tables.exec = Jvm.exec) {pc : Nat} {Ls : Array Slot} {w : Value} {t : FieldType} {rest : List Value} (hret : meth.sig.returnType = some t) (ht : t.isReference = true) (hw : w.isRef = true)
    (hd : decode c.code pc = .ok (.areturn, 1)) (hlk : meth.locks = false) {Q : Option Value → Heap → List Loc → Prop} {k n : Nat} (h1 : cells ≤ k) (h2 : slots ≤ n) (hQ : Q (some w) T.heap locs) :
    own_Goes p e below (own_End s Q k n) (T.setTop (mkF m pc Ls (w :: rest))) := own_ret X hx hret (by cases t <;> first | rfl | cases ht) (Or.inr (Or.inr (Or.inr (Or.inr ⟨rfl, ht, hw⟩)))) hd hlk h1 h2 hQ
theorem own_retV (X : Stand p l e R s m args below meth c T locs cells slots) (hx : p.tables.exec = Jvm.exec) {pc : Nat} {Ls : Array Slot} (hret : meth.sig.returnType = none)
    (hd : decode c.code pc = .ok (.return_, 1)) (hlk : meth.locks = false) {Q : Option Value → Heap → List Loc → Prop} {k n : Nat} (h1 : cells ≤ k) (h2 : slots ≤ n) (hQ : Q none T.heap locs) :
    own_Goes p e below (own_End s Q k n) (T.setTop (mkF m pc Ls [])) := by
  obtain ⟨fs, hr, hrun, hended, hW, hsame⟩ := X.leave (v := none) (fun _ => rfl) hlk
  exact ⟨_, _, X.returnOut hx hret hd hr, hrun, hended, _, _, rfl, hQ, ⟨_, rfl⟩, hW, hsame.mono h1 h2⟩
end Own
/-- the law says true; nothing old is written -/
def own_True (n0 : Nat) (v : Option Value) (h : Heap) (L : List Loc) : Prop := v = some (.int 1) ∧ Fr n0 L
theorem own_i (x y : Int32) : (x = y ↔ x.toInt = y.toInt) ∧ (x < y ↔ x.toInt < y.toInt) ∧ (x ≤ y ↔ x.toInt ≤ y.toInt) := ⟨Int32.toInt_inj.symm, Int32.lt_iff_toInt_lt, Int32.le_iff_toInt_le⟩
theorem own_ie (x y : Int32) : x = y ↔ x.toInt = y.toInt := Int32.toInt_inj.symm
theorem own_le (x y : Int64) : x = y ↔ x.toInt = y.toInt := Int64.toInt_inj.symm
/-- an array of which the kind and the length alone are told -/
def own_A (Z : State) (h : Heap) (a : Addr) (ty : FieldType) (n : Int32) : Prop := ∃ c : Cell, Arr Z h a c ty ∧ c.slots.size = n.toNatClampNeg ∧ ¬ n < 0
section OwnA
variable {Z : State} {h h' : Heap} {a b : Addr} {ty : FieldType} {n : Int32} {sl : Nat} {v : Value} {ws : List Addr}
theorem own_A.lt (F : own_A Z h a ty n) : a < h.size := by obtain ⟨c, A, -⟩ := F; exact A.lt
theorem own_A.ext (F : own_A Z h a ty n) (E : Ext h h') : own_A Z h' a ty n := by obtain ⟨c, A, r⟩ := F; exact ⟨c, A.ext E, r⟩
theorem own_A.other (F : own_A Z h b ty n) (W : Wr h h' a sl v) (q : b ≠ a) : own_A Z h' b ty n := by obtain ⟨c, A, r⟩ := F; exact ⟨c, A.other W q, r⟩
theorem own_A.same (F : own_A Z h a ty n) (W : Wr h h' a sl v) : own_A Z h' a ty n := by
  obtain ⟨c, A, r1, r2⟩ := F
  exact ⟨_, A.same W, by rw [← r1]; simp [Cell.setSlot], r2⟩
theorem own_A.keep (F : own_A Z h a ty n) (K : Keep h h' ws) (q : a ∉ ws) : own_A Z h' a ty n := by obtain ⟨c, A, r⟩ := F; exact ⟨c, ⟨K.2.1 a c A.1 q, A.2⟩, r⟩
theorem own_A.of {k : ClassId} {vs : List Value} {d : Value} (F : Arv Z h a k ty n vs d) : own_A Z h a ty n := by obtain ⟨c, A, -, r1, r2, -⟩ := F; exact ⟨c, A, r1, r2⟩
end OwnA
theorem own_staKeep {Z : State} {h h' : Heap} {C n d : String} {v : Value} (F : Sta Z h C n d v) (K : Keep h h' []) : Sta Z h' C n d v := by
  obtain ⟨cf, i, k, f, st, cell, h1, h2, h3, h4, h5, r⟩ := F
  exact ⟨cf, i, k, f, st, cell, h1, h2, h3, h4, K.2.1 _ _ h5 nin0, r⟩
theorem d2_0 : decode jdk_30_method_1_code 0 = .ok (.aload_n 0, 1) := by decide +kernel
theorem d2_1 : decode jdk_30_method_1_code 1 = .ok (.invokespecial 1, 3) := by decide +kernel
theorem d2_4 : decode jdk_30_method_1_code 4 = .ok (.return_, 1) := by decide +kernel
theorem pn2 : plainName "java/lang/Record" = true := by first | (simp [plainName, overriddenIn]; done) | decide +kernel
theorem ef_rm2 (m : MethodId) (r0 : Addr) : entryFrame m #[(.ref r0)] 1 = mkF m 0 #[.val (.ref r0)] [] := by first | (simp [entryFrame, mkF, argsToLocals, Value.category]; done) | rfl
set_option maxRecDepth 65536 in
set_option maxHeartbeats 40000000 in
theorem rm2 (l : Launch) (Z : State) (a0 : Array Value) (hw : ∀ d ∈ tables_1, d.before a0 Z = true) (ws : List Jvm.Cond) (r0 : Addr) (h0 : Heap) (n0 : Nat) (Z0 : n0 ≤ h0.size) :
    MetFree l (⟨"java/lang/Record", "<init>", "()V"⟩ : MethodName) (head1 (Jvm.Cond.code (⟨"java/lang/Record", "<init>", "()V"⟩ : MethodName) jdk_30_method_1_code 1 none :: ws) ({ frames := 1, cells := 0, slots := 0, locals := 12 } : Room)) (fun a U => a = #[(.ref r0)] ∧ Z.Warmed39 U.vm ∧ U.heap = h0) (fun _ _ _ _ _ => True) (fun _ U o U' => ∃ v L, o = .returned v ∧ (own_SameV h0 n0) v U'.heap L ∧ FrameEnd U o U' L 0 0) := by
  refine MetFree.of_bodySF (plainFor_of_name pn2) hisR ?_
  intro p e s m args below meth c s₁ Bd hml0 hP hK
  obtain ⟨rfl, hZ, hh⟩ := hP
  have hx := Bd.exec
  have hby := Bd.bytes
  have hml : c.maxLocals = 1 := hml0
  have hown : s.vm.findClass "java/lang/Record" = some m.cls := findClass_of_methodNamed Bd.named
  have hnm := (name_of_methodNamed Bd.named Bd.method).1
  have X0 : Stand p l e ({ frames := 1, cells := 0, slots := 0, locals := 12 } : Room) s m #[(.ref r0)] below meth c s₁ [] 0 0 := Stand.of_body Bd
  have e0 : s₁.heap = h0 := by rw [← hh, Bd.state]; rfl
  have N0 := Fr.nil n0
  show own_Goes p e below (own_End s (own_SameV h0 n0) 0 0) _
  refine own_go (G := s₁.setTop (mkF m 0 #[.val (.ref r0)] [])) (fun t k => castTop (ef_rm2 m r0) k) ?_
  refine own_go (G := s₁.setTop (mkF m 1 #[.val (.ref r0)] [(.ref r0)])) (fun _ k => XS.aloadN X0.here hx rfl (hb hby d2_0) rfl rfl k) ?_
  obtain ⟨T1, X1, e1, st1⟩ := initO X0 hx hZ hown (hw _ (List.mem_of_getElem? (i := 12) rfl)) (hw _ (List.mem_of_getElem? (i := 13) rfl)) (hw _ (List.mem_of_getElem? (i := 14) rfl)) e0 (g := (mkF m 1 #[.val (.ref r0)] [(.ref r0)])) rfl (by rw [hml]; rfl) rfl (hb hby d2_1) (by decide) (W := 0) (by show 2 * 0 + _ ≤ _; exact Nat.le_of_eq rfl) (by decide)
  refine own_go (G := T1.setTop (mkF m 4 #[.val (.ref r0)] [])) (st1) ?_
  exact own_retV X1 hx Bd.returns (hb hby d2_4) Bd.notSynchronized (by decide) (by decide) ⟨rfl, N0, e1⟩
def Q_rm1 (Z : State) (r0 : Addr) (p1 : Int32) (p2 : Int32) (h0 : Heap) (n0 : Nat) (v : Option Value) (h : Heap) (L : List Loc) : Prop := v = none ∧ Fr n0 L ∧ Keep h0 h [r0] ∧ Exa Z h r0 "com/example/assentor/assentor/core/SystemSize" ∧ Fld Z h r0 "com/example/assentor/assentor/core/SystemSize" "n" "I" (.int p1) ∧ Fld Z h r0 "com/example/assentor/assentor/core/SystemSize" "f" "I" (.int p2)
theorem d1_0 : decode prog_48_method_1_code 0 = .ok (.aload_n 0, 1) := by decide +kernel
theorem d1_1 : decode prog_48_method_1_code 1 = .ok (.invokespecial 1, 3) := by decide +kernel
theorem d1_4 : decode prog_48_method_1_code 4 = .ok (.iload_n 1, 1) := by decide +kernel
theorem d1_5 : decode prog_48_method_1_code 5 = .ok (.iconst 2, 1) := by decide +kernel
theorem d1_6 : decode prog_48_method_1_code 6 = .ok (.if_icmp .lt 10, 3) := by decide +kernel
theorem d1_9 : decode prog_48_method_1_code 9 = .ok (.iload_n 1, 1) := by decide +kernel
theorem d1_10 : decode prog_48_method_1_code 10 = .ok (.sipush 1024, 3) := by decide +kernel
theorem d1_13 : decode prog_48_method_1_code 13 = .ok (.if_icmp .le 17, 3) := by decide +kernel
theorem d1_30 : decode prog_48_method_1_code 30 = .ok (.iload_n 2, 1) := by decide +kernel
theorem d1_31 : decode prog_48_method_1_code 31 = .ok (.ifCond .lt 10, 3) := by decide +kernel
theorem d1_34 : decode prog_48_method_1_code 34 = .ok (.iload_n 2, 1) := by decide +kernel
theorem d1_35 : decode prog_48_method_1_code 35 = .ok (.iload_n 1, 1) := by decide +kernel
theorem d1_36 : decode prog_48_method_1_code 36 = .ok (.iconst 2, 1) := by decide +kernel
theorem d1_37 : decode prog_48_method_1_code 37 = .ok (.isub, 1) := by decide +kernel
theorem d1_38 : decode prog_48_method_1_code 38 = .ok (.if_icmp .le 20, 3) := by decide +kernel
theorem d1_58 : decode prog_48_method_1_code 58 = .ok (.aload_n 0, 1) := by decide +kernel
theorem d1_59 : decode prog_48_method_1_code 59 = .ok (.iload_n 1, 1) := by decide +kernel
theorem d1_60 : decode prog_48_method_1_code 60 = .ok (.putfield 21, 3) := by decide +kernel
theorem d1_63 : decode prog_48_method_1_code 63 = .ok (.aload_n 0, 1) := by decide +kernel
theorem d1_64 : decode prog_48_method_1_code 64 = .ok (.iload_n 2, 1) := by decide +kernel
theorem d1_65 : decode prog_48_method_1_code 65 = .ok (.putfield 25, 3) := by decide +kernel
theorem d1_68 : decode prog_48_method_1_code 68 = .ok (.return_, 1) := by decide +kernel
theorem pn1 : plainName "com/example/assentor/assentor/core/SystemSize" = true := by first | (simp [plainName, overriddenIn]; done) | decide +kernel
theorem pd0 : parseMethodDescriptor "()V" = some ⟨[], none⟩ := by decide +kernel
theorem ef_rm1 (m : MethodId) (r0 : Addr) (p1 : Int32) (p2 : Int32) : entryFrame m #[(.ref r0), (.int p1), (.int p2)] 3 = mkF m 0 #[.val (.ref r0), .val (.int p1), .val (.int p2)] [] := by first | (simp [entryFrame, mkF, argsToLocals, Value.category]; done) | rfl
set_option maxRecDepth 65536 in
set_option maxHeartbeats 40000000 in
theorem rm1 (l : Launch) (Z : State) (a0 : Array Value) (hw : ∀ d ∈ tables_1, d.before a0 Z = true) (ws : List Jvm.Cond) (r0 : Addr) (p1 : Int32) (p2 : Int32) (h0 : Heap) (n0 : Nat) (Z0 : n0 ≤ h0.size) (F_n_r0 : Fld Z h0 r0 "com/example/assentor/assentor/core/SystemSize" "n" "I" (.int (0 : Int32))) (F_f_r0 : Fld Z h0 r0 "com/example/assentor/assentor/core/SystemSize" "f" "I" (.int (0 : Int32))) (E_r0 : Exa Z h0 r0 "com/example/assentor/assentor/core/SystemSize") (gn_r0 : n0 ≤ r0) (hp1 : ¬ (p1 < (2 : Int32))) (hp2 : ¬ ((1024 : Int32) < p1)) (hp3 : ¬ (p2 < (0 : Int32))) (hp4 : ¬ ((p1 - (2 : Int32)) < p2)) :
    MetFree l (⟨"com/example/assentor/assentor/core/SystemSize", "<init>", "(II)V"⟩ : MethodName) (head1 (Jvm.Cond.code (⟨"com/example/assentor/assentor/core/SystemSize", "<init>", "(II)V"⟩ : MethodName) prog_48_method_1_code 3 none :: ws) ({ frames := 2, cells := 0, slots := 0, locals := 24 } : Room)) (fun a U => a = #[(.ref r0), (.int p1), (.int p2)] ∧ Z.Warmed39 U.vm ∧ U.heap = h0) (fun _ _ _ _ _ => True) (fun _ U o U' => ∃ v L, o = .returned v ∧ (Q_rm1 Z r0 p1 p2 h0 n0) v U'.heap L ∧ FrameEnd U o U' L 0 0) := by
  refine MetFree.of_bodySF (plainFor_of_name pn1) hisR ?_
  intro p e s m args below meth c s₁ Bd hml0 hP hK
  obtain ⟨rfl, hZ, hh⟩ := hP
  have hx := Bd.exec
  have hby := Bd.bytes
  have hml : c.maxLocals = 3 := hml0
  have hown : s.vm.findClass "com/example/assentor/assentor/core/SystemSize" = some m.cls := findClass_of_methodNamed Bd.named
  have hnm := (name_of_methodNamed Bd.named Bd.method).1
  have X0 : Stand p l e ({ frames := 2, cells := 0, slots := 0, locals := 24 } : Room) s m #[(.ref r0), (.int p1), (.int p2)] below meth c s₁ [] 0 0 := Stand.of_body Bd
  have e0 : s₁.heap = h0 := by rw [← hh, Bd.state]; rfl
  have N0 := Fr.nil n0
  have K0 : Keep h0 h0 [r0] := Keep.refl h0 [r0]
  show own_Goes p e below (own_End s (Q_rm1 Z r0 p1 p2 h0 n0) 0 0) _
  refine own_go (G := s₁.setTop (mkF m 0 #[.val (.ref r0), .val (.int p1), .val (.int p2)] [])) (fun t k => castTop (ef_rm1 m r0 p1 p2) k) ?_
  refine own_go (G := s₁.setTop (mkF m 1 #[.val (.ref r0), .val (.int p1), .val (.int p2)] [(.ref r0)])) (fun _ k => XS.aloadN X0.here hx rfl (hb hby d1_0) rfl rfl k) ?_
  obtain ⟨_, _, ⟨T1, L1, k1, n1⟩, -, X1, ⟨Lc1, hQ1, l1, y1, z1⟩, st1⟩ := X0.specialBack hx (y := (⟨"java/lang/Record", "<init>", "()V"⟩ : MethodName)) rfl hown (mvT hZ (hw _ (List.mem_of_getElem? (i := 7) rfl))) (mvT hZ (hw _ (List.mem_of_getElem? (i := 8) rfl))) (mvT hZ (hw _ (List.mem_of_getElem? (i := 11) rfl))) (by decide) (backOf (W := 0) (rm2 l Z a0 hw [] r0 h0 n0 Z0) hZ (hw _ (List.mem_of_getElem? (i := 11) rfl)) (hw _ (List.mem_of_getElem? (i := 10) rfl)) (by decide) (by decide)) (g := (mkF m 1 #[.val (.ref r0), .val (.int p1), .val (.int p2)] [(.ref r0)])) rfl (by rw [hml]; rfl) (Steps.refl _) (a := r0) (argsL := []) (rest := []) (lenOf pd0 rfl) rfl (by show 2 * 0 + _ ≤ _; exact Nat.le_of_eq rfl) (hb hby d1_1) (fun _ _ => ⟨rfl, e0, (by decide : 0 + 0 ≤ _), (by decide : 0 + 0 ≤ _)⟩)
  dsimp only [Pt.U, Pt.locs, Pt.cells, Pt.slots] at X1 l1 y1 z1 st1 hQ1
  subst l1 y1 z1
  obtain ⟨rfl, Nq1, e1⟩ := hQ1
  have N1 := Fr.app N0 Nq1
  refine own_go (G := T1.setTop (mkF m 4 #[.val (.ref r0), .val (.int p1), .val (.int p2)] [])) (fun _ k => st1.trans k) ?_
  refine own_go (G := T1.setTop (mkF m 5 #[.val (.ref r0), .val (.int p1), .val (.int p2)] [(.int p1)])) (fun _ k => XS.iloadN X1.here hx rfl (hb hby d1_4) rfl k) ?_
  refine own_go (G := T1.setTop (mkF m 6 #[.val (.ref r0), .val (.int p1), .val (.int p2)] [(.int (2 : Int32)), (.int p1)])) (fun _ k => XS.iconst X1.here hx rfl (hb hby d1_5) k) ?_
  refine own_go (G := T1.setTop (mkF m 9 #[.val (.ref r0), .val (.int p1), .val (.int p2)] [])) (fun _ k => XS.icmpNo X1.here hx rfl (hb hby d1_6) rfl (flt (hp1 : ¬ (p1 < (2 : Int32)))).1 k) ?_
  refine own_go (G := T1.setTop (mkF m 10 #[.val (.ref r0), .val (.int p1), .val (.int p2)] [(.int p1)])) (fun _ k => XS.iloadN X1.here hx rfl (hb hby d1_9) rfl k) ?_
  refine own_go (G := T1.setTop (mkF m 13 #[.val (.ref r0), .val (.int p1), .val (.int p2)] [(.int (1024 : Int32)), (.int p1)])) (fun _ k => XS.sipush X1.here hx rfl (hb hby d1_10) k) ?_
  refine own_go (G := T1.setTop (mkF m 30 #[.val (.ref r0), .val (.int p1), .val (.int p2)] [])) (fun _ k => XS.icmpYes X1.here hx rfl (pc0 := 13) (pc' := 30) rfl (hb hby d1_13) rfl (flt (hp2 : ¬ ((1024 : Int32) < p1))).2.2.2 (by decide) (by decide) k) ?_
  refine own_go (G := T1.setTop (mkF m 31 #[.val (.ref r0), .val (.int p1), .val (.int p2)] [(.int p2)])) (fun _ k => XS.iloadN X1.here hx rfl (hb hby d1_30) rfl k) ?_
  refine own_go (G := T1.setTop (mkF m 34 #[.val (.ref r0), .val (.int p1), .val (.int p2)] [])) (fun _ k => XS.ifNo X1.here hx rfl (hb hby d1_31) rfl ((if0 _ _).trans (flt (hp3 : ¬ (p2 < (0 : Int32)))).1) k) ?_
  refine own_go (G := T1.setTop (mkF m 35 #[.val (.ref r0), .val (.int p1), .val (.int p2)] [(.int p2)])) (fun _ k => XS.iloadN X1.here hx rfl (hb hby d1_34) rfl k) ?_
  refine own_go (G := T1.setTop (mkF m 36 #[.val (.ref r0), .val (.int p1), .val (.int p2)] [(.int p1), (.int p2)])) (fun _ k => XS.iloadN X1.here hx rfl (hb hby d1_35) rfl k) ?_
  refine own_go (G := T1.setTop (mkF m 37 #[.val (.ref r0), .val (.int p1), .val (.int p2)] [(.int (2 : Int32)), (.int p1), (.int p2)])) (fun _ k => XS.iconst X1.here hx rfl (hb hby d1_36) k) ?_
  refine own_go (G := T1.setTop (mkF m 38 #[.val (.ref r0), .val (.int p1), .val (.int p2)] [(.int (p1 - (2 : Int32))), (.int p2)])) (fun _ k => XS.isub X1.here hx rfl (hb hby d1_37) rfl k) ?_
  refine own_go (G := T1.setTop (mkF m 58 #[.val (.ref r0), .val (.int p1), .val (.int p2)] [])) (fun _ k => XS.icmpYes X1.here hx rfl (pc0 := 38) (pc' := 58) rfl (hb hby d1_38) rfl (flt (hp4 : ¬ ((p1 - (2 : Int32)) < p2))).2.2.2 (by decide) (by decide) k) ?_
  refine own_go (G := T1.setTop (mkF m 59 #[.val (.ref r0), .val (.int p1), .val (.int p2)] [(.ref r0)])) (fun _ k => XS.aloadN X1.here hx rfl (hb hby d1_58) rfl rfl k) ?_
  refine own_go (G := T1.setTop (mkF m 60 #[.val (.ref r0), .val (.int p1), .val (.int p2)] [(.int p1), (.ref r0)])) (fun _ k => XS.iloadN X1.here hx rfl (hb hby d1_59) rfl k) ?_
  obtain ⟨T2, h2, X2, e2, W2, st2⟩ := putF X1 hx hZ hown (host := "") (Or.inl (hw _ (List.mem_of_getElem? (i := 15) rfl))) Via.refl e1 F_n_r0 E_r0 (Or.inr ⟨(hw _ (List.mem_of_getElem? (i := 16) rfl)), rfl, hnm⟩) (hw _ (List.mem_of_getElem? (i := 2) rfl)) (ty := .int) (by decide) rfl rfl (g := (mkF m 60 #[.val (.ref r0), .val (.int p1), .val (.int p2)] [(.int p1), (.ref r0)])) rfl rfl (hb hby d1_60)
  have F_f_r0_c2 : Fld Z h2 r0 "com/example/assentor/assentor/core/SystemSize" "f" "I" (.int (0 : Int32)) := F_f_r0.other W2 (Or.inr (slot_ne (Or.inr (hw _ (List.mem_of_getElem? (i := 18) rfl))) (Or.inr (hw _ (List.mem_of_getElem? (i := 16) rfl))) (by decide) (t := .int) (t' := .int) (by decide) (by decide)))
  have E_r0_c2 : Exa Z h2 r0 "com/example/assentor/assentor/core/SystemSize" := E_r0.wr W2
  have Fw2_n : Fld Z h2 r0 "com/example/assentor/assentor/core/SystemSize" "n" "I" (.int p1) := F_n_r0.same W2
  have N2 := Fr.snoc X2 N1 gn_r0
  have Z2 : n0 ≤ h2.size := Nat.le_trans Z0 (Keep.of_wr W2).1
  have K2 : Keep h0 h2 [r0] := K0.wr W2 (Or.inl (List.mem_of_getElem? (i := 0) rfl))
  refine own_go (G := T2.setTop (mkF m 63 #[.val (.ref r0), .val (.int p1), .val (.int p2)] [])) (st2) ?_
  refine own_go (G := T2.setTop (mkF m 64 #[.val (.ref r0), .val (.int p1), .val (.int p2)] [(.ref r0)])) (fun _ k => XS.aloadN X2.here hx rfl (hb hby d1_63) rfl rfl k) ?_
  refine own_go (G := T2.setTop (mkF m 65 #[.val (.ref r0), .val (.int p1), .val (.int p2)] [(.int p2), (.ref r0)])) (fun _ k => XS.iloadN X2.here hx rfl (hb hby d1_64) rfl k) ?_
  obtain ⟨T3, h3, X3, e3, W3, st3⟩ := putF X2 hx hZ hown (host := "") (Or.inl (hw _ (List.mem_of_getElem? (i := 17) rfl))) Via.refl e2 F_f_r0_c2 E_r0_c2 (Or.inr ⟨(hw _ (List.mem_of_getElem? (i := 18) rfl)), rfl, hnm⟩) (hw _ (List.mem_of_getElem? (i := 2) rfl)) (ty := .int) (by decide) rfl rfl (g := (mkF m 65 #[.val (.ref r0), .val (.int p1), .val (.int p2)] [(.int p2), (.ref r0)])) rfl rfl (hb hby d1_65)
  have Fw2_n_c3 : Fld Z h3 r0 "com/example/assentor/assentor/core/SystemSize" "n" "I" (.int p1) := Fw2_n.other W3 (Or.inr (slot_ne (Or.inr (hw _ (List.mem_of_getElem? (i := 16) rfl))) (Or.inr (hw _ (List.mem_of_getElem? (i := 18) rfl))) (by decide) (t := .int) (t' := .int) (by decide) (by decide)))
  have E_r0_c3 : Exa Z h3 r0 "com/example/assentor/assentor/core/SystemSize" := E_r0_c2.wr W3
  have Fw3_f : Fld Z h3 r0 "com/example/assentor/assentor/core/SystemSize" "f" "I" (.int p2) := F_f_r0_c2.same W3
  have N3 := Fr.snoc X3 N2 gn_r0
  have Z3 : n0 ≤ h3.size := Nat.le_trans Z2 (Keep.of_wr W3).1
  have K3 : Keep h0 h3 [r0] := K2.wr W3 (Or.inl (List.mem_of_getElem? (i := 0) rfl))
  refine own_go (G := T3.setTop (mkF m 68 #[.val (.ref r0), .val (.int p1), .val (.int p2)] [])) (st3) ?_
  exact own_retV X3 hx Bd.returns (hb hby d1_68) Bd.notSynchronized (by decide) (by decide) (by rw [e3]; exact ⟨rfl, N3, K3, E_r0_c3, Fw2_n_c3, Fw3_f⟩)
theorem d4_0 : decode prog_48_method_3_code 0 = .ok (.iload_n 1, 1) := by decide +kernel
theorem d4_1 : decode prog_48_method_3_code 1 = .ok (.iconst 1, 1) := by decide +kernel
theorem d4_2 : decode prog_48_method_3_code 2 = .ok (.if_icmp .lt 15, 3) := by decide +kernel
theorem d4_5 : decode prog_48_method_3_code 5 = .ok (.iload_n 1, 1) := by decide +kernel
theorem d4_6 : decode prog_48_method_3_code 6 = .ok (.aload_n 0, 1) := by decide +kernel
theorem d4_7 : decode prog_48_method_3_code 7 = .ok (.getfield 21, 3) := by decide +kernel
theorem d4_10 : decode prog_48_method_3_code 10 = .ok (.if_icmp .gt 7, 3) := by decide +kernel
theorem d4_13 : decode prog_48_method_3_code 13 = .ok (.iconst 1, 1) := by decide +kernel
theorem d4_14 : decode prog_48_method_3_code 14 = .ok (.goto 4, 3) := by decide +kernel
theorem d4_17 : decode prog_48_method_3_code 17 = .ok (.iconst 0, 1) := by decide +kernel
theorem d4_18 : decode prog_48_method_3_code 18 = .ok (.ireturn, 1) := by decide +kernel
theorem pn4 : plainName "com/example/assentor/assentor/core/SystemSize" = true := by first | (simp [plainName, overriddenIn]; done) | decide +kernel
theorem ef_rm4 (m : MethodId) (r0 : Addr) (p1 : Int32) : entryFrame m #[(.ref r0), (.int p1)] 2 = mkF m 0 #[.val (.ref r0), .val (.int p1)] [] := by first | (simp [entryFrame, mkF, argsToLocals, Value.category]; done) | rfl
def F4 (r0 : Addr) (p1 : Int32) (w_n_r0 : Int32) : Int32 := (if p1 < (1 : Int32) then (0 : Int32) else (if w_n_r0 < p1 then (0 : Int32) else (1 : Int32)))
set_option maxRecDepth 65536 in
set_option maxHeartbeats 40000000 in
theorem rm4 (l : Launch) (Z : State) (a0 : Array Value) (hw : ∀ d ∈ tables_1, d.before a0 Z = true) (ws : List Jvm.Cond) (r0 : Addr) (p1 : Int32) (w_n_r0 : Int32) (h0 : Heap) (n0 : Nat) (Z0 : n0 ≤ h0.size) (F_n_r0 : Fld Z h0 r0 "com/example/assentor/assentor/core/SystemSize" "n" "I" (.int w_n_r0)) :
    MetFree l (⟨"com/example/assentor/assentor/core/SystemSize", "isNode", "(I)Z"⟩ : MethodName) (head1 (Jvm.Cond.code (⟨"com/example/assentor/assentor/core/SystemSize", "isNode", "(I)Z"⟩ : MethodName) prog_48_method_3_code 2 (some .boolean) :: ws) ({ frames := 0, cells := 0, slots := 0, locals := 0 } : Room)) (fun a U => a = #[(.ref r0), (.int p1)] ∧ Z.Warmed39 U.vm ∧ U.heap = h0) (fun _ _ _ _ _ => True) (fun _ U o U' => ∃ v L, o = .returned v ∧ (own_Same (.int (F4 r0 p1 w_n_r0)) h0 n0) v U'.heap L ∧ FrameEnd U o U' L 0 0) := by
  refine MetFree.of_bodySF (plainFor_of_name pn4) hisR ?_
  intro p e s m args below meth c s₁ Bd hml0 hP hK
  obtain ⟨rfl, hZ, hh⟩ := hP
  have hx := Bd.exec
  have hby := Bd.bytes
  have hml : c.maxLocals = 2 := hml0
  have hown : s.vm.findClass "com/example/assentor/assentor/core/SystemSize" = some m.cls := findClass_of_methodNamed Bd.named
  have hnm := (name_of_methodNamed Bd.named Bd.method).1
  have X0 : Stand p l e ({ frames := 0, cells := 0, slots := 0, locals := 0 } : Room) s m #[(.ref r0), (.int p1)] below meth c s₁ [] 0 0 := Stand.of_body Bd
  have e0 : s₁.heap = h0 := by rw [← hh, Bd.state]; rfl
  have N0 := Fr.nil n0
  show own_Goes p e below (own_End s (own_Same (.int (F4 r0 p1 w_n_r0)) h0 n0) 0 0) _
  refine own_go (G := s₁.setTop (mkF m 0 #[.val (.ref r0), .val (.int p1)] [])) (fun t k => castTop (ef_rm4 m r0 p1) k) ?_
  refine own_go (G := s₁.setTop (mkF m 1 #[.val (.ref r0), .val (.int p1)] [(.int p1)])) (fun _ k => XS.iloadN X0.here hx rfl (hb hby d4_0) rfl k) ?_
  refine own_go (G := s₁.setTop (mkF m 2 #[.val (.ref r0), .val (.int p1)] [(.int (1 : Int32)), (.int p1)])) (fun _ k => XS.iconst X0.here hx rfl (hb hby d4_1) k) ?_
  show own_Goes p e below (own_End s (own_Same (.int (if p1 < (1 : Int32) then (0 : Int32) else (if w_n_r0 < p1 then (0 : Int32) else (1 : Int32)))) h0 n0) 0 0) _
  by_cases hc2 : p1 < (1 : Int32)
  · rw [if_pos hc2]
    refine own_go (G := s₁.setTop (mkF m 17 #[.val (.ref r0), .val (.int p1)] [])) (fun _ k => XS.icmpYes X0.here hx rfl (pc0 := 2) (pc' := 17) rfl (hb hby d4_2) rfl (tlt hc2).1 (by decide) (by decide) k) ?_
    refine own_go (G := s₁.setTop (mkF m 18 #[.val (.ref r0), .val (.int p1)] [(.int (0 : Int32))])) (fun _ k => XS.iconst X0.here hx rfl (hb hby d4_17) k) ?_
    exact own_ret0 X0 hx Bd.returns (hb hby d4_18) Bd.notSynchronized (by decide) (by decide) ⟨rfl, N0, e0⟩
  · rw [if_neg hc2]
    refine own_go (G := s₁.setTop (mkF m 5 #[.val (.ref r0), .val (.int p1)] [])) (fun _ k => XS.icmpNo X0.here hx rfl (hb hby d4_2) rfl (flt hc2).1 k) ?_
    refine own_go (G := s₁.setTop (mkF m 6 #[.val (.ref r0), .val (.int p1)] [(.int p1)])) (fun _ k => XS.iloadN X0.here hx rfl (hb hby d4_5) rfl k) ?_
    refine own_go (G := s₁.setTop (mkF m 7 #[.val (.ref r0), .val (.int p1)] [(.ref r0), (.int p1)])) (fun _ k => XS.aloadN X0.here hx rfl (hb hby d4_6) rfl rfl k) ?_
    obtain ⟨T4, X4, e4, st4⟩ := getF X0 hx hZ hown (host := "") (Or.inl (hw _ (List.mem_of_getElem? (i := 15) rfl))) Via.refl e0 F_n_r0 (g := (mkF m 7 #[.val (.ref r0), .val (.int p1)] [(.ref r0), (.int p1)])) rfl rfl (hb hby d4_7)
    refine own_go (G := T4.setTop (mkF m 10 #[.val (.ref r0), .val (.int p1)] [(.int w_n_r0), (.int p1)])) (st4) ?_
    show own_Goes p e below (own_End s (own_Same (.int (if w_n_r0 < p1 then (0 : Int32) else (1 : Int32))) h0 n0) 0 0) _
    by_cases hc10 : w_n_r0 < p1
    · rw [if_pos hc10]
      refine own_go (G := T4.setTop (mkF m 17 #[.val (.ref r0), .val (.int p1)] [])) (fun _ k => XS.icmpYes X4.here hx rfl (pc0 := 10) (pc' := 17) rfl (hb hby d4_10) rfl (tlt hc10).2.2.1 (by decide) (by decide) k) ?_
      refine own_go (G := T4.setTop (mkF m 18 #[.val (.ref r0), .val (.int p1)] [(.int (0 : Int32))])) (fun _ k => XS.iconst X4.here hx rfl (hb hby d4_17) k) ?_
      exact own_ret0 X4 hx Bd.returns (hb hby d4_18) Bd.notSynchronized (by decide) (by decide) ⟨rfl, N0, e4⟩
    · rw [if_neg hc10]
      refine own_go (G := T4.setTop (mkF m 13 #[.val (.ref r0), .val (.int p1)] [])) (fun _ k => XS.icmpNo X4.here hx rfl (hb hby d4_10) rfl (flt hc10).2.2.1 k) ?_
      refine own_go (G := T4.setTop (mkF m 14 #[.val (.ref r0), .val (.int p1)] [(.int (1 : Int32))])) (fun _ k => XS.iconst X4.here hx rfl (hb hby d4_13) k) ?_
      refine own_go (G := T4.setTop (mkF m 18 #[.val (.ref r0), .val (.int p1)] [(.int (1 : Int32))])) (fun _ k => XS.goto X4.here hx rfl (pc0 := 14) (pc' := 18) rfl (hb hby d4_14) (by decide) (by decide) k) ?_
      exact own_ret1 X4 hx Bd.returns (hb hby d4_18) Bd.notSynchronized (by decide) (by decide) ⟨rfl, N0, e4⟩
theorem d5_0 : decode method_2_code 0 = .ok (.iload_n 1, 1) := by decide +kernel
theorem d5_1 : decode method_2_code 1 = .ok (.i2l, 1) := by decide +kernel
theorem d5_2 : decode method_2_code 2 = .ok (.lconst 1, 1) := by decide +kernel
theorem d5_3 : decode method_2_code 3 = .ok (.lsub, 1) := by decide +kernel
theorem d5_4 : decode method_2_code 4 = .ok (.lstore_n 2, 1) := by decide +kernel
theorem d5_5 : decode method_2_code 5 = .ok (.lload_n 2, 1) := by decide +kernel
theorem d5_6 : decode method_2_code 6 = .ok (.lconst 0, 1) := by decide +kernel
theorem d5_7 : decode method_2_code 7 = .ok (.lcmp, 1) := by decide +kernel
theorem d5_8 : decode method_2_code 8 = .ok (.ifCond .lt 14, 3) := by decide +kernel
theorem d5_11 : decode method_2_code 11 = .ok (.lload_n 2, 1) := by decide +kernel
theorem d5_12 : decode method_2_code 12 = .ok (.iload_n 0, 1) := by decide +kernel
theorem d5_13 : decode method_2_code 13 = .ok (.i2l, 1) := by decide +kernel
theorem d5_14 : decode method_2_code 14 = .ok (.lcmp, 1) := by decide +kernel
theorem d5_15 : decode method_2_code 15 = .ok (.ifCond .ge 7, 3) := by decide +kernel
theorem d5_18 : decode method_2_code 18 = .ok (.iconst 1, 1) := by decide +kernel
theorem d5_19 : decode method_2_code 19 = .ok (.goto 4, 3) := by decide +kernel
theorem d5_22 : decode method_2_code 22 = .ok (.iconst 0, 1) := by decide +kernel
theorem d5_23 : decode method_2_code 23 = .ok (.ireturn, 1) := by decide +kernel
theorem pn5 : plainName "com/example/assentor/assentor/core/SystemSizeIsNodePinLaw" = true := by first | (simp [plainName, overriddenIn]; done) | decide +kernel
theorem ef_rm5 (m : MethodId) (p0 : Int32) (p1 : Int32) : entryFrame m #[(.int p0), (.int p1)] 4 = mkF m 0 #[.val (.int p0), .val (.int p1), .unset, .unset] [] := by first | (simp [entryFrame, mkF, argsToLocals, Value.category]; done) | rfl
def F5 (p0 : Int32) (p1 : Int32) : Int32 := (if (lcmpW ((p1.toInt64) - (1 : Int64)) (0 : Int64)) < (0 : Int32) then (0 : Int32) else (if (lcmpW ((p1.toInt64) - (1 : Int64)) (p0.toInt64)) < (0 : Int32) then (1 : Int32) else (0 : Int32)))
set_option maxRecDepth 65536 in
set_option maxHeartbeats 40000000 in
theorem rm5 (l : Launch) (Z : State) (a0 : Array Value) (hw : ∀ d ∈ tables_1, d.before a0 Z = true) (ws : List Jvm.Cond) (p0 : Int32) (p1 : Int32) (h0 : Heap) (n0 : Nat) (Z0 : n0 ≤ h0.size) :
    MetFree l (⟨"com/example/assentor/assentor/core/SystemSizeIsNodePinLaw", "ref", "(II)Z"⟩ : MethodName) (head1 (Jvm.Cond.code (⟨"com/example/assentor/assentor/core/SystemSizeIsNodePinLaw", "ref", "(II)Z"⟩ : MethodName) method_2_code 4 (some .boolean) :: ws) ({ frames := 0, cells := 0, slots := 0, locals := 0 } : Room)) (fun a U => a = #[(.int p0), (.int p1)] ∧ Z.Warmed39 U.vm ∧ U.heap = h0) (fun _ _ _ _ _ => True) (fun _ U o U' => ∃ v L, o = .returned v ∧ (own_Same (.int (F5 p0 p1)) h0 n0) v U'.heap L ∧ FrameEnd U o U' L 0 0) := by
  refine MetFree.of_bodySF (plainFor_of_name pn5) hisR ?_
  intro p e s m args below meth c s₁ Bd hml0 hP hK
  obtain ⟨rfl, hZ, hh⟩ := hP
  have hx := Bd.exec
  have hby := Bd.bytes
  have hml : c.maxLocals = 4 := hml0
  have hown : s.vm.findClass "com/example/assentor/assentor/core/SystemSizeIsNodePinLaw" = some m.cls := findClass_of_methodNamed Bd.named
  have hnm := (name_of_methodNamed Bd.named Bd.method).1
  have X0 : Stand p l e ({ frames := 0, cells := 0, slots := 0, locals := 0 } : Room) s m #[(.int p0), (.int p1)] below meth c s₁ [] 0 0 := Stand.of_body Bd
  have e0 : s₁.heap = h0 := by rw [← hh, Bd.state]; rfl
  have N0 := Fr.nil n0
  show own_Goes p e below (own_End s (own_Same (.int (F5 p0 p1)) h0 n0) 0 0) _
  refine own_go (G := s₁.setTop (mkF m 0 #[.val (.int p0), .val (.int p1), .unset, .unset] [])) (fun t k => castTop (ef_rm5 m p0 p1) k) ?_
  refine own_go (G := s₁.setTop (mkF m 1 #[.val (.int p0), .val (.int p1), .unset, .unset] [(.int p1)])) (fun _ k => XS.iloadN X0.here hx rfl (hb hby d5_0) rfl k) ?_
  refine own_go (G := s₁.setTop (mkF m 2 #[.val (.int p0), .val (.int p1), .unset, .unset] [(.long (p1.toInt64))])) (fun _ k => XS.i2l X0.here hx rfl (hb hby d5_1) rfl k) ?_
  refine own_go (G := s₁.setTop (mkF m 3 #[.val (.int p0), .val (.int p1), .unset, .unset] [(.long (1 : Int64)), (.long (p1.toInt64))])) (fun _ k => XS.lconst X0.here hx rfl (hb hby d5_2) k) ?_
  refine own_go (G := s₁.setTop (mkF m 4 #[.val (.int p0), .val (.int p1), .unset, .unset] [(.long ((p1.toInt64) - (1 : Int64)))])) (fun _ k => XS.lsub X0.here hx rfl (hb hby d5_3) rfl k) ?_
  refine own_go (G := s₁.setTop (mkF m 5 #[.val (.int p0), .val (.int p1), .val (.long ((p1.toInt64) - (1 : Int64))), .second] [])) (fun _ k => XS.lstoreN X0.here hx rfl (hb hby d5_4) rfl (l' := #[.val (.int p0), .val (.int p1), .val (.long ((p1.toInt64) - (1 : Int64))), .second]) rfl k) ?_
  refine own_go (G := s₁.setTop (mkF m 6 #[.val (.int p0), .val (.int p1), .val (.long ((p1.toInt64) - (1 : Int64))), .second] [(.long ((p1.toInt64) - (1 : Int64)))])) (fun _ k => XS.lloadN X0.here hx rfl (hb hby d5_5) rfl k) ?_
  refine own_go (G := s₁.setTop (mkF m 7 #[.val (.int p0), .val (.int p1), .val (.long ((p1.toInt64) - (1 : Int64))), .second] [(.long (0 : Int64)), (.long ((p1.toInt64) - (1 : Int64)))])) (fun _ k => XS.lconst X0.here hx rfl (hb hby d5_6) k) ?_
  refine own_go (G := s₁.setTop (mkF m 8 #[.val (.int p0), .val (.int p1), .val (.long ((p1.toInt64) - (1 : Int64))), .second] [(.int (lcmpW ((p1.toInt64) - (1 : Int64)) (0 : Int64)))])) (fun _ k => XS.lcmp X0.here hx rfl (hb hby d5_7) rfl k) ?_
  show own_Goes p e below (own_End s (own_Same (.int (if (lcmpW ((p1.toInt64) - (1 : Int64)) (0 : Int64)) < (0 : Int32) then (0 : Int32) else (if (lcmpW ((p1.toInt64) - (1 : Int64)) (p0.toInt64)) < (0 : Int32) then (1 : Int32) else (0 : Int32)))) h0 n0) 0 0) _
  by_cases hc8 : (lcmpW ((p1.toInt64) - (1 : Int64)) (0 : Int64)) < (0 : Int32)
  · rw [if_pos hc8]
    refine own_go (G := s₁.setTop (mkF m 22 #[.val (.int p0), .val (.int p1), .val (.long ((p1.toInt64) - (1 : Int64))), .second] [])) (fun _ k => XS.ifYes X0.here hx rfl (pc0 := 8) (pc' := 22) rfl (hb hby d5_8) rfl ((if0 _ _).trans (tlt hc8).1) (by decide) (by decide) k) ?_
    refine own_go (G := s₁.setTop (mkF m 23 #[.val (.int p0), .val (.int p1), .val (.long ((p1.toInt64) - (1 : Int64))), .second] [(.int (0 : Int32))])) (fun _ k => XS.iconst X0.here hx rfl (hb hby d5_22) k) ?_
    exact own_ret0 X0 hx Bd.returns (hb hby d5_23) Bd.notSynchronized (by decide) (by decide) ⟨rfl, N0, e0⟩
  · rw [if_neg hc8]
    refine own_go (G := s₁.setTop (mkF m 11 #[.val (.int p0), .val (.int p1), .val (.long ((p1.toInt64) - (1 : Int64))), .second] [])) (fun _ k => XS.ifNo X0.here hx rfl (hb hby d5_8) rfl ((if0 _ _).trans (flt hc8).1) k) ?_
    refine own_go (G := s₁.setTop (mkF m 12 #[.val (.int p0), .val (.int p1), .val (.long ((p1.toInt64) - (1 : Int64))), .second] [(.long ((p1.toInt64) - (1 : Int64)))])) (fun _ k => XS.lloadN X0.here hx rfl (hb hby d5_11) rfl k) ?_
    refine own_go (G := s₁.setTop (mkF m 13 #[.val (.int p0), .val (.int p1), .val (.long ((p1.toInt64) - (1 : Int64))), .second] [(.int p0), (.long ((p1.toInt64) - (1 : Int64)))])) (fun _ k => XS.iloadN X0.here hx rfl (hb hby d5_12) rfl k) ?_
    refine own_go (G := s₁.setTop (mkF m 14 #[.val (.int p0), .val (.int p1), .val (.long ((p1.toInt64) - (1 : Int64))), .second] [(.long (p0.toInt64)), (.long ((p1.toInt64) - (1 : Int64)))])) (fun _ k => XS.i2l X0.here hx rfl (hb hby d5_13) rfl k) ?_
    refine own_go (G := s₁.setTop (mkF m 15 #[.val (.int p0), .val (.int p1), .val (.long ((p1.toInt64) - (1 : Int64))), .second] [(.int (lcmpW ((p1.toInt64) - (1 : Int64)) (p0.toInt64)))])) (fun _ k => XS.lcmp X0.here hx rfl (hb hby d5_14) rfl k) ?_
    show own_Goes p e below (own_End s (own_Same (.int (if (lcmpW ((p1.toInt64) - (1 : Int64)) (p0.toInt64)) < (0 : Int32) then (1 : Int32) else (0 : Int32))) h0 n0) 0 0) _
    by_cases hc15 : (lcmpW ((p1.toInt64) - (1 : Int64)) (p0.toInt64)) < (0 : Int32)
    · rw [if_pos hc15]
      refine own_go (G := s₁.setTop (mkF m 18 #[.val (.int p0), .val (.int p1), .val (.long ((p1.toInt64) - (1 : Int64))), .second] [])) (fun _ k => XS.ifNo X0.here hx rfl (hb hby d5_15) rfl ((if0 _ _).trans (tlt hc15).2.1) k) ?_
      refine own_go (G := s₁.setTop (mkF m 19 #[.val (.int p0), .val (.int p1), .val (.long ((p1.toInt64) - (1 : Int64))), .second] [(.int (1 : Int32))])) (fun _ k => XS.iconst X0.here hx rfl (hb hby d5_18) k) ?_
      refine own_go (G := s₁.setTop (mkF m 23 #[.val (.int p0), .val (.int p1), .val (.long ((p1.toInt64) - (1 : Int64))), .second] [(.int (1 : Int32))])) (fun _ k => XS.goto X0.here hx rfl (pc0 := 19) (pc' := 23) rfl (hb hby d5_19) (by decide) (by decide) k) ?_
      exact own_ret1 X0 hx Bd.returns (hb hby d5_23) Bd.notSynchronized (by decide) (by decide) ⟨rfl, N0, e0⟩
    · rw [if_neg hc15]
      refine own_go (G := s₁.setTop (mkF m 22 #[.val (.int p0), .val (.int p1), .val (.long ((p1.toInt64) - (1 : Int64))), .second] [])) (fun _ k => XS.ifYes X0.here hx rfl (pc0 := 15) (pc' := 22) rfl (hb hby d5_15) rfl ((if0 _ _).trans (flt hc15).2.1) (by decide) (by decide) k) ?_
      refine own_go (G := s₁.setTop (mkF m 23 #[.val (.int p0), .val (.int p1), .val (.long ((p1.toInt64) - (1 : Int64))), .second] [(.int (0 : Int32))])) (fun _ k => XS.iconst X0.here hx rfl (hb hby d5_22) k) ?_
      exact own_ret0 X0 hx Bd.returns (hb hby d5_23) Bd.notSynchronized (by decide) (by decide) ⟨rfl, N0, e0⟩

theorem own_n {a n : Int32} (h : (2 : Int32) + ((a &&& (2147483647 : Int32)) % (1023 : Int32)) = n) : 2 ≤ n.toInt ∧ n.toInt ≤ 1024 := by
  have a2 := c_mask a 2147483647 31 (by decide) (by decide)
  have a3 := (c_irem (a &&& 2147483647) 1023 1023 (by decide)).1 (by rw [a2]; omega)
  have a4 := c_iadd 2 ((a &&& 2147483647) % 1023)
  rw [h, show (2 : Int32).toInt = 2 from rfl] at a4
  have r := rng32 n
  omega
theorem own_m {a n : Int32} (h : (2 : Int32) + ((a &&& (2147483647 : Int32)) % (1023 : Int32)) = n) (k : Int32) (hk : k.toInt = 1 ∨ k.toInt = 2) : (n - k).toInt = n.toInt - k.toInt := by
  have a1 := own_n h
  have a4 := c_isub n k
  have r := rng32 (n - k)
  omega
theorem own_nz {a n : Int32} (h : (2 : Int32) + ((a &&& (2147483647 : Int32)) % (1023 : Int32)) = n) : n - (1 : Int32) ≠ 0 := by
  intro q
  have a1 := own_n h
  have a2 := own_m h 1 (by decide)
  rw [q] at a2
  rw [show (0 : Int32).toInt = 0 from rfl, show (1 : Int32).toInt = 1 from rfl] at a2
  omega
theorem own_f {a b n f : Int32} (h : (2 : Int32) + ((a &&& (2147483647 : Int32)) % (1023 : Int32)) = n) (hf : (b &&& (2147483647 : Int32)) % (n - (1 : Int32)) = f) : 0 ≤ f.toInt ∧ f.toInt < n.toInt - 1 := by
  have a1 := own_n h
  have a2 := own_m h 1 (by decide)
  rw [show (1 : Int32).toInt = 1 from rfl] at a2
  have a3 := c_mask b 2147483647 31 (by decide) (by decide)
  have a4 := (c_iremV (b &&& 2147483647) (n - 1)).1 (by omega) (by omega)
  rw [hf] at a4
  omega
theorem own_p1 {a n : Int32} (h : (2 : Int32) + ((a &&& (2147483647 : Int32)) % (1023 : Int32)) = n) : ¬ (n < (2 : Int32)) := by
  have a1 := own_n h
  rw [Int32.lt_iff_toInt_lt, show (2 : Int32).toInt = 2 from rfl]; omega
theorem own_p2 {a n : Int32} (h : (2 : Int32) + ((a &&& (2147483647 : Int32)) % (1023 : Int32)) = n) : ¬ ((1024 : Int32) < n) := by
  have a1 := own_n h
  rw [Int32.lt_iff_toInt_lt, show (1024 : Int32).toInt = 1024 from rfl]; omega
theorem own_p3 {a b n f : Int32} (h : (2 : Int32) + ((a &&& (2147483647 : Int32)) % (1023 : Int32)) = n) (hf : (b &&& (2147483647 : Int32)) % (n - (1 : Int32)) = f) : ¬ (f < (0 : Int32)) := by
  have a1 := own_f h hf
  rw [Int32.lt_iff_toInt_lt, show (0 : Int32).toInt = 0 from rfl]; omega
theorem own_p4 {a b n f : Int32} (h : (2 : Int32) + ((a &&& (2147483647 : Int32)) % (1023 : Int32)) = n) (hf : (b &&& (2147483647 : Int32)) % (n - (1 : Int32)) = f) : ¬ ((n - (2 : Int32)) < f) := by
  have a1 := own_f h hf
  have a2 := own_m h 2 (by decide)
  rw [show (2 : Int32).toInt = 2 from rfl] at a2
  rw [Int32.lt_iff_toInt_lt]; omega
theorem own_p5 {a n : Int32} (h : (2 : Int32) + ((a &&& (2147483647 : Int32)) % (1023 : Int32)) = n) : ¬ ((n - (2 : Int32)) < (0 : Int32)) := by
  have a1 := own_n h
  have a2 := own_m h 2 (by decide)
  rw [show (2 : Int32).toInt = 2 from rfl] at a2
  rw [Int32.lt_iff_toInt_lt, show (0 : Int32).toInt = 0 from rfl]; omega
theorem own_F4 (r0 : Addr) (p n : Int32) : F4 r0 p n = if 1 ≤ p.toInt ∧ p.toInt ≤ n.toInt then 1 else 0 := by
  simp only [F4, Int32.lt_iff_toInt_lt, Int32.reduceToInt]
  repeat' split
  all_goals first | rfl | omega
theorem own_F5 (n p : Int32) : F5 n p = if 1 ≤ p.toInt ∧ p.toInt ≤ n.toInt then 1 else 0 := by
  have a1 := c_lsub p.toInt64 1
  rw [c_i2l, show (1 : Int64).toInt = 1 from rfl] at a1
  have r := rng32 p
  have r1 := rng64 (p.toInt64 - 1)
  simp only [F5, lw_lt, lw_gt, Int64.lt_iff_toInt_lt, c_i2l, show (0 : Int64).toInt = 0 from rfl]
  repeat' split
  all_goals first | rfl | omega
theorem own_ref (r0 : Addr) {n p v : Int32} (h : F4 r0 p n = v) : v = F5 n p := by rw [← h, own_F4, own_F5]
theorem own_eq (r0 r1 : Addr) {n p v : Int32} (h : F4 r0 p n = v) : F4 r1 p n = v := by rw [← h, own_F4, own_F4]
theorem own_q1 (r0 : Addr) {a n : Int32} (h : (2 : Int32) + ((a &&& (2147483647 : Int32)) % (1023 : Int32)) = n) : ¬ (F4 r0 (1 : Int32) n = (0 : Int32)) := by
  have a1 := own_n h
  rw [own_F4, if_pos (by rw [show (1 : Int32).toInt = 1 from rfl]; omega)]; decide
theorem own_q2 (r0 : Addr) {a n : Int32} (h : (2 : Int32) + ((a &&& (2147483647 : Int32)) % (1023 : Int32)) = n) : ¬ (F4 r0 n n = (0 : Int32)) := by
  have a1 := own_n h
  rw [own_F4, if_pos (by omega)]; decide
theorem own_q3 (r0 : Addr) (n : Int32) : F4 r0 (0 : Int32) n = (0 : Int32) := by
  rw [own_F4, if_neg (by rw [show (0 : Int32).toInt = 0 from rfl]; omega)]
theorem own_q4 (r0 : Addr) {a n : Int32} (h : (2 : Int32) + ((a &&& (2147483647 : Int32)) % (1023 : Int32)) = n) : F4 r0 (n + (1 : Int32)) n = (0 : Int32) := by
  have a1 := own_n h
  have a2 := c_iadd n 1
  rw [show (1 : Int32).toInt = 1 from rfl] at a2
  have r := rng32 (n + 1)
  rw [own_F4, if_neg (by omega)]

theorem pn0 : plainName "com/example/assentor/assentor/core/SystemSizeIsNodePinLaw" = true := by first | (simp [plainName, overriddenIn]; done) | decide +kernel
theorem pd1 : parseMethodDescriptor "(II)V" = some ⟨[.int, .int], none⟩ := by decide +kernel
theorem pd2 : parseMethodDescriptor "(I)Z" = some ⟨[.int], some .boolean⟩ := by decide +kernel
theorem pd3 : parseMethodDescriptor "(II)Z" = some ⟨[.int, .int], some .boolean⟩ := by decide +kernel
theorem ef_rm0 (m : MethodId) (p0 : Int32) (p1 : Int32) (p2 : Int32) : entryFrame m #[(.int p0), (.int p1), (.int p2)] maxLocals = mkF m 0 #[.val (.int p0), .val (.int p1), .val (.int p2), .unset, .unset, .unset, .unset, .unset] [] := by first | (simp [entryFrame, mkF, argsToLocals, Value.category, maxLocals]; done) | rfl
set_option maxRecDepth 65536 in
set_option maxHeartbeats 40000000 in
theorem rm0 (l : Launch) (Z : State) (a0 : Array Value) (hw : ∀ d ∈ tables_1, d.before a0 Z = true) (ws : List Jvm.Cond) (p0 : Int32) (p1 : Int32) (p2 : Int32) (h0 : Heap) (n0 : Nat) (Z0 : n0 ≤ h0.size) :
    MetFree l x (head1 (Jvm.Cond.code x code maxLocals ret :: ws) room_1) (fun a U => a = #[(.int p0), (.int p1), (.int p2)] ∧ Z.Warmed39 U.vm ∧ U.heap = h0) (fun _ _ _ _ _ => True) (fun _ U o U' => ∃ v L, o = .returned v ∧ (own_True n0) v U'.heap L ∧ FrameEnd U o U' L 16 128) := by
  refine MetFree.of_bodySF (plainFor_of_name pn0) hisR ?_
  intro p e s m args below meth c s₁ Bd hml0 hP hK
  obtain ⟨rfl, hZ, hh⟩ := hP
  have hx := Bd.exec
  have hby := Bd.bytes
  have hml : c.maxLocals = 8 := hml0
  have hown : s.vm.findClass "com/example/assentor/assentor/core/SystemSizeIsNodePinLaw" = some m.cls := findClass_of_methodNamed Bd.named
  have hnm := (name_of_methodNamed Bd.named Bd.method).1
  have X0 : Stand p l e room_1 s m #[(.int p0), (.int p1), (.int p2)] below meth c s₁ [] 0 0 := Stand.of_body Bd
  have e0 : s₁.heap = h0 := by rw [← hh, Bd.state]; rfl
  have N0 := Fr.nil n0
  show own_Goes p e below (own_End s (own_True n0) 16 128) _
  refine own_go (G := s₁.setTop (mkF m 0 #[.val (.int p0), .val (.int p1), .val (.int p2), .unset, .unset, .unset, .unset, .unset] [])) (fun t k => castTop (ef_rm0 m p0 p1 p2) k) ?_
  refine own_go (G := s₁.setTop (mkF m 1 #[.val (.int p0), .val (.int p1), .val (.int p2), .unset, .unset, .unset, .unset, .unset] [(.int (2 : Int32))])) (fun _ k => XS.iconst X0.here hx rfl (hb hby at_0) k) ?_
  refine own_go (G := s₁.setTop (mkF m 2 #[.val (.int p0), .val (.int p1), .val (.int p2), .unset, .unset, .unset, .unset, .unset] [(.int p0), (.int (2 : Int32))])) (fun _ k => XS.iloadN X0.here hx rfl (hb hby at_1) rfl k) ?_
  refine own_go (G := s₁.setTop (mkF m 4 #[.val (.int p0), .val (.int p1), .val (.int p2), .unset, .unset, .unset, .unset, .unset] [(.int (2147483647 : Int32)), (.int p0), (.int (2 : Int32))])) (X0.ldcInt hx hown (mvT hZ (hw _ (List.mem_of_getElem? (i := 0) rfl))) (g := (mkF m 2 #[.val (.int p0), .val (.int p1), .val (.int p2), .unset, .unset, .unset, .unset, .unset] [(.int p0), (.int (2 : Int32))])) rfl (hb hby at_2)) ?_
  refine own_go (G := s₁.setTop (mkF m 5 #[.val (.int p0), .val (.int p1), .val (.int p2), .unset, .unset, .unset, .unset, .unset] [(.int (p0 &&& (2147483647 : Int32))), (.int (2 : Int32))])) (fun _ k => XS.iand X0.here hx rfl (hb hby at_4) rfl k) ?_
  refine own_go (G := s₁.setTop (mkF m 8 #[.val (.int p0), .val (.int p1), .val (.int p2), .unset, .unset, .unset, .unset, .unset] [(.int (1023 : Int32)), (.int (p0 &&& (2147483647 : Int32))), (.int (2 : Int32))])) (fun _ k => XS.sipush X0.here hx rfl (hb hby at_5) k) ?_
  refine own_go (G := s₁.setTop (mkF m 9 #[.val (.int p0), .val (.int p1), .val (.int p2), .unset, .unset, .unset, .unset, .unset] [(.int ((p0 &&& (2147483647 : Int32)) % (1023 : Int32))), (.int (2 : Int32))])) (fun _ k => iremM X0 hx rfl (hb hby at_8) rfl (by decide) k) ?_
  refine own_go (G := s₁.setTop (mkF m 10 #[.val (.int p0), .val (.int p1), .val (.int p2), .unset, .unset, .unset, .unset, .unset] [(.int ((2 : Int32) + ((p0 &&& (2147483647 : Int32)) % (1023 : Int32))))])) (fun _ k => XS.iadd X0.here hx rfl (hb hby at_9) rfl k) ?_
  generalize hv1 : ((2 : Int32) + ((p0 &&& (2147483647 : Int32)) % (1023 : Int32))) = v1
  refine own_go (G := s₁.setTop (mkF m 11 #[.val (.int p0), .val (.int p1), .val (.int p2), .val (.int v1), .unset, .unset, .unset, .unset] [])) (fun _ k => XS.istoreN X0.here hx rfl (hb hby at_10) rfl (l' := #[.val (.int p0), .val (.int p1), .val (.int p2), .val (.int v1), .unset, .unset, .unset, .unset]) rfl k) ?_
  refine own_go (G := s₁.setTop (mkF m 12 #[.val (.int p0), .val (.int p1), .val (.int p2), .val (.int v1), .unset, .unset, .unset, .unset] [(.int p1)])) (fun _ k => XS.iloadN X0.here hx rfl (hb hby at_11) rfl k) ?_
  refine own_go (G := s₁.setTop (mkF m 14 #[.val (.int p0), .val (.int p1), .val (.int p2), .val (.int v1), .unset, .unset, .unset, .unset] [(.int (2147483647 : Int32)), (.int p1)])) (X0.ldcInt hx hown (mvT hZ (hw _ (List.mem_of_getElem? (i := 0) rfl))) (g := (mkF m 12 #[.val (.int p0), .val (.int p1), .val (.int p2), .val (.int v1), .unset, .unset, .unset, .unset] [(.int p1)])) rfl (hb hby at_12)) ?_
  refine own_go (G := s₁.setTop (mkF m 15 #[.val (.int p0), .val (.int p1), .val (.int p2), .val (.int v1), .unset, .unset, .unset, .unset] [(.int (p1 &&& (2147483647 : Int32)))])) (fun _ k => XS.iand X0.here hx rfl (hb hby at_14) rfl k) ?_
  refine own_go (G := s₁.setTop (mkF m 16 #[.val (.int p0), .val (.int p1), .val (.int p2), .val (.int v1), .unset, .unset, .unset, .unset] [(.int v1), (.int (p1 &&& (2147483647 : Int32)))])) (fun _ k => XS.iloadN X0.here hx rfl (hb hby at_15) rfl k) ?_
  refine own_go (G := s₁.setTop (mkF m 17 #[.val (.int p0), .val (.int p1), .val (.int p2), .val (.int v1), .unset, .unset, .unset, .unset] [(.int (1 : Int32)), (.int v1), (.int (p1 &&& (2147483647 : Int32)))])) (fun _ k => XS.iconst X0.here hx rfl (hb hby at_16) k) ?_
  refine own_go (G := s₁.setTop (mkF m 18 #[.val (.int p0), .val (.int p1), .val (.int p2), .val (.int v1), .unset, .unset, .unset, .unset] [(.int (v1 - (1 : Int32))), (.int (p1 &&& (2147483647 : Int32)))])) (fun _ k => XS.isub X0.here hx rfl (hb hby at_17) rfl k) ?_
  refine own_go (G := s₁.setTop (mkF m 19 #[.val (.int p0), .val (.int p1), .val (.int p2), .val (.int v1), .unset, .unset, .unset, .unset] [(.int ((p1 &&& (2147483647 : Int32)) % (v1 - (1 : Int32))))])) (fun _ k => iremM X0 hx rfl (hb hby at_18) rfl (own_nz hv1) k) ?_
  generalize hv2 : ((p1 &&& (2147483647 : Int32)) % (v1 - (1 : Int32))) = v2
  refine own_go (G := s₁.setTop (mkF m 21 #[.val (.int p0), .val (.int p1), .val (.int p2), .val (.int v1), .val (.int v2), .unset, .unset, .unset] [])) (fun _ k => XS.istore X0.here hx rfl (hb hby at_19) rfl (l' := #[.val (.int p0), .val (.int p1), .val (.int p2), .val (.int v1), .val (.int v2), .unset, .unset, .unset]) rfl k) ?_
  obtain ⟨T3, h3, X3, e3, E3, A3, D3, -, st3⟩ := newO X0 hx hZ hown (hw _ (List.mem_of_getElem? (i := 1) rfl)) (hw _ (List.mem_of_getElem? (i := 2) rfl)) (hw _ (List.mem_of_getElem? (i := 3) rfl)) e0 (g := (mkF m 21 #[.val (.int p0), .val (.int p1), .val (.int p2), .val (.int v1), .val (.int v2), .unset, .unset, .unset] [])) rfl (hb hby at_21) (by decide) (by decide)
  obtain ⟨b3, g3⟩ : ∃ z, z = h0.size := ⟨_, rfl⟩
  rw [← g3] at A3 D3 st3
  have gn_b3 : n0 ≤ b3 := Nat.le_trans Z0 (Nat.le_of_eq g3.symm)
  have Z3 : n0 ≤ h3.size := Nat.le_trans Z0 E3.1
  have F_n_b3 : Fld Z h3 b3 "com/example/assentor/assentor/core/SystemSize" "n" "I" (.int (0 : Int32)) := D3 (Or.inr (hw _ (List.mem_of_getElem? (i := 16) rfl))) (ty := .int) (by decide)
  have F_f_b3 : Fld Z h3 b3 "com/example/assentor/assentor/core/SystemSize" "f" "I" (.int (0 : Int32)) := D3 (Or.inr (hw _ (List.mem_of_getElem? (i := 18) rfl))) (ty := .int) (by decide)
  refine own_go (G := T3.setTop (mkF m 24 #[.val (.int p0), .val (.int p1), .val (.int p2), .val (.int v1), .val (.int v2), .unset, .unset, .unset] [(.ref b3)])) (st3) ?_
  refine own_go (G := T3.setTop (mkF m 25 #[.val (.int p0), .val (.int p1), .val (.int p2), .val (.int v1), .val (.int v2), .unset, .unset, .unset] [(.ref b3), (.ref b3)])) (fun _ k => XS.dup X3.here hx rfl (hb hby at_24) rfl rfl k) ?_
  refine own_go (G := T3.setTop (mkF m 26 #[.val (.int p0), .val (.int p1), .val (.int p2), .val (.int v1), .val (.int v2), .unset, .unset, .unset] [(.int v1), (.ref b3), (.ref b3)])) (fun _ k => XS.iloadN X3.here hx rfl (hb hby at_25) rfl k) ?_
  refine own_go (G := T3.setTop (mkF m 28 #[.val (.int p0), .val (.int p1), .val (.int p2), .val (.int v1), .val (.int v2), .unset, .unset, .unset] [(.int v2), (.int v1), (.ref b3), (.ref b3)])) (fun _ k => XS.iload X3.here hx rfl (hb hby at_26) rfl k) ?_
  obtain ⟨_, _, ⟨T4, L4, k4, n4⟩, -, X4, ⟨Lc4, hQ4, l4, y4, z4⟩, st4⟩ := X3.specialBack hx (y := (⟨"com/example/assentor/assentor/core/SystemSize", "<init>", "(II)V"⟩ : MethodName)) rfl hown (mvT hZ (hw _ (List.mem_of_getElem? (i := 4) rfl))) (mvT hZ (hw _ (List.mem_of_getElem? (i := 5) rfl))) (mvT hZ (hw _ (List.mem_of_getElem? (i := 6) rfl))) (by decide) (backOf (W := 1) (rm1 l Z a0 hw [] b3 v1 v2 h3 n0 Z3 F_n_b3 F_f_b3 A3 gn_b3 (own_p1 hv1) (own_p2 hv1) (own_p3 hv1 hv2) (own_p4 hv1 hv2)) hZ (hw _ (List.mem_of_getElem? (i := 6) rfl)) (hw _ (List.mem_of_getElem? (i := 3) rfl)) (by decide) (by decide)) (g := (mkF m 28 #[.val (.int p0), .val (.int p1), .val (.int p2), .val (.int v1), .val (.int v2), .unset, .unset, .unset] [(.int v2), (.int v1), (.ref b3), (.ref b3)])) rfl (by rw [hml]; rfl) (Steps.refl _) (a := b3) (argsL := [(.int v1), (.int v2)]) (rest := [(.ref b3)]) (lenOf pd1 rfl) rfl (by show 2 * 0 + _ ≤ _; exact Nat.le_of_eq rfl) (hb hby at_28) (fun _ _ => ⟨rfl, e3, (by decide : 1 + 0 ≤ _), (by decide : 2 + 0 ≤ _)⟩)
  dsimp only [Pt.U, Pt.locs, Pt.cells, Pt.slots] at X4 l4 y4 z4 st4 hQ4
  subst l4 y4 z4
  obtain ⟨rfl, Nq4, Kq4, Eq4, Fq4_n, Fq4_f⟩ := hQ4
  have N4 := Fr.app N0 Nq4
  have Z4 : n0 ≤ T4.heap.size := Nat.le_trans Z3 Kq4.1
  refine own_go (G := T4.setTop (mkF m 31 #[.val (.int p0), .val (.int p1), .val (.int p2), .val (.int v1), .val (.int v2), .unset, .unset, .unset] [(.ref b3)])) (fun _ k => st4.trans k) ?_
  refine own_go (G := T4.setTop (mkF m 33 #[.val (.int p0), .val (.int p1), .val (.int p2), .val (.int v1), .val (.int v2), .val (.ref b3), .unset, .unset] [])) (fun _ k => XS.astore X4.here hx rfl (hb hby at_31) rfl rfl (l' := #[.val (.int p0), .val (.int p1), .val (.int p2), .val (.int v1), .val (.int v2), .val (.ref b3), .unset, .unset]) rfl k) ?_
  obtain ⟨T5, h5, X5, e5, E5, A5, D5, -, st5⟩ := newO X4 hx hZ hown (hw _ (List.mem_of_getElem? (i := 1) rfl)) (hw _ (List.mem_of_getElem? (i := 2) rfl)) (hw _ (List.mem_of_getElem? (i := 3) rfl)) rfl (g := (mkF m 33 #[.val (.int p0), .val (.int p1), .val (.int p2), .val (.int v1), .val (.int v2), .val (.ref b3), .unset, .unset] [])) rfl (hb hby at_33) (by decide) (by decide)
  obtain ⟨b5, g5⟩ : ∃ z, z = T4.heap.size := ⟨_, rfl⟩
  rw [← g5] at A5 D5 st5
  have gn_b5 : n0 ≤ b5 := Nat.le_trans Z4 (Nat.le_of_eq g5.symm)
  have ne_b3_b5 : b3 ≠ b5 := Nat.ne_of_lt (Nat.lt_of_lt_of_le Eq4.lt (Nat.le_of_eq g5.symm))
  have Eq4_c5 : Exa Z h5 b3 "com/example/assentor/assentor/core/SystemSize" := Eq4.ext E5
  have Fq4_n_c5 : Fld Z h5 b3 "com/example/assentor/assentor/core/SystemSize" "n" "I" (.int v1) := Fq4_n.ext E5
  have Fq4_f_c5 : Fld Z h5 b3 "com/example/assentor/assentor/core/SystemSize" "f" "I" (.int v2) := Fq4_f.ext E5
  have Z5 : n0 ≤ h5.size := Nat.le_trans Z4 E5.1
  have F_n_b5 : Fld Z h5 b5 "com/example/assentor/assentor/core/SystemSize" "n" "I" (.int (0 : Int32)) := D5 (Or.inr (hw _ (List.mem_of_getElem? (i := 16) rfl))) (ty := .int) (by decide)
  have F_f_b5 : Fld Z h5 b5 "com/example/assentor/assentor/core/SystemSize" "f" "I" (.int (0 : Int32)) := D5 (Or.inr (hw _ (List.mem_of_getElem? (i := 18) rfl))) (ty := .int) (by decide)
  refine own_go (G := T5.setTop (mkF m 36 #[.val (.int p0), .val (.int p1), .val (.int p2), .val (.int v1), .val (.int v2), .val (.ref b3), .unset, .unset] [(.ref b5)])) (st5) ?_
  refine own_go (G := T5.setTop (mkF m 37 #[.val (.int p0), .val (.int p1), .val (.int p2), .val (.int v1), .val (.int v2), .val (.ref b3), .unset, .unset] [(.ref b5), (.ref b5)])) (fun _ k => XS.dup X5.here hx rfl (hb hby at_36) rfl rfl k) ?_
  refine own_go (G := T5.setTop (mkF m 38 #[.val (.int p0), .val (.int p1), .val (.int p2), .val (.int v1), .val (.int v2), .val (.ref b3), .unset, .unset] [(.int v1), (.ref b5), (.ref b5)])) (fun _ k => XS.iloadN X5.here hx rfl (hb hby at_37) rfl k) ?_
  refine own_go (G := T5.setTop (mkF m 39 #[.val (.int p0), .val (.int p1), .val (.int p2), .val (.int v1), .val (.int v2), .val (.ref b3), .unset, .unset] [(.int (0 : Int32)), (.int v1), (.ref b5), (.ref b5)])) (fun _ k => XS.iconst X5.here hx rfl (hb hby at_38) k) ?_
  obtain ⟨_, _, ⟨T6, L6, k6, n6⟩, -, X6, ⟨Lc6, hQ6, l6, y6, z6⟩, st6⟩ := X5.specialBack hx (y := (⟨"com/example/assentor/assentor/core/SystemSize", "<init>", "(II)V"⟩ : MethodName)) rfl hown (mvT hZ (hw _ (List.mem_of_getElem? (i := 4) rfl))) (mvT hZ (hw _ (List.mem_of_getElem? (i := 5) rfl))) (mvT hZ (hw _ (List.mem_of_getElem? (i := 6) rfl))) (by decide) (backOf (W := 1) (rm1 l Z a0 hw [] b5 v1 (0 : Int32) h5 n0 Z5 F_n_b5 F_f_b5 A5 gn_b5 (own_p1 hv1) (own_p2 hv1) (by decide) (own_p5 hv1)) hZ (hw _ (List.mem_of_getElem? (i := 6) rfl)) (hw _ (List.mem_of_getElem? (i := 3) rfl)) (by decide) (by decide)) (g := (mkF m 39 #[.val (.int p0), .val (.int p1), .val (.int p2), .val (.int v1), .val (.int v2), .val (.ref b3), .unset, .unset] [(.int (0 : Int32)), (.int v1), (.ref b5), (.ref b5)])) rfl (by rw [hml]; rfl) (Steps.refl _) (a := b5) (argsL := [(.int v1), (.int (0 : Int32))]) (rest := [(.ref b5)]) (lenOf pd1 rfl) rfl (by show 2 * 0 + _ ≤ _; exact Nat.le_of_eq rfl) (hb hby at_39) (fun _ _ => ⟨rfl, e5, (by decide : 2 + 0 ≤ _), (by decide : 4 + 0 ≤ _)⟩)
  dsimp only [Pt.U, Pt.locs, Pt.cells, Pt.slots] at X6 l6 y6 z6 st6 hQ6
  subst l6 y6 z6
  obtain ⟨rfl, Nq6, Kq6, Eq6, Fq6_n, Fq6_f⟩ := hQ6
  have N6 := Fr.app N4 Nq6
  have Eq4_c6 : Exa Z T6.heap b3 "com/example/assentor/assentor/core/SystemSize" := Eq4_c5.keep Kq6
  have Fq4_n_c6 : Fld Z T6.heap b3 "com/example/assentor/assentor/core/SystemSize" "n" "I" (.int v1) := Fq4_n_c5.keep Kq6 (ninS ne_b3_b5 nin0)
  have Fq4_f_c6 : Fld Z T6.heap b3 "com/example/assentor/assentor/core/SystemSize" "f" "I" (.int v2) := Fq4_f_c5.keep Kq6 (ninS ne_b3_b5 nin0)
  have Z6 : n0 ≤ T6.heap.size := Nat.le_trans Z5 Kq6.1
  refine own_go (G := T6.setTop (mkF m 42 #[.val (.int p0), .val (.int p1), .val (.int p2), .val (.int v1), .val (.int v2), .val (.ref b3), .unset, .unset] [(.ref b5)])) (fun _ k => st6.trans k) ?_
  refine own_go (G := T6.setTop (mkF m 44 #[.val (.int p0), .val (.int p1), .val (.int p2), .val (.int v1), .val (.int v2), .val (.ref b3), .val (.ref b5), .unset] [])) (fun _ k => XS.astore X6.here hx rfl (hb hby at_42) rfl rfl (l' := #[.val (.int p0), .val (.int p1), .val (.int p2), .val (.int v1), .val (.int v2), .val (.ref b3), .val (.ref b5), .unset]) rfl k) ?_
  refine own_go (G := T6.setTop (mkF m 46 #[.val (.int p0), .val (.int p1), .val (.int p2), .val (.int v1), .val (.int v2), .val (.ref b3), .val (.ref b5), .unset] [(.ref b3)])) (fun _ k => XS.aload X6.here hx rfl (hb hby at_44) rfl rfl k) ?_
  refine own_go (G := T6.setTop (mkF m 47 #[.val (.int p0), .val (.int p1), .val (.int p2), .val (.int v1), .val (.int v2), .val (.ref b3), .val (.ref b5), .unset] [(.int p2), (.ref b3)])) (fun _ k => XS.iloadN X6.here hx rfl (hb hby at_46) rfl k) ?_
  obtain ⟨cq7, kq7, q7a, q7b, q7c⟩ := isOf hZ rfl Eq4_c6
  obtain ⟨_, _, ⟨T7, L7, k7, n7⟩, -, X7, ⟨Lc7, hQ7, l7, y7, z7⟩, st7⟩ := X6.virtualBack hx (y := (⟨"com/example/assentor/assentor/core/SystemSize", "isNode", "(I)Z"⟩ : MethodName)) (z := (⟨"com/example/assentor/assentor/core/SystemSize", "isNode", "(I)Z"⟩ : MethodName)) hown (mvT hZ (hw _ (List.mem_of_getElem? (i := 19) rfl))) (mvT hZ (hw _ (List.mem_of_getElem? (i := 20) rfl))) (notFace_of_selects (args := #[]) (mvT hZ (hw _ (List.mem_of_getElem? (i := 22) rfl)))) (mvT hZ (hw _ (List.mem_of_getElem? (i := 22) rfl))) (mvT hZ (hw _ (List.mem_of_getElem? (i := 21) rfl))) (by decide) (backOf (W := 0) (rm4 l Z a0 hw [] b3 p2 v1 T6.heap n0 Z6 Fq4_n_c6) hZ (hw _ (List.mem_of_getElem? (i := 23) rfl)) (hw _ (List.mem_of_getElem? (i := 3) rfl)) (by decide) (by decide)) q7a q7c (g := (mkF m 47 #[.val (.int p0), .val (.int p1), .val (.int p2), .val (.int v1), .val (.int v2), .val (.ref b3), .val (.ref b5), .unset] [(.int p2), (.ref b3)])) rfl (by rw [hml]; rfl) (Steps.refl _) (argsL := [(.int p2)]) (rest := []) (lenOf pd2 rfl) rfl (by show 2 * 0 + _ ≤ _; exact Nat.le_of_eq rfl) (hb hby at_47) (fun _ _ => ⟨rfl, rfl, (by decide : 2 + 0 ≤ _), (by decide : 4 + 0 ≤ _)⟩)
  dsimp only [Pt.U, Pt.locs, Pt.cells, Pt.slots] at X7 l7 y7 z7 st7 hQ7
  subst l7 y7 z7
  obtain ⟨rfl, Nq7, e7⟩ := hQ7
  have N7 := Fr.app N6 Nq7
  refine own_go (G := T7.setTop (mkF m 50 #[.val (.int p0), .val (.int p1), .val (.int p2), .val (.int v1), .val (.int v2), .val (.ref b3), .val (.ref b5), .unset] [(.int (F4 b3 p2 v1))])) (fun _ k => st7.trans k) ?_
  generalize hv8 : (F4 b3 p2 v1) = v8
  refine own_go (G := T7.setTop (mkF m 52 #[.val (.int p0), .val (.int p1), .val (.int p2), .val (.int v1), .val (.int v2), .val (.ref b3), .val (.ref b5), .val (.int v8)] [])) (fun _ k => XS.istore X7.here hx rfl (hb hby at_50) rfl (l' := #[.val (.int p0), .val (.int p1), .val (.int p2), .val (.int v1), .val (.int v2), .val (.ref b3), .val (.ref b5), .val (.int v8)]) rfl k) ?_
  refine own_go (G := T7.setTop (mkF m 54 #[.val (.int p0), .val (.int p1), .val (.int p2), .val (.int v1), .val (.int v2), .val (.ref b3), .val (.ref b5), .val (.int v8)] [(.int v8)])) (fun _ k => XS.iload X7.here hx rfl (hb hby at_52) rfl k) ?_
  refine own_go (G := T7.setTop (mkF m 55 #[.val (.int p0), .val (.int p1), .val (.int p2), .val (.int v1), .val (.int v2), .val (.ref b3), .val (.ref b5), .val (.int v8)] [(.int v1), (.int v8)])) (fun _ k => XS.iloadN X7.here hx rfl (hb hby at_54) rfl k) ?_
  refine own_go (G := T7.setTop (mkF m 56 #[.val (.int p0), .val (.int p1), .val (.int p2), .val (.int v1), .val (.int v2), .val (.ref b3), .val (.ref b5), .val (.int v8)] [(.int p2), (.int v1), (.int v8)])) (fun _ k => XS.iloadN X7.here hx rfl (hb hby at_55) rfl k) ?_
  obtain ⟨_, _, ⟨T9, L9, k9, n9⟩, -, X9, ⟨Lc9, hQ9, l9, y9, z9⟩, st9⟩ := Jvm.LawKit.callS X7 hx (y := (⟨"com/example/assentor/assentor/core/SystemSizeIsNodePinLaw", "ref", "(II)Z"⟩ : MethodName)) hown (mvT hZ (hw _ (List.mem_of_getElem? (i := 24) rfl))) (mvT hZ (hw _ (List.mem_of_getElem? (i := 25) rfl))) (mvT hZ (hw _ (List.mem_of_getElem? (i := 26) rfl))) (mvT hZ (hw _ (List.mem_of_getElem? (i := 27) rfl))) (by decide) (backOf (W := 1) (rm5 l Z a0 hw [] v1 p2 T6.heap n0 Z6) hZ (hw _ (List.mem_of_getElem? (i := 27) rfl)) (hw _ (List.mem_of_getElem? (i := 26) rfl)) (by decide) (by decide)) (g := (mkF m 56 #[.val (.int p0), .val (.int p1), .val (.int p2), .val (.int v1), .val (.int v2), .val (.ref b3), .val (.ref b5), .val (.int v8)] [(.int p2), (.int v1), (.int v8)])) rfl (by rw [hml]; rfl) (argsL := [(.int v1), (.int p2)]) (rest := [(.int v8)]) (lenOf pd3 rfl) rfl (by show 2 * 0 + _ ≤ _; exact Nat.le_of_eq rfl) (hb hby at_56) (fun _ _ => ⟨rfl, e7, (by decide : 2 + 0 ≤ _), (by decide : 4 + 0 ≤ _)⟩)
  dsimp only [Pt.U, Pt.locs, Pt.cells, Pt.slots] at X9 l9 y9 z9 st9 hQ9
  subst l9 y9 z9
  obtain ⟨rfl, Nq9, e9⟩ := hQ9
  have N9 := Fr.app N7 Nq9
  refine own_go (G := T9.setTop (mkF m 59 #[.val (.int p0), .val (.int p1), .val (.int p2), .val (.int v1), .val (.int v2), .val (.ref b3), .val (.ref b5), .val (.int v8)] [(.int (F5 v1 p2)), (.int v8)])) (st9) ?_
  refine own_go (G := T9.setTop (mkF m 64 #[.val (.int p0), .val (.int p1), .val (.int p2), .val (.int v1), .val (.int v2), .val (.ref b3), .val (.ref b5), .val (.int v8)] [])) (fun _ k => XS.icmpYes X9.here hx rfl (pc0 := 59) (pc' := 64) rfl (hb hby at_59) rfl (teq (own_ref _ hv8 : v8 = (F5 v1 p2))).1 (by decide) (by decide) k) ?_
  refine own_go (G := T9.setTop (mkF m 66 #[.val (.int p0), .val (.int p1), .val (.int p2), .val (.int v1), .val (.int v2), .val (.ref b3), .val (.ref b5), .val (.int v8)] [(.ref b5)])) (fun _ k => XS.aload X9.here hx rfl (hb hby at_64) rfl rfl k) ?_
  refine own_go (G := T9.setTop (mkF m 67 #[.val (.int p0), .val (.int p1), .val (.int p2), .val (.int v1), .val (.int v2), .val (.ref b3), .val (.ref b5), .val (.int v8)] [(.int p2), (.ref b5)])) (fun _ k => XS.iloadN X9.here hx rfl (hb hby at_66) rfl k) ?_
  obtain ⟨cq10, kq10, q10a, q10b, q10c⟩ := isOf hZ e9 Eq6
  obtain ⟨_, _, ⟨T10, L10, k10, n10⟩, -, X10, ⟨Lc10, hQ10, l10, y10, z10⟩, st10⟩ := X9.virtualBack hx (y := (⟨"com/example/assentor/assentor/core/SystemSize", "isNode", "(I)Z"⟩ : MethodName)) (z := (⟨"com/example/assentor/assentor/core/SystemSize", "isNode", "(I)Z"⟩ : MethodName)) hown (mvT hZ (hw _ (List.mem_of_getElem? (i := 19) rfl))) (mvT hZ (hw _ (List.mem_of_getElem? (i := 20) rfl))) (notFace_of_selects (args := #[]) (mvT hZ (hw _ (List.mem_of_getElem? (i := 22) rfl)))) (mvT hZ (hw _ (List.mem_of_getElem? (i := 22) rfl))) (mvT hZ (hw _ (List.mem_of_getElem? (i := 21) rfl))) (by decide) (backOf (W := 0) (rm4 l Z a0 hw [] b5 p2 v1 T6.heap n0 Z6 Fq6_n) hZ (hw _ (List.mem_of_getElem? (i := 23) rfl)) (hw _ (List.mem_of_getElem? (i := 3) rfl)) (by decide) (by decide)) q10a q10c (g := (mkF m 67 #[.val (.int p0), .val (.int p1), .val (.int p2), .val (.int v1), .val (.int v2), .val (.ref b3), .val (.ref b5), .val (.int v8)] [(.int p2), (.ref b5)])) rfl (by rw [hml]; rfl) (Steps.refl _) (argsL := [(.int p2)]) (rest := []) (lenOf pd2 rfl) rfl (by show 2 * 0 + _ ≤ _; exact Nat.le_of_eq rfl) (hb hby at_67) (fun _ _ => ⟨rfl, e9, (by decide : 2 + 0 ≤ _), (by decide : 4 + 0 ≤ _)⟩)
  dsimp only [Pt.U, Pt.locs, Pt.cells, Pt.slots] at X10 l10 y10 z10 st10 hQ10
  subst l10 y10 z10
  obtain ⟨rfl, Nq10, e10⟩ := hQ10
  have N10 := Fr.app N9 Nq10
  refine own_go (G := T10.setTop (mkF m 70 #[.val (.int p0), .val (.int p1), .val (.int p2), .val (.int v1), .val (.int v2), .val (.ref b3), .val (.ref b5), .val (.int v8)] [(.int (F4 b5 p2 v1))])) (fun _ k => st10.trans k) ?_
  refine own_go (G := T10.setTop (mkF m 72 #[.val (.int p0), .val (.int p1), .val (.int p2), .val (.int v1), .val (.int v2), .val (.ref b3), .val (.ref b5), .val (.int v8)] [(.int v8), (.int (F4 b5 p2 v1))])) (fun _ k => XS.iload X10.here hx rfl (hb hby at_70) rfl k) ?_
  refine own_go (G := T10.setTop (mkF m 77 #[.val (.int p0), .val (.int p1), .val (.int p2), .val (.int v1), .val (.int v2), .val (.ref b3), .val (.ref b5), .val (.int v8)] [])) (fun _ k => XS.icmpYes X10.here hx rfl (pc0 := 72) (pc' := 77) rfl (hb hby at_72) rfl (teq (own_eq _ _ hv8 : (F4 b5 p2 v1) = v8)).1 (by decide) (by decide) k) ?_
  refine own_go (G := T10.setTop (mkF m 79 #[.val (.int p0), .val (.int p1), .val (.int p2), .val (.int v1), .val (.int v2), .val (.ref b3), .val (.ref b5), .val (.int v8)] [(.ref b3)])) (fun _ k => XS.aload X10.here hx rfl (hb hby at_77) rfl rfl k) ?_
  refine own_go (G := T10.setTop (mkF m 80 #[.val (.int p0), .val (.int p1), .val (.int p2), .val (.int v1), .val (.int v2), .val (.ref b3), .val (.ref b5), .val (.int v8)] [(.int (1 : Int32)), (.ref b3)])) (fun _ k => XS.iconst X10.here hx rfl (hb hby at_79) k) ?_
  obtain ⟨cq11, kq11, q11a, q11b, q11c⟩ := isOf hZ e10 Eq4_c6
  obtain ⟨_, _, ⟨T11, L11, k11, n11⟩, -, X11, ⟨Lc11, hQ11, l11, y11, z11⟩, st11⟩ := X10.virtualBack hx (y := (⟨"com/example/assentor/assentor/core/SystemSize", "isNode", "(I)Z"⟩ : MethodName)) (z := (⟨"com/example/assentor/assentor/core/SystemSize", "isNode", "(I)Z"⟩ : MethodName)) hown (mvT hZ (hw _ (List.mem_of_getElem? (i := 19) rfl))) (mvT hZ (hw _ (List.mem_of_getElem? (i := 20) rfl))) (notFace_of_selects (args := #[]) (mvT hZ (hw _ (List.mem_of_getElem? (i := 22) rfl)))) (mvT hZ (hw _ (List.mem_of_getElem? (i := 22) rfl))) (mvT hZ (hw _ (List.mem_of_getElem? (i := 21) rfl))) (by decide) (backOf (W := 0) (rm4 l Z a0 hw [] b3 (1 : Int32) v1 T6.heap n0 Z6 Fq4_n_c6) hZ (hw _ (List.mem_of_getElem? (i := 23) rfl)) (hw _ (List.mem_of_getElem? (i := 3) rfl)) (by decide) (by decide)) q11a q11c (g := (mkF m 80 #[.val (.int p0), .val (.int p1), .val (.int p2), .val (.int v1), .val (.int v2), .val (.ref b3), .val (.ref b5), .val (.int v8)] [(.int (1 : Int32)), (.ref b3)])) rfl (by rw [hml]; rfl) (Steps.refl _) (argsL := [(.int (1 : Int32))]) (rest := []) (lenOf pd2 rfl) rfl (by show 2 * 0 + _ ≤ _; exact Nat.le_of_eq rfl) (hb hby at_80) (fun _ _ => ⟨rfl, e10, (by decide : 2 + 0 ≤ _), (by decide : 4 + 0 ≤ _)⟩)
  dsimp only [Pt.U, Pt.locs, Pt.cells, Pt.slots] at X11 l11 y11 z11 st11 hQ11
  subst l11 y11 z11
  obtain ⟨rfl, Nq11, e11⟩ := hQ11
  have N11 := Fr.app N10 Nq11
  refine own_go (G := T11.setTop (mkF m 83 #[.val (.int p0), .val (.int p1), .val (.int p2), .val (.int v1), .val (.int v2), .val (.ref b3), .val (.ref b5), .val (.int v8)] [(.int (F4 b3 (1 : Int32) v1))])) (fun _ k => st11.trans k) ?_
  refine own_go (G := T11.setTop (mkF m 88 #[.val (.int p0), .val (.int p1), .val (.int p2), .val (.int v1), .val (.int v2), .val (.ref b3), .val (.ref b5), .val (.int v8)] [])) (fun _ k => XS.ifYes X11.here hx rfl (pc0 := 83) (pc' := 88) rfl (hb hby at_83) rfl ((if0 _ _).trans (feq (own_q1 _ hv1 : ¬ ((F4 b3 (1 : Int32) v1) = (0 : Int32)))).2) (by decide) (by decide) k) ?_
  refine own_go (G := T11.setTop (mkF m 90 #[.val (.int p0), .val (.int p1), .val (.int p2), .val (.int v1), .val (.int v2), .val (.ref b3), .val (.ref b5), .val (.int v8)] [(.ref b3)])) (fun _ k => XS.aload X11.here hx rfl (hb hby at_88) rfl rfl k) ?_
  refine own_go (G := T11.setTop (mkF m 91 #[.val (.int p0), .val (.int p1), .val (.int p2), .val (.int v1), .val (.int v2), .val (.ref b3), .val (.ref b5), .val (.int v8)] [(.int v1), (.ref b3)])) (fun _ k => XS.iloadN X11.here hx rfl (hb hby at_90) rfl k) ?_
  obtain ⟨cq12, kq12, q12a, q12b, q12c⟩ := isOf hZ e11 Eq4_c6
  obtain ⟨_, _, ⟨T12, L12, k12, n12⟩, -, X12, ⟨Lc12, hQ12, l12, y12, z12⟩, st12⟩ := X11.virtualBack hx (y := (⟨"com/example/assentor/assentor/core/SystemSize", "isNode", "(I)Z"⟩ : MethodName)) (z := (⟨"com/example/assentor/assentor/core/SystemSize", "isNode", "(I)Z"⟩ : MethodName)) hown (mvT hZ (hw _ (List.mem_of_getElem? (i := 19) rfl))) (mvT hZ (hw _ (List.mem_of_getElem? (i := 20) rfl))) (notFace_of_selects (args := #[]) (mvT hZ (hw _ (List.mem_of_getElem? (i := 22) rfl)))) (mvT hZ (hw _ (List.mem_of_getElem? (i := 22) rfl))) (mvT hZ (hw _ (List.mem_of_getElem? (i := 21) rfl))) (by decide) (backOf (W := 0) (rm4 l Z a0 hw [] b3 v1 v1 T6.heap n0 Z6 Fq4_n_c6) hZ (hw _ (List.mem_of_getElem? (i := 23) rfl)) (hw _ (List.mem_of_getElem? (i := 3) rfl)) (by decide) (by decide)) q12a q12c (g := (mkF m 91 #[.val (.int p0), .val (.int p1), .val (.int p2), .val (.int v1), .val (.int v2), .val (.ref b3), .val (.ref b5), .val (.int v8)] [(.int v1), (.ref b3)])) rfl (by rw [hml]; rfl) (Steps.refl _) (argsL := [(.int v1)]) (rest := []) (lenOf pd2 rfl) rfl (by show 2 * 0 + _ ≤ _; exact Nat.le_of_eq rfl) (hb hby at_91) (fun _ _ => ⟨rfl, e11, (by decide : 2 + 0 ≤ _), (by decide : 4 + 0 ≤ _)⟩)
  dsimp only [Pt.U, Pt.locs, Pt.cells, Pt.slots] at X12 l12 y12 z12 st12 hQ12
  subst l12 y12 z12
  obtain ⟨rfl, Nq12, e12⟩ := hQ12
  have N12 := Fr.app N11 Nq12
  refine own_go (G := T12.setTop (mkF m 94 #[.val (.int p0), .val (.int p1), .val (.int p2), .val (.int v1), .val (.int v2), .val (.ref b3), .val (.ref b5), .val (.int v8)] [(.int (F4 b3 v1 v1))])) (fun _ k => st12.trans k) ?_
  refine own_go (G := T12.setTop (mkF m 99 #[.val (.int p0), .val (.int p1), .val (.int p2), .val (.int v1), .val (.int v2), .val (.ref b3), .val (.ref b5), .val (.int v8)] [])) (fun _ k => XS.ifYes X12.here hx rfl (pc0 := 94) (pc' := 99) rfl (hb hby at_94) rfl ((if0 _ _).trans (feq (own_q2 _ hv1 : ¬ ((F4 b3 v1 v1) = (0 : Int32)))).2) (by decide) (by decide) k) ?_
  refine own_go (G := T12.setTop (mkF m 101 #[.val (.int p0), .val (.int p1), .val (.int p2), .val (.int v1), .val (.int v2), .val (.ref b3), .val (.ref b5), .val (.int v8)] [(.ref b3)])) (fun _ k => XS.aload X12.here hx rfl (hb hby at_99) rfl rfl k) ?_
  refine own_go (G := T12.setTop (mkF m 102 #[.val (.int p0), .val (.int p1), .val (.int p2), .val (.int v1), .val (.int v2), .val (.ref b3), .val (.ref b5), .val (.int v8)] [(.int (0 : Int32)), (.ref b3)])) (fun _ k => XS.iconst X12.here hx rfl (hb hby at_101) k) ?_
  obtain ⟨cq13, kq13, q13a, q13b, q13c⟩ := isOf hZ e12 Eq4_c6
  obtain ⟨_, _, ⟨T13, L13, k13, n13⟩, -, X13, ⟨Lc13, hQ13, l13, y13, z13⟩, st13⟩ := X12.virtualBack hx (y := (⟨"com/example/assentor/assentor/core/SystemSize", "isNode", "(I)Z"⟩ : MethodName)) (z := (⟨"com/example/assentor/assentor/core/SystemSize", "isNode", "(I)Z"⟩ : MethodName)) hown (mvT hZ (hw _ (List.mem_of_getElem? (i := 19) rfl))) (mvT hZ (hw _ (List.mem_of_getElem? (i := 20) rfl))) (notFace_of_selects (args := #[]) (mvT hZ (hw _ (List.mem_of_getElem? (i := 22) rfl)))) (mvT hZ (hw _ (List.mem_of_getElem? (i := 22) rfl))) (mvT hZ (hw _ (List.mem_of_getElem? (i := 21) rfl))) (by decide) (backOf (W := 0) (rm4 l Z a0 hw [] b3 (0 : Int32) v1 T6.heap n0 Z6 Fq4_n_c6) hZ (hw _ (List.mem_of_getElem? (i := 23) rfl)) (hw _ (List.mem_of_getElem? (i := 3) rfl)) (by decide) (by decide)) q13a q13c (g := (mkF m 102 #[.val (.int p0), .val (.int p1), .val (.int p2), .val (.int v1), .val (.int v2), .val (.ref b3), .val (.ref b5), .val (.int v8)] [(.int (0 : Int32)), (.ref b3)])) rfl (by rw [hml]; rfl) (Steps.refl _) (argsL := [(.int (0 : Int32))]) (rest := []) (lenOf pd2 rfl) rfl (by show 2 * 0 + _ ≤ _; exact Nat.le_of_eq rfl) (hb hby at_102) (fun _ _ => ⟨rfl, e12, (by decide : 2 + 0 ≤ _), (by decide : 4 + 0 ≤ _)⟩)
  dsimp only [Pt.U, Pt.locs, Pt.cells, Pt.slots] at X13 l13 y13 z13 st13 hQ13
  subst l13 y13 z13
  obtain ⟨rfl, Nq13, e13⟩ := hQ13
  have N13 := Fr.app N12 Nq13
  refine own_go (G := T13.setTop (mkF m 105 #[.val (.int p0), .val (.int p1), .val (.int p2), .val (.int v1), .val (.int v2), .val (.ref b3), .val (.ref b5), .val (.int v8)] [(.int (F4 b3 (0 : Int32) v1))])) (fun _ k => st13.trans k) ?_
  refine own_go (G := T13.setTop (mkF m 110 #[.val (.int p0), .val (.int p1), .val (.int p2), .val (.int v1), .val (.int v2), .val (.ref b3), .val (.ref b5), .val (.int v8)] [])) (fun _ k => XS.ifYes X13.here hx rfl (pc0 := 105) (pc' := 110) rfl (hb hby at_105) rfl ((if0 _ _).trans (teq (own_q3 _ _ : (F4 b3 (0 : Int32) v1) = (0 : Int32))).1) (by decide) (by decide) k) ?_
  refine own_go (G := T13.setTop (mkF m 112 #[.val (.int p0), .val (.int p1), .val (.int p2), .val (.int v1), .val (.int v2), .val (.ref b3), .val (.ref b5), .val (.int v8)] [(.ref b3)])) (fun _ k => XS.aload X13.here hx rfl (hb hby at_110) rfl rfl k) ?_
  refine own_go (G := T13.setTop (mkF m 113 #[.val (.int p0), .val (.int p1), .val (.int p2), .val (.int v1), .val (.int v2), .val (.ref b3), .val (.ref b5), .val (.int v8)] [(.int v1), (.ref b3)])) (fun _ k => XS.iloadN X13.here hx rfl (hb hby at_112) rfl k) ?_
  refine own_go (G := T13.setTop (mkF m 114 #[.val (.int p0), .val (.int p1), .val (.int p2), .val (.int v1), .val (.int v2), .val (.ref b3), .val (.ref b5), .val (.int v8)] [(.int (1 : Int32)), (.int v1), (.ref b3)])) (fun _ k => XS.iconst X13.here hx rfl (hb hby at_113) k) ?_
  refine own_go (G := T13.setTop (mkF m 115 #[.val (.int p0), .val (.int p1), .val (.int p2), .val (.int v1), .val (.int v2), .val (.ref b3), .val (.ref b5), .val (.int v8)] [(.int (v1 + (1 : Int32))), (.ref b3)])) (fun _ k => XS.iadd X13.here hx rfl (hb hby at_114) rfl k) ?_
  obtain ⟨cq14, kq14, q14a, q14b, q14c⟩ := isOf hZ e13 Eq4_c6
  obtain ⟨_, _, ⟨T14, L14, k14, n14⟩, -, X14, ⟨Lc14, hQ14, l14, y14, z14⟩, st14⟩ := X13.virtualBack hx (y := (⟨"com/example/assentor/assentor/core/SystemSize", "isNode", "(I)Z"⟩ : MethodName)) (z := (⟨"com/example/assentor/assentor/core/SystemSize", "isNode", "(I)Z"⟩ : MethodName)) hown (mvT hZ (hw _ (List.mem_of_getElem? (i := 19) rfl))) (mvT hZ (hw _ (List.mem_of_getElem? (i := 20) rfl))) (notFace_of_selects (args := #[]) (mvT hZ (hw _ (List.mem_of_getElem? (i := 22) rfl)))) (mvT hZ (hw _ (List.mem_of_getElem? (i := 22) rfl))) (mvT hZ (hw _ (List.mem_of_getElem? (i := 21) rfl))) (by decide) (backOf (W := 0) (rm4 l Z a0 hw [] b3 (v1 + (1 : Int32)) v1 T6.heap n0 Z6 Fq4_n_c6) hZ (hw _ (List.mem_of_getElem? (i := 23) rfl)) (hw _ (List.mem_of_getElem? (i := 3) rfl)) (by decide) (by decide)) q14a q14c (g := (mkF m 115 #[.val (.int p0), .val (.int p1), .val (.int p2), .val (.int v1), .val (.int v2), .val (.ref b3), .val (.ref b5), .val (.int v8)] [(.int (v1 + (1 : Int32))), (.ref b3)])) rfl (by rw [hml]; rfl) (Steps.refl _) (argsL := [(.int (v1 + (1 : Int32)))]) (rest := []) (lenOf pd2 rfl) rfl (by show 2 * 0 + _ ≤ _; exact Nat.le_of_eq rfl) (hb hby at_115) (fun _ _ => ⟨rfl, e13, (by decide : 2 + 0 ≤ _), (by decide : 4 + 0 ≤ _)⟩)
  dsimp only [Pt.U, Pt.locs, Pt.cells, Pt.slots] at X14 l14 y14 z14 st14 hQ14
  subst l14 y14 z14
  obtain ⟨rfl, Nq14, e14⟩ := hQ14
  have N14 := Fr.app N13 Nq14
  refine own_go (G := T14.setTop (mkF m 118 #[.val (.int p0), .val (.int p1), .val (.int p2), .val (.int v1), .val (.int v2), .val (.ref b3), .val (.ref b5), .val (.int v8)] [(.int (F4 b3 (v1 + (1 : Int32)) v1))])) (fun _ k => st14.trans k) ?_
  refine own_go (G := T14.setTop (mkF m 123 #[.val (.int p0), .val (.int p1), .val (.int p2), .val (.int v1), .val (.int v2), .val (.ref b3), .val (.ref b5), .val (.int v8)] [])) (fun _ k => XS.ifYes X14.here hx rfl (pc0 := 118) (pc' := 123) rfl (hb hby at_118) rfl ((if0 _ _).trans (teq (own_q4 _ hv1 : (F4 b3 (v1 + (1 : Int32)) v1) = (0 : Int32))).1) (by decide) (by decide) k) ?_
  refine own_go (G := T14.setTop (mkF m 124 #[.val (.int p0), .val (.int p1), .val (.int p2), .val (.int v1), .val (.int v2), .val (.ref b3), .val (.ref b5), .val (.int v8)] [(.int (1 : Int32))])) (fun _ k => XS.iconst X14.here hx rfl (hb hby at_123) k) ?_
  exact own_ret1 X14 hx Bd.returns (hb hby at_124) Bd.notSynchronized (by decide) (by decide) ⟨rfl, N14⟩
set_option maxRecDepth 65536 in
set_option maxHeartbeats 40000000 in
theorem comes_1 {Post : Tables → Env → Array Value → State → Outcome → State → Prop} (hpost : ∀ tb e args s v u, (limb_1_1.after args s (.returned v) u = true ∧ limb_1_2.after args s (.returned v) u = true ∧ True) → FrameEnd s (.returned v) u (Jvm.fieldLocs frame_1_writes args s ++ Jvm.arrayLocs frame_1_arrays args s ++ Jvm.staticLocs frame_1_statics s) 16 128 → Post tb e args s (.returned v) u) :
    ArmFor flags0 classFile x code maxLocals ret World_1 tables_1 room_1 Calls_1 rest_1 Pre_1 Post := by
  intro l hfl _ _ p e ha hc hk s m args below hf hA hF happ hP
  obtain ⟨hcalls, hrest, hpre⟩ := hP
  obtain ⟨-, -, -, hnamed, -, -, -, hat⟩ := (Spec.applies_iff hf).mp happ
  obtain ⟨hg, hn⟩ := and_e (Cond.before_iff.mp (show (Jvm.Cond.and given_1 narrow_1).before args s = true from hpre))
  obtain ⟨gc, g0⟩ := and_e hg
  obtain ⟨ga0, g1⟩ := and_e g0
  obtain ⟨ga1, g2⟩ := and_e g1
  obtain ⟨w0, w1, w2, rfl⟩ : ∃ w0 w1 w2 : Value, args = #[w0, w1, w2] := by
    have hs : args.size = 3 := by simpa [Cond.value, given_1] using gc
    obtain ⟨L⟩ := args
    match L, hs with
    | [w0, w1, w2], _ => exact ⟨w0, w1, w2, rfl⟩
  have hw := fun d (hd : d ∈ tables_1) => atoms_spec (ws := Jvm.Cond.code x code maxLocals ret :: tables_1) hat d (List.mem_cons_of_mem _ hd)
  obtain ⟨i0, ei0⟩ := is_v ga0
  obtain rfl : w0 = (.int i0) := Option.some.inj ei0
  obtain ⟨i1, ei1⟩ := is_v ga1
  obtain rfl : w1 = (.int i1) := Option.some.inj ei1
  obtain ⟨i2, ei2⟩ := is_v g2
  obtain rfl : w2 = (.int i2) := Option.some.inj ei2
  obtain ⟨n, o, h1, h2, h3, _, L, rfl, ⟨rfl, N⟩, hq⟩ := rm0 l s _ hw tables_1 i0 i1 i2 s.heap s.heap.size (Nat.le_refl _) p e ha hc hk s m _ below hf ((Spec.applies_iff_loose hf).mp happ).1 ⟨rfl, State.Warmed39.refl s, rfl⟩ trivial
  refine ⟨n, _, h1, h2, h3, hpost _ _ _ _ _ _ ⟨Cond.after_iff.mpr rfl, Cond.after_iff.mpr (eq_i res_at (Term.int_eval (1)) rfl), trivial⟩ ⟨hq.1, hq.2.1, (hq.2.2.sift fun y hy => Or.inr (N y hy)).mono (by decide) (by decide)⟩⟩
theorem main_1_1 : Claimed_1_1 := comes_1 fun _ _ _ _ _ _ h hF => ⟨h.1, hF⟩
theorem main_1_2 : Claimed_1_2 := comes_1 fun _ _ _ _ _ _ h hF => ⟨h.2.1, hF⟩
end Jvm.Pilot.@@N@@
namespace Jvm.Pilot.@@N@@
open Jvm Jvm.ClassFile Sem Op Lib Jvm.Free Jvm.Stand Jvm.Pilot.@@N@@.Jvm.D
/-! MADE BY PROGRAM (witnessworld.py) out of the Statement's table words and the real class files: 10 classes; the members and pool entries that the words name. The judged class is class 1, her method 2. -/
namespace start1
open Jvm.ClassFile
def u (s : String) : CpInfo := .utf8 (stringToUtf16 s)
/-- a pool by its gaps: so many unusable entries, then the entry; so many at the end -/
def gap : Nat → List CpInfo → List CpInfo
  | 0, r => r
  | n + 1, r => .unusable :: gap n r
def poolList (es : List (Nat × CpInfo)) (last : Nat) : List CpInfo := es.foldr (fun e r => gap e.1 (e.2 :: r)) (gap last [])
def pool (es : List (Nat × CpInfo)) (last : Nat) : Array CpInfo := ⟨poolList es last⟩
def fileOf (pool : Array CpInfo) (this : Nat) (attrs : Array Attribute := #[]) (ms : Array MethodInfo := #[]) (fl : Nat := 33) (sup : Nat := 0) (ifs : Array Nat := #[]) (fds : Array FieldInfo := #[]) : ClassFile where
  minorVersion := 0
  majorVersion := 65
  constantPool := pool
  accessFlags := fl
  thisClass := this
  superClass := sup
  interfaces := ifs
  fields := fds
  methods := ms
  attributes := attrs
def plain (name : String) (sup : Option ClassId) : Class where
  name := name
  kind := .ordinary
  loader := none
  accessFlags := 33
  super := sup
  interfaces := #[]
  cf := none
  fields := #[]
  methods := #[]
  instanceTypes := #[]
  staticTypes := #[]
  resolved := #[]
  callSites := []
  init := .initialized
  statics := none
  mirror := none

def pool0 : Array CpInfo := pool [(5, u "<init>"), (0, u "()V"), (1, .class_ 10), (1, u "java/lang/Object")] 113

def k0c0 : Code := { maxStack := 0, maxLocals := 1, code := object_method_1_code, exceptionTable := #[], attributes := #[] }
def k0m0 : Method := { name := "<init>", desc := "()V", sig := { parameters := [], returnType := none }, accessFlags := 1, code := some k0c0 }
/-- java/lang/Object -/
def k0 : Class := { plain "java/lang/Object" none with
  accessFlags := 33
  interfaces := #[]
  cf := some (fileOf pool0 8 #[] #[{ accessFlags := 1, nameIndex := 5, descriptorIndex := 6, attributes := #[] }] 33 0 #[] #[])
  fields := #[]
  methods := #[k0m0]
  instanceTypes := #[]
  staticTypes := #[]
  resolved := Array.replicate 124 none
  statics := none }

def pool1 : Array CpInfo := pool [(2, .class_ 4), (1, u "java/lang/Object"), (0, u "<init>"), (0, u "()V"), (0, .integer 2147483647), (0, .class_ 9), (0, u "com/example/assentor/assentor/core/SystemSize"), (0, .methodref 8 11), (0, .nameAndType 5 12), (0, u "(II)V"), (0, .methodref 8 14), (0, .nameAndType 15 16), (0, u "isNode"), (0, u "(I)Z"), (0, .methodref 18 19), (0, .class_ 20), (0, .nameAndType 21 22), (0, u "com/example/assentor/assentor/core/SystemSizeIsNodePinLaw"), (0, u "ref"), (0, u "(II)Z"), (3, u "law"), (0, u "(III)Z")] 2

def k1m0 : Method := { name := "<init>", desc := "()V", sig := { parameters := [], returnType := none }, accessFlags := 1, code := none }
def k1c1 : Code := { maxStack := 4, maxLocals := 4, code := method_2_code, exceptionTable := #[], attributes := #[] }
def k1m1 : Method := { name := "ref", desc := "(II)Z", sig := { parameters := [.int, .int], returnType := some .boolean }, accessFlags := 10, code := some k1c1 }
def k1c2 : Code := { maxStack := 4, maxLocals := 8, code := code, exceptionTable := #[], attributes := #[] }
def k1m2 : Method := { name := "law", desc := "(III)Z", sig := { parameters := [.int, .int, .int], returnType := some .boolean }, accessFlags := 9, code := some k1c2 }
/-- com/example/assentor/assentor/core/SystemSizeIsNodePinLaw -/
def k1 : Class := { plain "com/example/assentor/assentor/core/SystemSizeIsNodePinLaw" (some 0) with
  accessFlags := 49
  interfaces := #[]
  cf := some (fileOf pool1 18 #[] #[{ accessFlags := 1, nameIndex := 5, descriptorIndex := 6, attributes := #[] }, { accessFlags := 10, nameIndex := 21, descriptorIndex := 22, attributes := #[] }, { accessFlags := 9, nameIndex := 26, descriptorIndex := 27, attributes := #[] }] 49 2 #[] #[])
  fields := #[]
  methods := #[k1m0, k1m1, k1m2]
  instanceTypes := #[]
  staticTypes := #[]
  resolved := Array.replicate 30 none
  statics := none }

def pool2 : Array CpInfo := pool [(1, .methodref 2 3), (0, .class_ 4), (0, .nameAndType 5 6), (0, u "java/lang/Object"), (0, u "<init>"), (0, u "()V"), (0, .class_ 8), (0, u "java/lang/Record")] 13

def k2c0 : Code := { maxStack := 1, maxLocals := 1, code := jdk_30_method_1_code, exceptionTable := #[], attributes := #[] }
def k2m0 : Method := { name := "<init>", desc := "()V", sig := { parameters := [], returnType := none }, accessFlags := 4, code := some k2c0 }
/-- java/lang/Record -/
def k2 : Class := { plain "java/lang/Record" (some 0) with
  accessFlags := 1057
  interfaces := #[]
  cf := some (fileOf pool2 7 #[] #[{ accessFlags := 4, nameIndex := 5, descriptorIndex := 6, attributes := #[] }] 1057 2 #[] #[])
  fields := #[]
  methods := #[k2m0]
  instanceTypes := #[]
  staticTypes := #[]
  resolved := Array.replicate 22 none
  statics := none }

def pool3 : Array CpInfo := pool [(1, .methodref 2 3), (0, .class_ 4), (0, .nameAndType 5 6), (0, u "java/lang/Record"), (0, u "<init>"), (0, u "()V"), (0, .class_ 8), (0, u "com/example/assentor/assentor/core/SystemSize"), (12, .fieldref 7 22), (0, .nameAndType 23 24), (0, u "n"), (0, u "I"), (0, .fieldref 7 26), (0, .nameAndType 27 24), (0, u "f"), (12, u "MIN_NODES"), (2, u "MAX_NODES"), (1, u "(II)V"), (6, u "isNode"), (0, u "(I)Z")] 33

def k3c0 : Code := { maxStack := 4, maxLocals := 3, code := prog_48_method_1_code, exceptionTable := #[], attributes := #[] }
def k3m0 : Method := { name := "<init>", desc := "(II)V", sig := { parameters := [.int, .int], returnType := none }, accessFlags := 1, code := some k3c0 }
def k3c1 : Code := { maxStack := 2, maxLocals := 2, code := prog_48_method_3_code, exceptionTable := #[], attributes := #[] }
def k3m1 : Method := { name := "isNode", desc := "(I)Z", sig := { parameters := [.int], returnType := some .boolean }, accessFlags := 1, code := some k3c1 }
/-- com/example/assentor/assentor/core/SystemSize -/
def k3 : Class := { plain "com/example/assentor/assentor/core/SystemSize" (some 2) with
  accessFlags := 49
  interfaces := #[]
  cf := some (fileOf pool3 7 #[] #[{ accessFlags := 1, nameIndex := 5, descriptorIndex := 45, attributes := #[] }, { accessFlags := 1, nameIndex := 52, descriptorIndex := 53, attributes := #[] }] 49 2 #[] #[{ accessFlags := 18, nameIndex := 23, descriptorIndex := 24, attributes := #[] }, { accessFlags := 18, nameIndex := 27, descriptorIndex := 24, attributes := #[] }, { accessFlags := 25, nameIndex := 40, descriptorIndex := 24, attributes := #[] }, { accessFlags := 25, nameIndex := 43, descriptorIndex := 24, attributes := #[] }])
  fields := #[{ name := "n", type := .int, accessFlags := 18, slot := 0, constantValue := 0 }, { name := "f", type := .int, accessFlags := 18, slot := 1, constantValue := 0 }, { name := "MIN_NODES", type := .int, accessFlags := 25, slot := 0, constantValue := 0 }, { name := "MAX_NODES", type := .int, accessFlags := 25, slot := 1, constantValue := 0 }]
  methods := #[k3m0, k3m1]
  instanceTypes := #[.int, .int]
  staticTypes := #[.int, .int]
  resolved := Array.replicate 87 none
  statics := none }

def pool4 : Array CpInfo := pool [(1, u "java/lang/Cloneable"), (0, .class_ 1), (0, u "java/lang/Object"), (0, .class_ 3)] 3

/-- java/lang/Cloneable -/
def k4 : Class := { plain "java/lang/Cloneable" (some 0) with
  accessFlags := 1537
  interfaces := #[]
  cf := some (fileOf pool4 2 #[] #[] 1537 4 #[] #[])
  fields := #[]
  methods := #[]
  instanceTypes := #[]
  staticTypes := #[]
  resolved := Array.replicate 8 none
  statics := none }

def pool5 : Array CpInfo := pool [(1, u "java/io/Serializable"), (0, .class_ 1), (0, u "java/lang/Object"), (0, .class_ 3)] 3

/-- java/io/Serializable -/
def k5 : Class := { plain "java/io/Serializable" (some 0) with
  accessFlags := 1537
  interfaces := #[]
  cf := some (fileOf pool5 2 #[] #[] 1537 4 #[] #[])
  fields := #[]
  methods := #[]
  instanceTypes := #[]
  staticTypes := #[]
  resolved := Array.replicate 8 none
  statics := none }

/-- the primitive byte -/
def k6 : Class := { plain "byte" none with kind := .primitive 'B', accessFlags := 0x411 }
/-- [B -/
def k7 : Class := { plain "[B" (some 0) with kind := .array 6 .byte, interfaces := #[4, 5], accessFlags := 1041 }

/-- the primitive int -/
def k8 : Class := { plain "int" none with kind := .primitive 'I', accessFlags := 0x411 }
/-- [I -/
def k9 : Class := { plain "[I" (some 0) with kind := .array 8 .int, interfaces := #[4, 5], accessFlags := 1041 }

def heap : Heap := #[]
def classes : Array Class := #[k0, k1, k2, k3, k4, k5, k6, k7, k8, k9]
def interned : List (Array UInt16 × Addr) := []
def slotsUsed : Nat := 0
def theMethod : MethodId := ⟨1, 2⟩
def args0 : Array Value := #[.int 5, .int 5, .int 5]
def aboutOver (below : List Frame) : State where
  vm := { classes := classes, interned := interned.toArray }
  heap := heap
  slotsUsed := slotsUsed
  threads := #[{ frames := .invoking theMethod args0 :: below }]
def below0 : List Frame := [.native { method := ⟨0, 0⟩, args := #[] }]
def about1 : State := aboutOver below0
def p0 : Program := .bare "" "" ""
def e0 : Env := launch0.env 0 0 0
theorem w_frames : about1.frames = Frame.invoking theMethod args0 :: below0 := rfl
set_option maxRecDepth 65536 in
theorem w_args : argsFit about1.vm theMethod args0 = true := by decide +kernel
set_option maxRecDepth 65536 in
theorem w_heap : heapFits about1 = true := by decide +kernel
set_option maxRecDepth 65536 in
theorem w_runnable : about1.curStatus? = some .runnable := by decide +kernel
set_option maxRecDepth 65536 in
theorem w_alone : about1.alone = true := by decide +kernel
set_option maxRecDepth 65536 in
theorem w_named : about1.methodNamed? x = some theMethod := by decide +kernel
set_option maxRecDepth 65536 in
theorem w_hears : about1.hears theMethod below0 = true := by decide +kernel
set_option maxRecDepth 65536 in
theorem w_ripe : about1.ripe theMethod args0 below0 = true := by decide +kernel
theorem w_running : about1.status = .running := rfl
set_option maxRecDepth 65536 in
theorem w_room : about1.hasRoom e0.platform room_1 = true :=
  launch0.hasRoom_least _ room_1 (by decide +kernel) (by decide +kernel) (by decide +kernel) (by decide +kernel) (by decide +kernel) (by decide +kernel)
theorem allAtoms_all (ts : List Jvm.Cond) (a : Array Jvm.Value) (st : Jvm.State) : (allAtoms ts).before a st = ts.all (fun c => c.before a st) := by
  induction ts with
  | nil => rfl
  | cons c t ih =>
    show (Jvm.Cond.and c (allAtoms t)).before a st = _
    rw [Jvm.Cond.before_and, ih, List.all_cons]
def words1 : List Jvm.Cond := Jvm.Cond.code x code maxLocals ret :: tables_1
/-- a 'code' word, met by the world's own term for the bytes: nothing is compared byte by byte -/
theorem code_word {y : MethodName} {bytes : ByteArray} {mx : Nat} {rt : Option FieldType} {a : Array Value} {s : State} {m : MethodId} {meth : Method} {c : Code} (h1 : s.methodNamed? y = some m) (h2 : s.vm.method? m = some meth) (h3 : meth.code = some c) (h4 : c.code = bytes)
    (h5 : (c.maxLocals == mx && c.exceptionTable.isEmpty && decide (c.maxStack ≤ mostOperands) && decide (meth.sig.returnType = rt) && !meth.locks && decide (parseMethodDescriptor y.desc = some meth.sig)) = true) : (Jvm.Cond.code y bytes mx rt).before a s = true := by
  simp only [Bool.and_eq_true, beq_iff_eq, Bool.not_eq_true', decide_eq_true_eq] at h5
  obtain ⟨⟨⟨⟨⟨g1, g2⟩, g3⟩, g4⟩, g5⟩, g6⟩ := h5
  simp [Cond.before, Cond.holds, Cond.value, h1, h2, h3, h4, g1, g2, g3, g4, g5, g6]
def isCode : Jvm.Cond → Bool
  | .code _ _ _ _ => true
  | _ => false
theorem all_split {L : List Jvm.Cond} {P : Jvm.Cond → Bool} (h1 : L.all (fun c => isCode c || P c) = true) (h2 : ∀ c ∈ L.filter isCode, P c = true) : L.all P = true := by
  refine List.all_eq_true.mpr fun c hc => ?_
  have h := List.all_eq_true.mp h1 c hc
  rcases Bool.eq_false_or_eq_true (isCode c) with hi | hi
  · exact h2 c (List.mem_filter.mpr ⟨hc, hi⟩)
  · simpa [hi] using h
set_option maxRecDepth 65536 in
theorem w_c0 : (Jvm.Cond.code x code maxLocals ret).before args0 about1 = true := code_word (m := ⟨1, 2⟩) (meth := k1m2) (c := k1c2) (by decide +kernel) rfl rfl rfl (by decide +kernel)
set_option maxRecDepth 65536 in
theorem w_c1 : (Jvm.Cond.code ({ cls := "com/example/assentor/assentor/core/SystemSize", name := "<init>", desc := "(II)V" } : Jvm.MethodName) prog_48_method_1_code (3 : Nat) (Option.none : Option Jvm.ClassFile.FieldType)).before args0 about1 = true := code_word (m := ⟨3, 0⟩) (meth := k3m0) (c := k3c0) (by decide +kernel) rfl rfl rfl (by decide +kernel)
set_option maxRecDepth 65536 in
theorem w_c2 : (Jvm.Cond.code ({ cls := "java/lang/Record", name := "<init>", desc := "()V" } : Jvm.MethodName) jdk_30_method_1_code (1 : Nat) (Option.none : Option Jvm.ClassFile.FieldType)).before args0 about1 = true := code_word (m := ⟨2, 0⟩) (meth := k2m0) (c := k2c0) (by decide +kernel) rfl rfl rfl (by decide +kernel)
set_option maxRecDepth 65536 in
theorem w_c3 : (Jvm.Cond.code ({ cls := "java/lang/Object", name := "<init>", desc := "()V" } : Jvm.MethodName) object_method_1_code (1 : Nat) (Option.none : Option Jvm.ClassFile.FieldType)).before args0 about1 = true := code_word (m := ⟨0, 0⟩) (meth := k0m0) (c := k0c0) (by decide +kernel) rfl rfl rfl (by decide +kernel)
set_option maxRecDepth 65536 in
theorem w_c4 : (Jvm.Cond.code ({ cls := "com/example/assentor/assentor/core/SystemSize", name := "isNode", desc := "(I)Z" } : Jvm.MethodName) prog_48_method_3_code (2 : Nat) (Option.some Jvm.ClassFile.FieldType.boolean)).before args0 about1 = true := code_word (m := ⟨3, 1⟩) (meth := k3m1) (c := k3c1) (by decide +kernel) rfl rfl rfl (by decide +kernel)
set_option maxRecDepth 65536 in
theorem w_c5 : (Jvm.Cond.code ({ cls := "com/example/assentor/assentor/core/SystemSizeIsNodePinLaw", name := "ref", desc := "(II)Z" } : Jvm.MethodName) method_2_code (4 : Nat) (Option.some Jvm.ClassFile.FieldType.boolean)).before args0 about1 = true := code_word (m := ⟨1, 1⟩) (meth := k1m1) (c := k1c1) (by decide +kernel) rfl rfl rfl (by decide +kernel)
def codes1 : List Jvm.Cond := [Jvm.Cond.code x code maxLocals ret, Jvm.Cond.code ({ cls := "com/example/assentor/assentor/core/SystemSize", name := "<init>", desc := "(II)V" } : Jvm.MethodName) prog_48_method_1_code (3 : Nat) (Option.none : Option Jvm.ClassFile.FieldType), Jvm.Cond.code ({ cls := "java/lang/Record", name := "<init>", desc := "()V" } : Jvm.MethodName) jdk_30_method_1_code (1 : Nat) (Option.none : Option Jvm.ClassFile.FieldType), Jvm.Cond.code ({ cls := "java/lang/Object", name := "<init>", desc := "()V" } : Jvm.MethodName) object_method_1_code (1 : Nat) (Option.none : Option Jvm.ClassFile.FieldType), Jvm.Cond.code ({ cls := "com/example/assentor/assentor/core/SystemSize", name := "isNode", desc := "(I)Z" } : Jvm.MethodName) prog_48_method_3_code (2 : Nat) (Option.some Jvm.ClassFile.FieldType.boolean), Jvm.Cond.code ({ cls := "com/example/assentor/assentor/core/SystemSizeIsNodePinLaw", name := "ref", desc := "(II)Z" } : Jvm.MethodName) method_2_code (4 : Nat) (Option.some Jvm.ClassFile.FieldType.boolean)]
set_option maxRecDepth 65536 in
theorem codes_eq : words1.filter isCode = codes1 := rfl
theorem w_codes : ∀ c ∈ words1.filter isCode, c.before args0 about1 = true := by
  rw [codes_eq]
  intro c hc
  simp only [codes1, List.mem_cons, List.not_mem_nil, or_false] at hc
  rcases hc with rfl | rfl | rfl | rfl | rfl | rfl
  · exact w_c0
  · exact w_c1
  · exact w_c2
  · exact w_c3
  · exact w_c4
  · exact w_c5
set_option maxRecDepth 65536 in
theorem w_t1 : (words1.take 24).all (fun c => isCode c || c.before args0 about1) = true := by decide +kernel
set_option maxRecDepth 65536 in
theorem w_t2 : (words1.drop 24).all (fun c => isCode c || c.before args0 about1) = true := by decide +kernel
theorem w_tables : (allAtoms (Jvm.Cond.code x code maxLocals ret :: tables_1)).before args0 about1 = true := by
  rw [allAtoms_all]
  show words1.all (fun c => c.before args0 about1) = true
  refine all_split ?_ w_codes
  rw [← List.take_append_drop 24 words1, List.all_append, w_t1, w_t2]
  rfl
set_option maxRecDepth 65536 in
theorem w_case : (Jvm.Cond.and given_1 narrow_1).before args0 about1 = true := by decide +kernel
theorem w_applies : (headSpec (Jvm.Cond.code x code maxLocals ret :: tables_1) room_1).applies x e0.platform about1 = true :=
  (Spec.applies_iff w_frames).mpr ⟨w_running, w_runnable, w_alone, w_named, w_hears, w_ripe, w_room, w_tables⟩
theorem atStart : AtStart classFile x code maxLocals ret World_1 tables_1 room_1 Calls_1 rest_1 Pre_1 launch0 p0 e0 about1 theMethod args0 below0 :=
  ⟨lists_1, trivial, launch0.admits_env _ _ _, launch0.least_env, fairChoices_fair.cas, fairChoices_fair.clock, w_frames, w_args, w_heap, w_applies, trivial, trivial, w_case⟩
end start1
theorem witness_1 : WitnessClaimed_1 := ⟨start1.p0, start1.e0, start1.about1, start1.theMethod, start1.args0, start1.below0, start1.atStart⟩
end Jvm.Pilot.@@N@@
