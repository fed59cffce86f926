import JvmDerived
import JvmDerived.Pilot.@@N@@Statement
import JvmDerived.Pilot.@@N@@Code
set_option linter.unusedVariables false
set_option linter.unusedSimpArgs false
namespace Jvm.Pilot.@@N@@
open Jvm Jvm.ClassFile Sem Op Lib Jvm.Free Jvm.Stand Jvm.LawKit Jvm.RoadKit Bundle Jvm.Pilot.@@N@@.Jvm.D
/-- the run from F ends, with an outcome and a state that Φ takes -/
def own_Goes (p : Program) (e : Env) (below : List Frame) (Φ : Outcome → State → Prop) (F : State) : Prop :=
  ∃ s₂ o, Steps p.tables e below F s₂ ∧ s₂.status = .running ∧ Ended s₂ below o ∧ Φ o s₂
theorem own_go {p : Program} {e : Env} {below : List Frame} {Φ : Outcome → State → Prop} {F G : State}
    (k : ∀ t, Steps p.tables e below G t → Steps p.tables e below F t) (h : own_Goes p e below Φ G) : own_Goes p e below Φ F := by
  obtain ⟨s₂, o, h1, h2⟩ := h
  exact ⟨s₂, o, k _ h1, h2⟩
/-- what a contract says of the end -/
def own_End (s : State) (Q : Option Value → Heap → List Loc → Prop) (k n : Nat) (o : Outcome) (U' : State) : Prop :=
  ∃ v L, o = .returned v ∧ Q v U'.heap L ∧ FrameEnd s o U' L k n
/-- a value is returned, the heap is as it was -/
def own_Same (w : Value) (h0 : Heap) (n0 : Nat) (v : Option Value) (h : Heap) (L : List Loc) : Prop := v = some w ∧ Fr n0 L ∧ h = h0
/-- nothing is returned, the heap is as it was -/
def own_SameV (h0 : Heap) (n0 : Nat) (v : Option Value) (h : Heap) (L : List Loc) : Prop := v = none ∧ Fr n0 L ∧ h = h0
section Own
variable {p : Program} {l : Launch} {e : Env} {R : Room} {s : State} {m : MethodId} {args : Array Value} {below : List Frame} {meth : Method} {c : Code} {T : State} {locs : List Loc} {cells slots : Nat}
theorem own_ret (X : Stand p l e R s m args below meth c T locs cells slots) (hx : p.tables.exec = Jvm.exec) {pc : Nat} {Ls : Array Slot} {w : Value} {t : FieldType} {i : Instr} {rest : List Value} (hret : meth.sig.returnType = some t) (hn : narrow t w = w)
    (hi : (i = .ireturn ∧ (t = .int ∨ t = .boolean ∨ t = .byte ∨ t = .char ∨ t = .short) ∧ ∃ z, w = .int z) ∨ (i = .lreturn ∧ t = .long ∧ ∃ z, w = .long z) ∨ (i = .dreturn ∧ t = .double ∧ ∃ z, w = .double z) ∨ (i = .freturn ∧ t = .float ∧ ∃ z, w = .float z) ∨ (i = .areturn ∧ t.isReference = true ∧ w.isRef = true))
    (hd : decode c.code pc = .ok (i, 1)) (hlk : meth.locks = false) {Q : Option Value → Heap → List Loc → Prop} {k n : Nat} (h1 : cells ≤ k) (h2 : slots ≤ n) (hQ : Q (some w) T.heap locs) :
    own_Goes p e below (own_End s Q k n) (T.setTop (mkF m pc Ls (w :: rest))) := by
  obtain ⟨fs, hr, hrun, hended, hW, hsame⟩ := X.leave (v := some w) (fun h => by rw [hret] at h; cases h) hlk
  exact ⟨_, _, retOut X hx hret hn hi hd hr, hrun, hended, _, _, rfl, hQ, ⟨_, rfl⟩, hW, hsame.mono h1 h2⟩
theorem own_retI (X : Stand p l e R s m args below meth c T locs cells slots) (hx : p.tables.exec = Jvm.exec) {pc : Nat} {Ls : Array Slot} {z : Int32} {rest : List Value} (hret : meth.sig.returnType = some .int)
    (hd : decode c.code pc = .ok (.ireturn, 1)) (hlk : meth.locks = false) {Q : Option Value → Heap → List Loc → Prop} {k n : Nat} (h1 : cells ≤ k) (h2 : slots ≤ n) (hQ : Q (some (.int z)) T.heap locs) :
    own_Goes p e below (own_End s Q k n) (T.setTop (mkF m pc Ls (.int z :: rest))) := own_ret X hx hret rfl (Or.inl ⟨rfl, Or.inl rfl, z, rfl⟩) hd hlk h1 h2 hQ
theorem own_retJ (X : Stand p l e R s m args below meth c T locs cells slots) (hx : p.tables.exec = Jvm.exec) {pc : Nat} {Ls : Array Slot} {z : Int64} {rest : List Value} (hret : meth.sig.returnType = some .long)
    (hd : decode c.code pc = .ok (.lreturn, 1)) (hlk : meth.locks = false) {Q : Option Value → Heap → List Loc → Prop} {k n : Nat} (h1 : cells ≤ k) (h2 : slots ≤ n) (hQ : Q (some (.long z)) T.heap locs) :
    own_Goes p e below (own_End s Q k n) (T.setTop (mkF m pc Ls (.long z :: rest))) := own_ret X hx hret rfl (Or.inr (Or.inl ⟨rfl, rfl, z, rfl⟩)) hd hlk h1 h2 hQ
theorem own_retB (X : Stand p l e R s m args below meth c T locs cells slots) (hx : p.tables.exec = Jvm.exec) {pc : Nat} {Ls : Array Slot} {z : Int32} {rest : List Value} (hret : meth.sig.returnType = some .boolean) (hz : z = 0 ∨ z = 1)
    (hd : decode c.code pc = .ok (.ireturn, 1)) (hlk : meth.locks = false) {Q : Option Value → Heap → List Loc → Prop} {k n : Nat} (h1 : cells ≤ k) (h2 : slots ≤ n) (hQ : Q (some (.int z)) T.heap locs) :
    own_Goes p e below (own_End s Q k n) (T.setTop (mkF m pc Ls (.int z :: rest))) := own_ret X hx hret (by rcases hz with rfl | rfl <;> rfl) (Or.inl ⟨rfl, Or.inr (Or.inl rfl), z, rfl⟩) hd hlk h1 h2 hQ
theorem own_ret1 (X : Stand p l e R s m args below meth c T locs cells slots) (hx : p.tables.exec = Jvm.exec) {pc : Nat} {Ls : Array Slot} {rest : List Value} (hret : meth.sig.returnType = some .boolean)
    (hd : decode c.code pc = .ok (.ireturn, 1)) (hlk : meth.locks = false) {Q : Option Value → Heap → List Loc → Prop} {k n : Nat} (h1 : cells ≤ k) (h2 : slots ≤ n) (hQ : Q (some (.int 1)) T.heap locs) :
    own_Goes p e below (own_End s Q k n) (T.setTop (mkF m pc Ls (.int 1 :: rest))) := own_retB X hx hret (Or.inr rfl) hd hlk h1 h2 hQ
theorem own_ret0 (X : Stand p l e R s m args below meth c T locs cells slots) (hx : p.tables.exec = Jvm.exec) {pc : Nat} {Ls : Array Slot} {rest : List Value} (hret : meth.sig.returnType = some .boolean)
    (hd : decode c.code pc = .ok (.ireturn, 1)) (hlk : meth.locks = false) {Q : Option Value → Heap → List Loc → Prop} {k n : Nat} (h1 : cells ≤ k) (h2 : slots ≤ n) (hQ : Q (some (.int 0)) T.heap locs) :
    own_Goes p e below (own_End s Q k n) (T.setTop (mkF m pc Ls (.int 0 :: rest))) := own_retB X hx hret (Or.inl rfl) hd hlk h1 h2 hQ
theorem own_retN (X : Stand p l e R s m args below meth c T locs cells slots) (hx : p.tables.exec = Jvm.exec) {pc : Nat} {Ls : Array Slot} {z : Int32} {t : FieldType} {rest : List Value} (hret : meth.sig.returnType = some t) (ht : t = .boolean ∨ t = .byte ∨ t = .char ∨ t = .short)
    (hd : decode c.code pc = .ok (.ireturn, 1)) (hlk : meth.locks = false) {Q : Option Value → Heap → List Loc → Prop} {k n : Nat} (h1 : cells ≤ k) (h2 : slots ≤ n) (hQ : Q (some (.int (nar t z))) T.heap locs) :
    own_Goes p e below (own_End s Q k n) (T.setTop (mkF m pc Ls (.int z :: rest))) := by
  obtain ⟨fs, hr, hrun, hended, hW, hsame⟩ := X.leave (v := some (.int (nar t z))) (fun h => by rw [hret] at h; cases h) hlk
  exact ⟨_, _, retN X hx hret ht hd hr, hrun, hended, _, _, rfl, hQ, ⟨_, rfl⟩, hW, hsame.mono h1 h2⟩
theorem own_retA (X : Stand p l e R s m args below meth c T locs cells slots) (hx : p.tables.exec = Jvm.exec) {pc : Nat} {Ls : Array Slot} {w : Value} {t : FieldType} {rest : List Value} (hret : meth.sig.returnType = some t) (ht : t.isReference = true) (hw : w.isRef = true)
    (hd : decode c.code pc = .ok (.areturn, 1)) (hlk : meth.locks = false) {Q : Option Value → Heap → List Loc → Prop} {k n : Nat} (h1 : cells ≤ k) (h2 : slots ≤ n) (hQ : Q (some w) T.heap locs) :
    own_Goes p e below (own_End s Q k n) (T.setTop (mkF m pc Ls (w :: rest))) := own_ret X hx hret (by cases t <;> first | rfl | cases ht) (Or.inr (Or.inr (Or.inr (Or.inr ⟨rfl, ht, hw⟩)))) hd hlk h1 h2 hQ
theorem own_retV (X : Stand p l e R s m args below meth c T locs cells slots) (hx : p.tables.exec = Jvm.exec) {pc : Nat} {Ls : Array Slot} (hret : meth.sig.returnType = none)
    (hd : decode c.code pc = .ok (.return_, 1)) (hlk : meth.locks = false) {Q : Option Value → Heap → List Loc → Prop} {k n : Nat} (h1 : cells ≤ k) (h2 : slots ≤ n) (hQ : Q none T.heap locs) :
    own_Goes p e below (own_End s Q k n) (T.setTop (mkF m pc Ls [])) := by
  obtain ⟨fs, hr, hrun, hended, hW, hsame⟩ := X.leave (v := none) (fun _ => rfl) hlk
  exact ⟨_, _, X.returnOut hx hret hd hr, hrun, hended, _, _, rfl, hQ, ⟨_, rfl⟩, hW, hsame.mono h1 h2⟩
end Own
/-- the law says true; nothing old is written -/
def own_True (n0 : Nat) (v : Option Value) (h : Heap) (L : List Loc) : Prop := v = some (.int 1) ∧ Fr n0 L
theorem own_i (x y : Int32) : (x = y ↔ x.toInt = y.toInt) ∧ (x < y ↔ x.toInt < y.toInt) ∧ (x ≤ y ↔ x.toInt ≤ y.toInt) := ⟨Int32.toInt_inj.symm, Int32.lt_iff_toInt_lt, Int32.le_iff_toInt_le⟩
theorem own_ie (x y : Int32) : x = y ↔ x.toInt = y.toInt := Int32.toInt_inj.symm
theorem own_le (x y : Int64) : x = y ↔ x.toInt = y.toInt := Int64.toInt_inj.symm
/-- an array of which the kind and the length alone are told -/
def own_A (Z : State) (h : Heap) (a : Addr) (ty : FieldType) (n : Int32) : Prop := ∃ c : Cell, Arr Z h a c ty ∧ c.slots.size = n.toNatClampNeg ∧ ¬ n < 0
section OwnA
variable {Z : State} {h h' : Heap} {a b : Addr} {ty : FieldType} {n : Int32} {sl : Nat} {v : Value} {ws : List Addr}
theorem own_A.lt (F : own_A Z h a ty n) : a < h.size := by obtain ⟨c, A, -⟩ := F; exact A.lt
theorem own_A.ext (F : own_A Z h a ty n) (E : Ext h h') : own_A Z h' a ty n := by obtain ⟨c, A, r⟩ := F; exact ⟨c, A.ext E, r⟩
theorem own_A.other (F : own_A Z h b ty n) (W : Wr h h' a sl v) (q : b ≠ a) : own_A Z h' b ty n := by obtain ⟨c, A, r⟩ := F; exact ⟨c, A.other W q, r⟩
theorem own_A.same (F : own_A Z h a ty n) (W : Wr h h' a sl v) : own_A Z h' a ty n := by
  obtain ⟨c, A, r1, r2⟩ := F
  exact ⟨_, A.same W, by rw [← r1]; simp [Cell.setSlot], r2⟩
theorem own_A.keep (F : own_A Z h a ty n) (K : Keep h h' ws) (q : a ∉ ws) : own_A Z h' a ty n := by obtain ⟨c, A, r⟩ := F; exact ⟨c, ⟨K.2.1 a c A.1 q, A.2⟩, r⟩
theorem own_A.of {k : ClassId} {vs : List Value} {d : Value} (F : Arv Z h a k ty n vs d) : own_A Z h a ty n := by obtain ⟨c, A, -, r1, r2, -⟩ := F; exact ⟨c, A, r1, r2⟩
end OwnA
theorem own_staKeep {Z : State} {h h' : Heap} {C n d : String} {v : Value} (F : Sta Z h C n d v) (K : Keep h h' []) : Sta Z h' C n d v := by
  obtain ⟨cf, i, k, f, st, cell, h1, h2, h3, h4, h5, r⟩ := F
  exact ⟨cf, i, k, f, st, cell, h1, h2, h3, h4, K.2.1 _ _ h5 nin0, r⟩
theorem d2_0 : decode jdk_30_method_1_code 0 = .ok (.aload_n 0, 1) := by decide +kernel
theorem d2_1 : decode jdk_30_method_1_code 1 = .ok (.invokespecial 1, 3) := by decide +kernel
theorem d2_4 : decode jdk_30_method_1_code 4 = .ok (.return_, 1) := by decide +kernel
theorem pn2 : plainName "java/lang/Record" = true := by first | (simp [plainName, overriddenIn]; done) | decide +kernel
theorem ef_rm2 (m : MethodId) (r0 : Addr) : entryFrame m #[(.ref r0)] 1 = mkF m 0 #[.val (.ref r0)] [] := by first | (simp [entryFrame, mkF, argsToLocals, Value.category]; done) | rfl
set_option maxRecDepth 65536 in
set_option maxHeartbeats 40000000 in
theorem rm2 (l : Launch) (Z : State) (a0 : Array Value) (hw : ∀ d ∈ tables_1, d.before a0 Z = true) (ws : List Jvm.Cond) (r0 : Addr) (h0 : Heap) (n0 : Nat) (Z0 : n0 ≤ h0.size) :
    MetFree l (⟨"java/lang/Record", "<init>", "()V"⟩ : MethodName) (head1 (Jvm.Cond.code (⟨"java/lang/Record", "<init>", "()V"⟩ : MethodName) jdk_30_method_1_code 1 none :: ws) ({ frames := 1, cells := 0, slots := 0, locals := 12 } : Room)) (fun a U => a = #[(.ref r0)] ∧ Z.Warmed39 U.vm ∧ U.heap = h0) (fun _ _ _ _ _ => True) (fun _ U o U' => ∃ v L, o = .returned v ∧ (own_SameV h0 n0) v U'.heap L ∧ FrameEnd U o U' L 0 0) := by
  refine MetFree.of_bodySF (plainFor_of_name pn2) hisR ?_
  intro p e s m args below meth c s₁ Bd hml0 hP hK
  obtain ⟨rfl, hZ, hh⟩ := hP
  have hx := Bd.exec
  have hby := Bd.bytes
  have hml : c.maxLocals = 1 := hml0
  have hown : s.vm.findClass "java/lang/Record" = some m.cls := findClass_of_methodNamed Bd.named
  have hnm := (name_of_methodNamed Bd.named Bd.method).1
  have X0 : Stand p l e ({ frames := 1, cells := 0, slots := 0, locals := 12 } : Room) s m #[(.ref r0)] below meth c s₁ [] 0 0 := Stand.of_body Bd
  have e0 : s₁.heap = h0 := by rw [← hh, Bd.state]; rfl
  have N0 := Fr.nil n0
  show own_Goes p e below (own_End s (own_SameV h0 n0) 0 0) _
  refine own_go (G := s₁.setTop (mkF m 0 #[.val (.ref r0)] [])) (fun t k => castTop (ef_rm2 m r0) k) ?_
  refine own_go (G := s₁.setTop (mkF m 1 #[.val (.ref r0)] [(.ref r0)])) (fun _ k => XS.aloadN X0.here hx rfl (hb hby d2_0) rfl rfl k) ?_
  obtain ⟨T1, X1, e1, st1⟩ := initO X0 hx hZ hown (hw _ (List.mem_of_getElem? (i := 12) rfl)) (hw _ (List.mem_of_getElem? (i := 13) rfl)) (hw _ (List.mem_of_getElem? (i := 14) rfl)) e0 (g := (mkF m 1 #[.val (.ref r0)] [(.ref r0)])) rfl (by rw [hml]; rfl) rfl (hb hby d2_1) (by decide) (W := 0) (by show 2 * 0 + _ ≤ _; exact Nat.le_of_eq rfl) (by decide)
  refine own_go (G := T1.setTop (mkF m 4 #[.val (.ref r0)] [])) (st1) ?_
  exact own_retV X1 hx Bd.returns (hb hby d2_4) Bd.notSynchronized (by decide) (by decide) ⟨rfl, N0, e1⟩
def Q_rm1 (Z : State) (r0 : Addr) (p1 : Int32) (p2 : Int32) (h0 : Heap) (n0 : Nat) (v : Option Value) (h : Heap) (L : List Loc) : Prop := v = none ∧ Fr n0 L ∧ Keep h0 h [r0] ∧ Exa Z h r0 "com/example/assentor/assentor/core/SystemSize" ∧ Fld Z h r0 "com/example/assentor/assentor/core/SystemSize" "n" "I" (.int p1) ∧ Fld Z h r0 "com/example/assentor/assentor/core/SystemSize" "f" "I" (.int p2)
theorem d1_0 : decode prog_48_method_1_code 0 = .ok (.aload_n 0, 1) := by decide +kernel
theorem d1_1 : decode prog_48_method_1_code 1 = .ok (.invokespecial 1, 3) := by decide +kernel
theorem d1_4 : decode prog_48_method_1_code 4 = .ok (.iload_n 1, 1) := by decide +kernel
theorem d1_5 : decode prog_48_method_1_code 5 = .ok (.iconst 2, 1) := by decide +kernel
theorem d1_6 : decode prog_48_method_1_code 6 = .ok (.if_icmp .lt 10, 3) := by decide +kernel
theorem d1_9 : decode prog_48_method_1_code 9 = .ok (.iload_n 1, 1) := by decide +kernel
theorem d1_10 : decode prog_48_method_1_code 10 = .ok (.sipush 1024, 3) := by decide +kernel
theorem d1_13 : decode prog_48_method_1_code 13 = .ok (.if_icmp .le 17, 3) := by decide +kernel
theorem d1_30 : decode prog_48_method_1_code 30 = .ok (.iload_n 2, 1) := by decide +kernel
theorem d1_31 : decode prog_48_method_1_code 31 = .ok (.ifCond .lt 10, 3) := by decide +kernel
theorem d1_34 : decode prog_48_method_1_code 34 = .ok (.iload_n 2, 1) := by decide +kernel
theorem d1_35 : decode prog_48_method_1_code 35 = .ok (.iload_n 1, 1) := by decide +kernel
theorem d1_36 : decode prog_48_method_1_code 36 = .ok (.iconst 2, 1) := by decide +kernel
theorem d1_37 : decode prog_48_method_1_code 37 = .ok (.isub, 1) := by decide +kernel
theorem d1_38 : decode prog_48_method_1_code 38 = .ok (.if_icmp .le 20, 3) := by decide +kernel
theorem d1_58 : decode prog_48_method_1_code 58 = .ok (.aload_n 0, 1) := by decide +kernel
theorem d1_59 : decode prog_48_method_1_code 59 = .ok (.iload_n 1, 1) := by decide +kernel
theorem d1_60 : decode prog_48_method_1_code 60 = .ok (.putfield 21, 3) := by decide +kernel
theorem d1_63 : decode prog_48_method_1_code 63 = .ok (.aload_n 0, 1) := by decide +kernel
theorem d1_64 : decode prog_48_method_1_code 64 = .ok (.iload_n 2, 1) := by decide +kernel
theorem d1_65 : decode prog_48_method_1_code 65 = .ok (.putfield 25, 3) := by decide +kernel
theorem d1_68 : decode prog_48_method_1_code 68 = .ok (.return_, 1) := by decide +kernel
theorem pn1 : plainName "com/example/assentor/assentor/core/SystemSize" = true := by first | (simp [plainName, overriddenIn]; done) | decide +kernel
theorem pd0 : parseMethodDescriptor "()V" = some ⟨[], none⟩ := by decide +kernel
theorem ef_rm1 (m : MethodId) (r0 : Addr) (p1 : Int32) (p2 : Int32) : entryFrame m #[(.ref r0), (.int p1), (.int p2)] 3 = mkF m 0 #[.val (.ref r0), .val (.int p1), .val (.int p2)] [] := by first | (simp [entryFrame, mkF, argsToLocals, Value.category]; done) | rfl
set_option maxRecDepth 65536 in
set_option maxHeartbeats 40000000 in
theorem rm1 (l : Launch) (Z : State) (a0 : Array Value) (hw : ∀ d ∈ tables_1, d.before a0 Z = true) (ws : List Jvm.Cond) (r0 : Addr) (p1 : Int32) (p2 : Int32) (h0 : Heap) (n0 : Nat) (Z0 : n0 ≤ h0.size) (F_n_r0 : Fld Z h0 r0 "com/example/assentor/assentor/core/SystemSize" "n" "I" (.int (0 : Int32))) (F_f_r0 : Fld Z h0 r0 "com/example/assentor/assentor/core/SystemSize" "f" "I" (.int (0 : Int32))) (E_r0 : Exa Z h0 r0 "com/example/assentor/assentor/core/SystemSize") (gn_r0 : n0 ≤ r0) (hp1 : ¬ (p1 < (2 : Int32))) (hp2 : ¬ ((1024 : Int32) < p1)) (hp3 : ¬ (p2 < (0 : Int32))) (hp4 : ¬ ((p1 - (2 : Int32)) < p2)) :
    MetFree l (⟨"com/example/assentor/assentor/core/SystemSize", "<init>", "(II)V"⟩ : MethodName) (head1 (Jvm.Cond.code (⟨"com/example/assentor/assentor/core/SystemSize", "<init>", "(II)V"⟩ : MethodName) prog_48_method_1_code 3 none :: ws) ({ frames := 2, cells := 0, slots := 0, locals := 24 } : Room)) (fun a U => a = #[(.ref r0), (.int p1), (.int p2)] ∧ Z.Warmed39 U.vm ∧ U.heap = h0) (fun _ _ _ _ _ => True) (fun _ U o U' => ∃ v L, o = .returned v ∧ (Q_rm1 Z r0 p1 p2 h0 n0) v U'.heap L ∧ FrameEnd U o U' L 0 0) := by
  refine MetFree.of_bodySF (plainFor_of_name pn1) hisR ?_
  intro p e s m args below meth c s₁ Bd hml0 hP hK
  obtain ⟨rfl, hZ, hh⟩ := hP
  have hx := Bd.exec
  have hby := Bd.bytes
  have hml : c.maxLocals = 3 := hml0
  have hown : s.vm.findClass "com/example/assentor/assentor/core/SystemSize" = some m.cls := findClass_of_methodNamed Bd.named
  have hnm := (name_of_methodNamed Bd.named Bd.method).1
  have X0 : Stand p l e ({ frames := 2, cells := 0, slots := 0, locals := 24 } : Room) s m #[(.ref r0), (.int p1), (.int p2)] below meth c s₁ [] 0 0 := Stand.of_body Bd
  have e0 : s₁.heap = h0 := by rw [← hh, Bd.state]; rfl
  have N0 := Fr.nil n0
  have K0 : Keep h0 h0 [r0] := Keep.refl h0 [r0]
  show own_Goes p e below (own_End s (Q_rm1 Z r0 p1 p2 h0 n0) 0 0) _
  refine own_go (G := s₁.setTop (mkF m 0 #[.val (.ref r0), .val (.int p1), .val (.int p2)] [])) (fun t k => castTop (ef_rm1 m r0 p1 p2) k) ?_
  refine own_go (G := s₁.setTop (mkF m 1 #[.val (.ref r0), .val (.int p1), .val (.int p2)] [(.ref r0)])) (fun _ k => XS.aloadN X0.here hx rfl (hb hby d1_0) rfl rfl k) ?_
  obtain ⟨_, _, ⟨T1, L1, k1, n1⟩, -, X1, ⟨Lc1, hQ1, l1, y1, z1⟩, st1⟩ := X0.specialBack hx (y := (⟨"java/lang/Record", "<init>", "()V"⟩ : MethodName)) rfl hown (mvT hZ (hw _ (List.mem_of_getElem? (i := 7) rfl))) (mvT hZ (hw _ (List.mem_of_getElem? (i := 8) rfl))) (mvT hZ (hw _ (List.mem_of_getElem? (i := 11) rfl))) (by decide) (backOf (W := 0) (rm2 l Z a0 hw [] r0 h0 n0 Z0) hZ (hw _ (List.mem_of_getElem? (i := 11) rfl)) (hw _ (List.mem_of_getElem? (i := 10) rfl)) (by decide) (by decide)) (g := (mkF m 1 #[.val (.ref r0), .val (.int p1), .val (.int p2)] [(.ref r0)])) rfl (by rw [hml]; rfl) (Steps.refl _) (a := r0) (argsL := []) (rest := []) (lenOf pd0 rfl) rfl (by show 2 * 0 + _ ≤ _; exact Nat.le_of_eq rfl) (hb hby d1_1) (fun _ _ => ⟨rfl, e0, (by decide : 0 + 0 ≤ _), (by decide : 0 + 0 ≤ _)⟩)
  dsimp only [Pt.U, Pt.locs, Pt.cells, Pt.slots] at X1 l1 y1 z1 st1 hQ1
  subst l1 y1 z1
  obtain ⟨rfl, Nq1, e1⟩ := hQ1
  have N1 := Fr.app N0 Nq1
  refine own_go (G := T1.setTop (mkF m 4 #[.val (.ref r0), .val (.int p1), .val (.int p2)] [])) (fun _ k => st1.trans k) ?_
  refine own_go (G := T1.setTop (mkF m 5 #[.val (.ref r0), .val (.int p1), .val (.int p2)] [(.int p1)])) (fun _ k => XS.iloadN X1.here hx rfl (hb hby d1_4) rfl k) ?_
  refine own_go (G := T1.setTop (mkF m 6 #[.val (.ref r0), .val (.int p1), .val (.int p2)] [(.int (2 : Int32)), (.int p1)])) (fun _ k => XS.iconst X1.here hx rfl (hb hby d1_5) k) ?_
  refine own_go (G := T1.setTop (mkF m 9 #[.val (.ref r0), .val (.int p1), .val (.int p2)] [])) (fun _ k => XS.icmpNo X1.here hx rfl (hb hby d1_6) rfl (flt (hp1 : ¬ (p1 < (2 : Int32)))).1 k) ?_
  refine own_go (G := T1.setTop (mkF m 10 #[.val (.ref r0), .val (.int p1), .val (.int p2)] [(.int p1)])) (fun _ k => XS.iloadN X1.here hx rfl (hb hby d1_9) rfl k) ?_
  refine own_go (G := T1.setTop (mkF m 13 #[.val (.ref r0), .val (.int p1), .val (.int p2)] [(.int (1024 : Int32)), (.int p1)])) (fun _ k => XS.sipush X1.here hx rfl (hb hby d1_10) k) ?_
  refine own_go (G := T1.setTop (mkF m 30 #[.val (.ref r0), .val (.int p1), .val (.int p2)] [])) (fun _ k => XS.icmpYes X1.here hx rfl (pc0 := 13) (pc' := 30) rfl (hb hby d1_13) rfl (flt (hp2 : ¬ ((1024 : Int32) < p1))).2.2.2 (by decide) (by decide) k) ?_
  refine own_go (G := T1.setTop (mkF m 31 #[.val (.ref r0), .val (.int p1), .val (.int p2)] [(.int p2)])) (fun _ k => XS.iloadN X1.here hx rfl (hb hby d1_30) rfl k) ?_
  refine own_go (G := T1.setTop (mkF m 34 #[.val (.ref r0), .val (.int p1), .val (.int p2)] [])) (fun _ k => XS.ifNo X1.here hx rfl (hb hby d1_31) rfl ((if0 _ _).trans (flt (hp3 : ¬ (p2 < (0 : Int32)))).1) k) ?_
  refine own_go (G := T1.setTop (mkF m 35 #[.val (.ref r0), .val (.int p1), .val (.int p2)] [(.int p2)])) (fun _ k => XS.iloadN X1.here hx rfl (hb hby d1_34) rfl k) ?_
  refine own_go (G := T1.setTop (mkF m 36 #[.val (.ref r0), .val (.int p1), .val (.int p2)] [(.int p1), (.int p2)])) (fun _ k => XS.iloadN X1.here hx rfl (hb hby d1_35) rfl k) ?_
  refine own_go (G := T1.setTop (mkF m 37 #[.val (.ref r0), .val (.int p1), .val (.int p2)] [(.int (2 : Int32)), (.int p1), (.int p2)])) (fun _ k => XS.iconst X1.here hx rfl (hb hby d1_36) k) ?_
  refine own_go (G := T1.setTop (mkF m 38 #[.val (.ref r0), .val (.int p1), .val (.int p2)] [(.int (p1 - (2 : Int32))), (.int p2)])) (fun _ k => XS.isub X1.here hx rfl (hb hby d1_37) rfl k) ?_
  refine own_go (G := T1.setTop (mkF m 58 #[.val (.ref r0), .val (.int p1), .val (.int p2)] [])) (fun _ k => XS.icmpYes X1.here hx rfl (pc0 := 38) (pc' := 58) rfl (hb hby d1_38) rfl (flt (hp4 : ¬ ((p1 - (2 : Int32)) < p2))).2.2.2 (by decide) (by decide) k) ?_
  refine own_go (G := T1.setTop (mkF m 59 #[.val (.ref r0), .val (.int p1), .val (.int p2)] [(.ref r0)])) (fun _ k => XS.aloadN X1.here hx rfl (hb hby d1_58) rfl rfl k) ?_
  refine own_go (G := T1.setTop (mkF m 60 #[.val (.ref r0), .val (.int p1), .val (.int p2)] [(.int p1), (.ref r0)])) (fun _ k => XS.iloadN X1.here hx rfl (hb hby d1_59) rfl k) ?_
  obtain ⟨T2, h2, X2, e2, W2, st2⟩ := putF X1 hx hZ hown (host := "") (Or.inl (hw _ (List.mem_of_getElem? (i := 15) rfl))) Via.refl e1 F_n_r0 E_r0 (Or.inr ⟨(hw _ (List.mem_of_getElem? (i := 16) rfl)), rfl, hnm⟩) (hw _ (List.mem_of_getElem? (i := 2) rfl)) (ty := .int) (by decide) rfl rfl (g := (mkF m 60 #[.val (.ref r0), .val (.int p1), .val (.int p2)] [(.int p1), (.ref r0)])) rfl rfl (hb hby d1_60)
  have F_f_r0_c2 : Fld Z h2 r0 "com/example/assentor/assentor/core/SystemSize" "f" "I" (.int (0 : Int32)) := F_f_r0.other W2 (Or.inr (slot_ne (Or.inr (hw _ (List.mem_of_getElem? (i := 18) rfl))) (Or.inr (hw _ (List.mem_of_getElem? (i := 16) rfl))) (by decide) (t := .int) (t' := .int) (by decide) (by decide)))
  have E_r0_c2 : Exa Z h2 r0 "com/example/assentor/assentor/core/SystemSize" := E_r0.wr W2
  have Fw2_n : Fld Z h2 r0 "com/example/assentor/assentor/core/SystemSize" "n" "I" (.int p1) := F_n_r0.same W2
  have N2 := Fr.snoc X2 N1 gn_r0
  have Z2 : n0 ≤ h2.size := Nat.le_trans Z0 (Keep.of_wr W2).1
  have K2 : Keep h0 h2 [r0] := K0.wr W2 (Or.inl (List.mem_of_getElem? (i := 0) rfl))
  refine own_go (G := T2.setTop (mkF m 63 #[.val (.ref r0), .val (.int p1), .val (.int p2)] [])) (st2) ?_
  refine own_go (G := T2.setTop (mkF m 64 #[.val (.ref r0), .val (.int p1), .val (.int p2)] [(.ref r0)])) (fun _ k => XS.aloadN X2.here hx rfl (hb hby d1_63) rfl rfl k) ?_
  refine own_go (G := T2.setTop (mkF m 65 #[.val (.ref r0), .val (.int p1), .val (.int p2)] [(.int p2), (.ref r0)])) (fun _ k => XS.iloadN X2.here hx rfl (hb hby d1_64) rfl k) ?_
  obtain ⟨T3, h3, X3, e3, W3, st3⟩ := putF X2 hx hZ hown (host := "") (Or.inl (hw _ (List.mem_of_getElem? (i := 17) rfl))) Via.refl e2 F_f_r0_c2 E_r0_c2 (Or.inr ⟨(hw _ (List.mem_of_getElem? (i := 18) rfl)), rfl, hnm⟩) (hw _ (List.mem_of_getElem? (i := 2) rfl)) (ty := .int) (by decide) rfl rfl (g := (mkF m 65 #[.val (.ref r0), .val (.int p1), .val (.int p2)] [(.int p2), (.ref r0)])) rfl rfl (hb hby d1_65)
  have Fw2_n_c3 : Fld Z h3 r0 "com/example/assentor/assentor/core/SystemSize" "n" "I" (.int p1) := Fw2_n.other W3 (Or.inr (slot_ne (Or.inr (hw _ (List.mem_of_getElem? (i := 16) rfl))) (Or.inr (hw _ (List.mem_of_getElem? (i := 18) rfl))) (by decide) (t := .int) (t' := .int) (by decide) (by decide)))
  have E_r0_c3 : Exa Z h3 r0 "com/example/assentor/assentor/core/SystemSize" := E_r0_c2.wr W3
  have Fw3_f : Fld Z h3 r0 "com/example/assentor/assentor/core/SystemSize" "f" "I" (.int p2) := F_f_r0_c2.same W3
  have N3 := Fr.snoc X3 N2 gn_r0
  have Z3 : n0 ≤ h3.size := Nat.le_trans Z2 (Keep.of_wr W3).1
  have K3 : Keep h0 h3 [r0] := K2.wr W3 (Or.inl (List.mem_of_getElem? (i := 0) rfl))
  refine own_go (G := T3.setTop (mkF m 68 #[.val (.ref r0), .val (.int p1), .val (.int p2)] [])) (st3) ?_
  exact own_retV X3 hx Bd.returns (hb hby d1_68) Bd.notSynchronized (by decide) (by decide) (by rw [e3]; exact ⟨rfl, N3, K3, E_r0_c3, Fw2_n_c3, Fw3_f⟩)
theorem d5_0 : decode prog_48_method_7_code 0 = .ok (.aload_n 0, 1) := by decide +kernel
theorem d5_1 : decode prog_48_method_7_code 1 = .ok (.getfield 21, 3) := by decide +kernel
theorem d5_4 : decode prog_48_method_7_code 4 = .ok (.ireturn, 1) := by decide +kernel
theorem pn5 : plainName "com/example/assentor/assentor/core/SystemSize" = true := by first | (simp [plainName, overriddenIn]; done) | decide +kernel
theorem ef_rm5 (m : MethodId) (r0 : Addr) : entryFrame m #[(.ref r0)] 1 = mkF m 0 #[.val (.ref r0)] [] := by first | (simp [entryFrame, mkF, argsToLocals, Value.category]; done) | rfl
def F5 (r0 : Addr) (w_n_r0 : Int32) : Int32 := w_n_r0
set_option maxRecDepth 65536 in
set_option maxHeartbeats 40000000 in
theorem rm5 (l : Launch) (Z : State) (a0 : Array Value) (hw : ∀ d ∈ tables_1, d.before a0 Z = true) (ws : List Jvm.Cond) (r0 : Addr) (w_n_r0 : Int32) (h0 : Heap) (n0 : Nat) (Z0 : n0 ≤ h0.size) (F_n_r0 : Fld Z h0 r0 "com/example/assentor/assentor/core/SystemSize" "n" "I" (.int w_n_r0)) :
    MetFree l (⟨"com/example/assentor/assentor/core/SystemSize", "n", "()I"⟩ : MethodName) (head1 (Jvm.Cond.code (⟨"com/example/assentor/assentor/core/SystemSize", "n", "()I"⟩ : MethodName) prog_48_method_7_code 1 (some .int) :: ws) ({ frames := 0, cells := 0, slots := 0, locals := 0 } : Room)) (fun a U => a = #[(.ref r0)] ∧ Z.Warmed39 U.vm ∧ U.heap = h0) (fun _ _ _ _ _ => True) (fun _ U o U' => ∃ v L, o = .returned v ∧ (own_Same (.int (F5 r0 w_n_r0)) h0 n0) v U'.heap L ∧ FrameEnd U o U' L 0 0) := by
  refine MetFree.of_bodySF (plainFor_of_name pn5) hisR ?_
  intro p e s m args below meth c s₁ Bd hml0 hP hK
  obtain ⟨rfl, hZ, hh⟩ := hP
  have hx := Bd.exec
  have hby := Bd.bytes
  have hml : c.maxLocals = 1 := hml0
  have hown : s.vm.findClass "com/example/assentor/assentor/core/SystemSize" = some m.cls := findClass_of_methodNamed Bd.named
  have hnm := (name_of_methodNamed Bd.named Bd.method).1
  have X0 : Stand p l e ({ frames := 0, cells := 0, slots := 0, locals := 0 } : Room) s m #[(.ref r0)] below meth c s₁ [] 0 0 := Stand.of_body Bd
  have e0 : s₁.heap = h0 := by rw [← hh, Bd.state]; rfl
  have N0 := Fr.nil n0
  show own_Goes p e below (own_End s (own_Same (.int (F5 r0 w_n_r0)) h0 n0) 0 0) _
  refine own_go (G := s₁.setTop (mkF m 0 #[.val (.ref r0)] [])) (fun t k => castTop (ef_rm5 m r0) k) ?_
  refine own_go (G := s₁.setTop (mkF m 1 #[.val (.ref r0)] [(.ref r0)])) (fun _ k => XS.aloadN X0.here hx rfl (hb hby d5_0) rfl rfl k) ?_
  obtain ⟨T3, X3, e3, st3⟩ := getF X0 hx hZ hown (host := "") (Or.inl (hw _ (List.mem_of_getElem? (i := 15) rfl))) Via.refl e0 F_n_r0 (g := (mkF m 1 #[.val (.ref r0)] [(.ref r0)])) rfl rfl (hb hby d5_1)
  refine own_go (G := T3.setTop (mkF m 4 #[.val (.ref r0)] [(.int w_n_r0)])) (st3) ?_
  exact own_retI X3 hx Bd.returns (hb hby d5_4) Bd.notSynchronized (by decide) (by decide) ⟨rfl, N0, e3⟩
theorem d6_0 : decode prog_48_method_2_code 0 = .ok (.aload_n 0, 1) := by decide +kernel
theorem d6_1 : decode prog_48_method_2_code 1 = .ok (.getfield 21, 3) := by decide +kernel
theorem d6_4 : decode prog_48_method_2_code 4 = .ok (.aload_n 0, 1) := by decide +kernel
theorem d6_5 : decode prog_48_method_2_code 5 = .ok (.getfield 25, 3) := by decide +kernel
theorem d6_8 : decode prog_48_method_2_code 8 = .ok (.isub, 1) := by decide +kernel
theorem d6_9 : decode prog_48_method_2_code 9 = .ok (.ireturn, 1) := by decide +kernel
theorem pn6 : plainName "com/example/assentor/assentor/core/SystemSize" = true := by first | (simp [plainName, overriddenIn]; done) | decide +kernel
theorem ef_rm6 (m : MethodId) (r0 : Addr) : entryFrame m #[(.ref r0)] 1 = mkF m 0 #[.val (.ref r0)] [] := by first | (simp [entryFrame, mkF, argsToLocals, Value.category]; done) | rfl
def F6 (r0 : Addr) (w_n_r0 : Int32) (w_f_r0 : Int32) : Int32 := (w_n_r0 - w_f_r0)
set_option maxRecDepth 65536 in
set_option maxHeartbeats 40000000 in
theorem rm6 (l : Launch) (Z : State) (a0 : Array Value) (hw : ∀ d ∈ tables_1, d.before a0 Z = true) (ws : List Jvm.Cond) (r0 : Addr) (w_n_r0 : Int32) (w_f_r0 : Int32) (h0 : Heap) (n0 : Nat) (Z0 : n0 ≤ h0.size) (F_n_r0 : Fld Z h0 r0 "com/example/assentor/assentor/core/SystemSize" "n" "I" (.int w_n_r0)) (F_f_r0 : Fld Z h0 r0 "com/example/assentor/assentor/core/SystemSize" "f" "I" (.int w_f_r0)) :
    MetFree l (⟨"com/example/assentor/assentor/core/SystemSize", "honest", "()I"⟩ : MethodName) (head1 (Jvm.Cond.code (⟨"com/example/assentor/assentor/core/SystemSize", "honest", "()I"⟩ : MethodName) prog_48_method_2_code 1 (some .int) :: ws) ({ frames := 0, cells := 0, slots := 0, locals := 0 } : Room)) (fun a U => a = #[(.ref r0)] ∧ Z.Warmed39 U.vm ∧ U.heap = h0) (fun _ _ _ _ _ => True) (fun _ U o U' => ∃ v L, o = .returned v ∧ (own_Same (.int (F6 r0 w_n_r0 w_f_r0)) h0 n0) v U'.heap L ∧ FrameEnd U o U' L 0 0) := by
  refine MetFree.of_bodySF (plainFor_of_name pn6) hisR ?_
  intro p e s m args below meth c s₁ Bd hml0 hP hK
  obtain ⟨rfl, hZ, hh⟩ := hP
  have hx := Bd.exec
  have hby := Bd.bytes
  have hml : c.maxLocals = 1 := hml0
  have hown : s.vm.findClass "com/example/assentor/assentor/core/SystemSize" = some m.cls := findClass_of_methodNamed Bd.named
  have hnm := (name_of_methodNamed Bd.named Bd.method).1
  have X0 : Stand p l e ({ frames := 0, cells := 0, slots := 0, locals := 0 } : Room) s m #[(.ref r0)] below meth c s₁ [] 0 0 := Stand.of_body Bd
  have e0 : s₁.heap = h0 := by rw [← hh, Bd.state]; rfl
  have N0 := Fr.nil n0
  show own_Goes p e below (own_End s (own_Same (.int (F6 r0 w_n_r0 w_f_r0)) h0 n0) 0 0) _
  refine own_go (G := s₁.setTop (mkF m 0 #[.val (.ref r0)] [])) (fun t k => castTop (ef_rm6 m r0) k) ?_
  refine own_go (G := s₁.setTop (mkF m 1 #[.val (.ref r0)] [(.ref r0)])) (fun _ k => XS.aloadN X0.here hx rfl (hb hby d6_0) rfl rfl k) ?_
  obtain ⟨T5, X5, e5, st5⟩ := getF X0 hx hZ hown (host := "") (Or.inl (hw _ (List.mem_of_getElem? (i := 15) rfl))) Via.refl e0 F_n_r0 (g := (mkF m 1 #[.val (.ref r0)] [(.ref r0)])) rfl rfl (hb hby d6_1)
  refine own_go (G := T5.setTop (mkF m 4 #[.val (.ref r0)] [(.int w_n_r0)])) (st5) ?_
  refine own_go (G := T5.setTop (mkF m 5 #[.val (.ref r0)] [(.ref r0), (.int w_n_r0)])) (fun _ k => XS.aloadN X5.here hx rfl (hb hby d6_4) rfl rfl k) ?_
  obtain ⟨T6, X6, e6, st6⟩ := getF X5 hx hZ hown (host := "") (Or.inl (hw _ (List.mem_of_getElem? (i := 17) rfl))) Via.refl e5 F_f_r0 (g := (mkF m 5 #[.val (.ref r0)] [(.ref r0), (.int w_n_r0)])) rfl rfl (hb hby d6_5)
  refine own_go (G := T6.setTop (mkF m 8 #[.val (.ref r0)] [(.int w_f_r0), (.int w_n_r0)])) (st6) ?_
  refine own_go (G := T6.setTop (mkF m 9 #[.val (.ref r0)] [(.int (w_n_r0 - w_f_r0))])) (fun _ k => XS.isub X6.here hx rfl (hb hby d6_8) rfl k) ?_
  exact own_retI X6 hx Bd.returns (hb hby d6_9) Bd.notSynchronized (by decide) (by decide) ⟨rfl, N0, e6⟩
theorem d4_0 : decode prog_104_method_7_code 0 = .ok (.aload_n 0, 1) := by decide +kernel
theorem d4_1 : decode prog_104_method_7_code 1 = .ok (.invokevirtual 16, 3) := by decide +kernel
theorem d4_4 : decode prog_104_method_7_code 4 = .ok (.istore_n 1, 1) := by decide +kernel
theorem d4_5 : decode prog_104_method_7_code 5 = .ok (.aload_n 0, 1) := by decide +kernel
theorem d4_6 : decode prog_104_method_7_code 6 = .ok (.invokevirtual 64, 3) := by decide +kernel
theorem d4_9 : decode prog_104_method_7_code 9 = .ok (.istore_n 2, 1) := by decide +kernel
theorem d4_10 : decode prog_104_method_7_code 10 = .ok (.iload_n 1, 1) := by decide +kernel
theorem d4_11 : decode prog_104_method_7_code 11 = .ok (.iload_n 2, 1) := by decide +kernel
theorem d4_12 : decode prog_104_method_7_code 12 = .ok (.iadd, 1) := by decide +kernel
theorem d4_13 : decode prog_104_method_7_code 13 = .ok (.iconst 1, 1) := by decide +kernel
theorem d4_14 : decode prog_104_method_7_code 14 = .ok (.isub, 1) := by decide +kernel
theorem d4_15 : decode prog_104_method_7_code 15 = .ok (.iload_n 2, 1) := by decide +kernel
theorem d4_16 : decode prog_104_method_7_code 16 = .ok (.idiv, 1) := by decide +kernel
theorem d4_17 : decode prog_104_method_7_code 17 = .ok (.iload_n 1, 1) := by decide +kernel
theorem d4_18 : decode prog_104_method_7_code 18 = .ok (.iload_n 2, 1) := by decide +kernel
theorem d4_19 : decode prog_104_method_7_code 19 = .ok (.idiv, 1) := by decide +kernel
theorem d4_20 : decode prog_104_method_7_code 20 = .ok (.iadd, 1) := by decide +kernel
theorem d4_21 : decode prog_104_method_7_code 21 = .ok (.iconst 1, 1) := by decide +kernel
theorem d4_22 : decode prog_104_method_7_code 22 = .ok (.isub, 1) := by decide +kernel
theorem d4_23 : decode prog_104_method_7_code 23 = .ok (.ireturn, 1) := by decide +kernel
theorem pn4 : plainName "com/example/assentor/assentor/protocols/TrustGraph" = true := by first | (simp [plainName, overriddenIn]; done) | decide +kernel
theorem pd1 : parseMethodDescriptor "()I" = some ⟨[], some .int⟩ := by decide +kernel
theorem ef_rm4 (m : MethodId) (r0 : Addr) : entryFrame m #[(.ref r0)] 3 = mkF m 0 #[.val (.ref r0), .unset, .unset] [] := by first | (simp [entryFrame, mkF, argsToLocals, Value.category]; done) | rfl
def F4 (r0 : Addr) (w_n_r0 : Int32) (w_f_r0 : Int32) : Int32 := ((((((F5 r0 w_n_r0) + (F6 r0 w_n_r0 w_f_r0)) - (1 : Int32)) / (F6 r0 w_n_r0 w_f_r0)) + ((F5 r0 w_n_r0) / (F6 r0 w_n_r0 w_f_r0))) - (1 : Int32))
set_option maxRecDepth 65536 in
set_option maxHeartbeats 40000000 in
theorem rm4 (l : Launch) (Z : State) (a0 : Array Value) (hw : ∀ d ∈ tables_1, d.before a0 Z = true) (ws : List Jvm.Cond) (r0 : Addr) (w_n_r0 : Int32) (w_f_r0 : Int32) (h0 : Heap) (n0 : Nat) (Z0 : n0 ≤ h0.size) (F_n_r0 : Fld Z h0 r0 "com/example/assentor/assentor/core/SystemSize" "n" "I" (.int w_n_r0)) (F_f_r0 : Fld Z h0 r0 "com/example/assentor/assentor/core/SystemSize" "f" "I" (.int w_f_r0)) (E_r0 : Exa Z h0 r0 "com/example/assentor/assentor/core/SystemSize") (hz : (w_n_r0 - w_f_r0) ≠ 0) :
    MetFree l (⟨"com/example/assentor/assentor/protocols/TrustGraph", "diameterBound", "(Lcom/example/assentor/assentor/core/SystemSize;)I"⟩ : MethodName) (head1 (Jvm.Cond.code (⟨"com/example/assentor/assentor/protocols/TrustGraph", "diameterBound", "(Lcom/example/assentor/assentor/core/SystemSize;)I"⟩ : MethodName) prog_104_method_7_code 3 (some .int) :: ws) ({ frames := 1, cells := 0, slots := 0, locals := 12 } : Room)) (fun a U => a = #[(.ref r0)] ∧ Z.Warmed39 U.vm ∧ U.heap = h0) (fun _ _ _ _ _ => True) (fun _ U o U' => ∃ v L, o = .returned v ∧ (own_Same (.int (F4 r0 w_n_r0 w_f_r0)) h0 n0) v U'.heap L ∧ FrameEnd U o U' L 0 0) := by
  refine MetFree.of_bodySF (plainFor_of_name pn4) hisR ?_
  intro p e s m args below meth c s₁ Bd hml0 hP hK
  obtain ⟨rfl, hZ, hh⟩ := hP
  have hx := Bd.exec
  have hby := Bd.bytes
  have hml : c.maxLocals = 3 := hml0
  have hown : s.vm.findClass "com/example/assentor/assentor/protocols/TrustGraph" = some m.cls := findClass_of_methodNamed Bd.named
  have hnm := (name_of_methodNamed Bd.named Bd.method).1
  have X0 : Stand p l e ({ frames := 1, cells := 0, slots := 0, locals := 12 } : Room) s m #[(.ref r0)] below meth c s₁ [] 0 0 := Stand.of_body Bd
  have e0 : s₁.heap = h0 := by rw [← hh, Bd.state]; rfl
  have N0 := Fr.nil n0
  show own_Goes p e below (own_End s (own_Same (.int (F4 r0 w_n_r0 w_f_r0)) h0 n0) 0 0) _
  refine own_go (G := s₁.setTop (mkF m 0 #[.val (.ref r0), .unset, .unset] [])) (fun t k => castTop (ef_rm4 m r0) k) ?_
  refine own_go (G := s₁.setTop (mkF m 1 #[.val (.ref r0), .unset, .unset] [(.ref r0)])) (fun _ k => XS.aloadN X0.here hx rfl (hb hby d4_0) rfl rfl k) ?_
  obtain ⟨cq5, kq5, q5a, q5b, q5c⟩ := isOf hZ e0 E_r0
  obtain ⟨_, _, ⟨T5, L5, k5, n5⟩, -, X5, ⟨Lc5, hQ5, l5, y5, z5⟩, st5⟩ := X0.virtualBack hx (y := (⟨"com/example/assentor/assentor/core/SystemSize", "n", "()I"⟩ : MethodName)) (z := (⟨"com/example/assentor/assentor/core/SystemSize", "n", "()I"⟩ : MethodName)) hown (mvT hZ (hw _ (List.mem_of_getElem? (i := 23) rfl))) (mvT hZ (hw _ (List.mem_of_getElem? (i := 24) rfl))) (notFace_of_selects (args := #[]) (mvT hZ (hw _ (List.mem_of_getElem? (i := 26) rfl)))) (mvT hZ (hw _ (List.mem_of_getElem? (i := 26) rfl))) (mvT hZ (hw _ (List.mem_of_getElem? (i := 25) rfl))) (by decide) (backOf (W := 0) (rm5 l Z a0 hw [] r0 w_n_r0 h0 n0 Z0 F_n_r0) hZ (hw _ (List.mem_of_getElem? (i := 27) rfl)) (hw _ (List.mem_of_getElem? (i := 3) rfl)) (by decide) (by decide)) q5a q5c (g := (mkF m 1 #[.val (.ref r0), .unset, .unset] [(.ref r0)])) rfl (by rw [hml]; rfl) (Steps.refl _) (argsL := []) (rest := []) (lenOf pd1 rfl) rfl (by show 2 * 0 + _ ≤ _; exact Nat.le_of_eq rfl) (hb hby d4_1) (fun _ _ => ⟨rfl, e0, (by decide : 0 + 0 ≤ _), (by decide : 0 + 0 ≤ _)⟩)
  dsimp only [Pt.U, Pt.locs, Pt.cells, Pt.slots] at X5 l5 y5 z5 st5 hQ5
  subst l5 y5 z5
  obtain ⟨rfl, Nq5, e5⟩ := hQ5
  have N5 := Fr.app N0 Nq5
  refine own_go (G := T5.setTop (mkF m 4 #[.val (.ref r0), .unset, .unset] [(.int (F5 r0 w_n_r0))])) (fun _ k => st5.trans k) ?_
  refine own_go (G := T5.setTop (mkF m 5 #[.val (.ref r0), .val (.int (F5 r0 w_n_r0)), .unset] [])) (fun _ k => XS.istoreN X5.here hx rfl (hb hby d4_4) rfl (l' := #[.val (.ref r0), .val (.int (F5 r0 w_n_r0)), .unset]) rfl k) ?_
  refine own_go (G := T5.setTop (mkF m 6 #[.val (.ref r0), .val (.int (F5 r0 w_n_r0)), .unset] [(.ref r0)])) (fun _ k => XS.aloadN X5.here hx rfl (hb hby d4_5) rfl rfl k) ?_
  obtain ⟨cq6, kq6, q6a, q6b, q6c⟩ := isOf hZ e5 E_r0
  obtain ⟨_, _, ⟨T6, L6, k6, n6⟩, -, X6, ⟨Lc6, hQ6, l6, y6, z6⟩, st6⟩ := X5.virtualBack hx (y := (⟨"com/example/assentor/assentor/core/SystemSize", "honest", "()I"⟩ : MethodName)) (z := (⟨"com/example/assentor/assentor/core/SystemSize", "honest", "()I"⟩ : MethodName)) hown (mvT hZ (hw _ (List.mem_of_getElem? (i := 28) rfl))) (mvT hZ (hw _ (List.mem_of_getElem? (i := 29) rfl))) (notFace_of_selects (args := #[]) (mvT hZ (hw _ (List.mem_of_getElem? (i := 31) rfl)))) (mvT hZ (hw _ (List.mem_of_getElem? (i := 31) rfl))) (mvT hZ (hw _ (List.mem_of_getElem? (i := 30) rfl))) (by decide) (backOf (W := 0) (rm6 l Z a0 hw [] r0 w_n_r0 w_f_r0 h0 n0 Z0 F_n_r0 F_f_r0) hZ (hw _ (List.mem_of_getElem? (i := 32) rfl)) (hw _ (List.mem_of_getElem? (i := 3) rfl)) (by decide) (by decide)) q6a q6c (g := (mkF m 6 #[.val (.ref r0), .val (.int (F5 r0 w_n_r0)), .unset] [(.ref r0)])) rfl (by rw [hml]; rfl) (Steps.refl _) (argsL := []) (rest := []) (lenOf pd1 rfl) rfl (by show 2 * 0 + _ ≤ _; exact Nat.le_of_eq rfl) (hb hby d4_6) (fun _ _ => ⟨rfl, e5, (by decide : 0 + 0 ≤ _), (by decide : 0 + 0 ≤ _)⟩)
  dsimp only [Pt.U, Pt.locs, Pt.cells, Pt.slots] at X6 l6 y6 z6 st6 hQ6
  subst l6 y6 z6
  obtain ⟨rfl, Nq6, e6⟩ := hQ6
  have N6 := Fr.app N5 Nq6
  refine own_go (G := T6.setTop (mkF m 9 #[.val (.ref r0), .val (.int (F5 r0 w_n_r0)), .unset] [(.int (F6 r0 w_n_r0 w_f_r0))])) (fun _ k => st6.trans k) ?_
  refine own_go (G := T6.setTop (mkF m 10 #[.val (.ref r0), .val (.int (F5 r0 w_n_r0)), .val (.int (F6 r0 w_n_r0 w_f_r0))] [])) (fun _ k => XS.istoreN X6.here hx rfl (hb hby d4_9) rfl (l' := #[.val (.ref r0), .val (.int (F5 r0 w_n_r0)), .val (.int (F6 r0 w_n_r0 w_f_r0))]) rfl k) ?_
  refine own_go (G := T6.setTop (mkF m 11 #[.val (.ref r0), .val (.int (F5 r0 w_n_r0)), .val (.int (F6 r0 w_n_r0 w_f_r0))] [(.int (F5 r0 w_n_r0))])) (fun _ k => XS.iloadN X6.here hx rfl (hb hby d4_10) rfl k) ?_
  refine own_go (G := T6.setTop (mkF m 12 #[.val (.ref r0), .val (.int (F5 r0 w_n_r0)), .val (.int (F6 r0 w_n_r0 w_f_r0))] [(.int (F6 r0 w_n_r0 w_f_r0)), (.int (F5 r0 w_n_r0))])) (fun _ k => XS.iloadN X6.here hx rfl (hb hby d4_11) rfl k) ?_
  refine own_go (G := T6.setTop (mkF m 13 #[.val (.ref r0), .val (.int (F5 r0 w_n_r0)), .val (.int (F6 r0 w_n_r0 w_f_r0))] [(.int ((F5 r0 w_n_r0) + (F6 r0 w_n_r0 w_f_r0)))])) (fun _ k => XS.iadd X6.here hx rfl (hb hby d4_12) rfl k) ?_
  refine own_go (G := T6.setTop (mkF m 14 #[.val (.ref r0), .val (.int (F5 r0 w_n_r0)), .val (.int (F6 r0 w_n_r0 w_f_r0))] [(.int (1 : Int32)), (.int ((F5 r0 w_n_r0) + (F6 r0 w_n_r0 w_f_r0)))])) (fun _ k => XS.iconst X6.here hx rfl (hb hby d4_13) k) ?_
  refine own_go (G := T6.setTop (mkF m 15 #[.val (.ref r0), .val (.int (F5 r0 w_n_r0)), .val (.int (F6 r0 w_n_r0 w_f_r0))] [(.int (((F5 r0 w_n_r0) + (F6 r0 w_n_r0 w_f_r0)) - (1 : Int32)))])) (fun _ k => XS.isub X6.here hx rfl (hb hby d4_14) rfl k) ?_
  refine own_go (G := T6.setTop (mkF m 16 #[.val (.ref r0), .val (.int (F5 r0 w_n_r0)), .val (.int (F6 r0 w_n_r0 w_f_r0))] [(.int (F6 r0 w_n_r0 w_f_r0)), (.int (((F5 r0 w_n_r0) + (F6 r0 w_n_r0 w_f_r0)) - (1 : Int32)))])) (fun _ k => XS.iloadN X6.here hx rfl (hb hby d4_15) rfl k) ?_
  refine own_go (G := T6.setTop (mkF m 17 #[.val (.ref r0), .val (.int (F5 r0 w_n_r0)), .val (.int (F6 r0 w_n_r0 w_f_r0))] [(.int ((((F5 r0 w_n_r0) + (F6 r0 w_n_r0 w_f_r0)) - (1 : Int32)) / (F6 r0 w_n_r0 w_f_r0)))])) (fun _ k => XS.idiv X6.here hx rfl (hb hby d4_16) rfl hz k) ?_
  refine own_go (G := T6.setTop (mkF m 18 #[.val (.ref r0), .val (.int (F5 r0 w_n_r0)), .val (.int (F6 r0 w_n_r0 w_f_r0))] [(.int (F5 r0 w_n_r0)), (.int ((((F5 r0 w_n_r0) + (F6 r0 w_n_r0 w_f_r0)) - (1 : Int32)) / (F6 r0 w_n_r0 w_f_r0)))])) (fun _ k => XS.iloadN X6.here hx rfl (hb hby d4_17) rfl k) ?_
  refine own_go (G := T6.setTop (mkF m 19 #[.val (.ref r0), .val (.int (F5 r0 w_n_r0)), .val (.int (F6 r0 w_n_r0 w_f_r0))] [(.int (F6 r0 w_n_r0 w_f_r0)), (.int (F5 r0 w_n_r0)), (.int ((((F5 r0 w_n_r0) + (F6 r0 w_n_r0 w_f_r0)) - (1 : Int32)) / (F6 r0 w_n_r0 w_f_r0)))])) (fun _ k => XS.iloadN X6.here hx rfl (hb hby d4_18) rfl k) ?_
  refine own_go (G := T6.setTop (mkF m 20 #[.val (.ref r0), .val (.int (F5 r0 w_n_r0)), .val (.int (F6 r0 w_n_r0 w_f_r0))] [(.int ((F5 r0 w_n_r0) / (F6 r0 w_n_r0 w_f_r0))), (.int ((((F5 r0 w_n_r0) + (F6 r0 w_n_r0 w_f_r0)) - (1 : Int32)) / (F6 r0 w_n_r0 w_f_r0)))])) (fun _ k => XS.idiv X6.here hx rfl (hb hby d4_19) rfl hz k) ?_
  refine own_go (G := T6.setTop (mkF m 21 #[.val (.ref r0), .val (.int (F5 r0 w_n_r0)), .val (.int (F6 r0 w_n_r0 w_f_r0))] [(.int (((((F5 r0 w_n_r0) + (F6 r0 w_n_r0 w_f_r0)) - (1 : Int32)) / (F6 r0 w_n_r0 w_f_r0)) + ((F5 r0 w_n_r0) / (F6 r0 w_n_r0 w_f_r0))))])) (fun _ k => XS.iadd X6.here hx rfl (hb hby d4_20) rfl k) ?_
  refine own_go (G := T6.setTop (mkF m 22 #[.val (.ref r0), .val (.int (F5 r0 w_n_r0)), .val (.int (F6 r0 w_n_r0 w_f_r0))] [(.int (1 : Int32)), (.int (((((F5 r0 w_n_r0) + (F6 r0 w_n_r0 w_f_r0)) - (1 : Int32)) / (F6 r0 w_n_r0 w_f_r0)) + ((F5 r0 w_n_r0) / (F6 r0 w_n_r0 w_f_r0))))])) (fun _ k => XS.iconst X6.here hx rfl (hb hby d4_21) k) ?_
  refine own_go (G := T6.setTop (mkF m 23 #[.val (.ref r0), .val (.int (F5 r0 w_n_r0)), .val (.int (F6 r0 w_n_r0 w_f_r0))] [(.int ((((((F5 r0 w_n_r0) + (F6 r0 w_n_r0 w_f_r0)) - (1 : Int32)) / (F6 r0 w_n_r0 w_f_r0)) + ((F5 r0 w_n_r0) / (F6 r0 w_n_r0 w_f_r0))) - (1 : Int32)))])) (fun _ k => XS.isub X6.here hx rfl (hb hby d4_22) rfl k) ?_
  exact own_retI X6 hx Bd.returns (hb hby d4_23) Bd.notSynchronized (by decide) (by decide) ⟨rfl, N6, e6⟩

theorem own_n {a n : Int32} (h : (2 : Int32) + ((a &&& (2147483647 : Int32)) % (1023 : Int32)) = n) : 2 ≤ n.toInt ∧ n.toInt ≤ 1024 := by
  have a2 := c_mask a 2147483647 31 (by decide) (by decide)
  have a3 := (c_irem (a &&& 2147483647) 1023 1023 (by decide)).1 (by rw [a2]; omega)
  have a4 := c_iadd 2 ((a &&& 2147483647) % 1023)
  rw [h, show (2 : Int32).toInt = 2 from rfl] at a4
  have r := rng32 n
  omega
theorem own_m {a n : Int32} (h : (2 : Int32) + ((a &&& (2147483647 : Int32)) % (1023 : Int32)) = n) (k : Int32) (hk : k.toInt = 1 ∨ k.toInt = 2) : (n - k).toInt = n.toInt - k.toInt := by
  have a1 := own_n h
  have a4 := c_isub n k
  have r := rng32 (n - k)
  omega
theorem own_nz1 {a n : Int32} (h : (2 : Int32) + ((a &&& (2147483647 : Int32)) % (1023 : Int32)) = n) : n - (1 : Int32) ≠ 0 := by
  intro q
  have a1 := own_n h
  have a2 := own_m h 1 (by decide)
  rw [q] at a2
  rw [show (0 : Int32).toInt = 0 from rfl, show (1 : Int32).toInt = 1 from rfl] at a2
  omega
theorem own_f {a b n f : Int32} (h : (2 : Int32) + ((a &&& (2147483647 : Int32)) % (1023 : Int32)) = n) (hf : (b &&& (2147483647 : Int32)) % (n - (1 : Int32)) = f) : 0 ≤ f.toInt ∧ f.toInt < n.toInt - 1 := by
  have a1 := own_n h
  have a2 := own_m h 1 (by decide)
  rw [show (1 : Int32).toInt = 1 from rfl] at a2
  have a3 := c_mask b 2147483647 31 (by decide) (by decide)
  have a4 := (c_iremV (b &&& 2147483647) (n - 1)).1 (by omega) (by omega)
  rw [hf] at a4
  omega
theorem own_h {a b n f : Int32} (h : (2 : Int32) + ((a &&& (2147483647 : Int32)) % (1023 : Int32)) = n) (hf : (b &&& (2147483647 : Int32)) % (n - (1 : Int32)) = f) : (n - f).toInt = n.toInt - f.toInt := by
  have a0 := own_n h
  have a1 := own_f h hf
  have a2 := c_isub n f
  have r := rng32 (n - f)
  omega
theorem own_nz {a b n f : Int32} (h : (2 : Int32) + ((a &&& (2147483647 : Int32)) % (1023 : Int32)) = n) (hf : (b &&& (2147483647 : Int32)) % (n - (1 : Int32)) = f) : n - f ≠ 0 := by
  intro q
  have a0 := own_h h hf
  have a1 := own_f h hf
  rw [q, show (0 : Int32).toInt = 0 from rfl] at a0
  omega
theorem own_p1 {a n : Int32} (h : (2 : Int32) + ((a &&& (2147483647 : Int32)) % (1023 : Int32)) = n) : ¬ (n < (2 : Int32)) := by
  have a1 := own_n h
  rw [Int32.lt_iff_toInt_lt, show (2 : Int32).toInt = 2 from rfl]; omega
theorem own_p2 {a n : Int32} (h : (2 : Int32) + ((a &&& (2147483647 : Int32)) % (1023 : Int32)) = n) : ¬ ((1024 : Int32) < n) := by
  have a1 := own_n h
  rw [Int32.lt_iff_toInt_lt, show (1024 : Int32).toInt = 1024 from rfl]; omega
theorem own_p3 {a b n f : Int32} (h : (2 : Int32) + ((a &&& (2147483647 : Int32)) % (1023 : Int32)) = n) (hf : (b &&& (2147483647 : Int32)) % (n - (1 : Int32)) = f) : ¬ (f < (0 : Int32)) := by
  have a1 := own_f h hf
  rw [Int32.lt_iff_toInt_lt, show (0 : Int32).toInt = 0 from rfl]; omega
theorem own_p4 {a b n f : Int32} (h : (2 : Int32) + ((a &&& (2147483647 : Int32)) % (1023 : Int32)) = n) (hf : (b &&& (2147483647 : Int32)) % (n - (1 : Int32)) = f) : ¬ ((n - (2 : Int32)) < f) := by
  have a1 := own_f h hf
  have a2 := own_m h 2 (by decide)
  rw [show (2 : Int32).toInt = 2 from rfl] at a2
  rw [Int32.lt_iff_toInt_lt]; omega
theorem own_div (N H : Int) (hN : 2 ≤ N) (hH : 2 ≤ H) : ∃ B r : Int, N = H * B + r ∧ 0 ≤ r ∧ r < H ∧ N / H = B ∧ 0 ≤ B ∧ B ≤ N ∧ (r = 0 → (N + H - 1) / H = B) ∧ (r ≠ 0 → (N + H - 1) / H = B + 1) := by
  have e1 := Int.mul_ediv_add_emod N H
  have e2 := Int.emod_nonneg N (show H ≠ 0 by omega)
  have e3 := Int.emod_lt_of_pos N (show 0 < H by omega)
  refine ⟨N / H, N % H, e1.symm, e2, e3, rfl, Int.ediv_nonneg (by omega) (by omega), Int.ediv_le_self _ (by omega), fun q => ?_, fun q => ?_⟩
  · have : N + H - 1 = (H - 1) + H * (N / H) := by omega
    rw [this, Int.add_mul_ediv_left _ _ (by omega), Int.ediv_eq_zero_of_lt (by omega) (by omega)]; omega
  · have : N + H - 1 = (N % H - 1) + H * (N / H + 1) := by rw [Int.mul_add, Int.mul_one]; omega
    rw [this, Int.add_mul_ediv_left _ _ (by omega), Int.ediv_eq_zero_of_lt (by omega) (by omega)]; omega
/-- what the law's own steps reckon: s is twice the quotient, and one more where there is a rest -/
theorem own_s {a b n f d : Int32} {s : Int64} (r0 : Addr) (h : (2 : Int32) + ((a &&& (2147483647 : Int32)) % (1023 : Int32)) = n) (hf : (b &&& (2147483647 : Int32)) % (n - (1 : Int32)) = f) (hd : F4 r0 n f = d) (hs : d.toInt64 + (1 : Int64) = s) :
    ∃ B r : Int, n.toInt = (n - f).toInt * B + r ∧ 0 ≤ r ∧ r < (n - f).toInt ∧ 0 ≤ B ∧ B ≤ 1024 ∧ (r = 0 → s.toInt = 2 * B) ∧ (r ≠ 0 → s.toInt = 2 * B + 1) := by
  have b0 := own_n h
  have b1 := own_f h hf
  have b2 := own_h h hf
  obtain ⟨B, r, c1, c2, c3, c4, c5, c6, c7, c8⟩ := own_div n.toInt (n - f).toInt (by omega) (by omega)
  have e1 := c_iadd n (n - f)
  have q1 := rng32 (n + (n - f))
  have e2 := c_isub (n + (n - f)) 1
  have q2 := rng32 (n + (n - f) - 1)
  rw [show (1 : Int32).toInt = 1 from rfl] at e2
  have e3 : (n + (n - f) - 1).toInt = n.toInt + (n - f).toInt - 1 := by omega
  have hm1 : (n - f) ≠ -1 := by intro q; rw [q, show (-1 : Int32).toInt = -1 from rfl] at b2; omega
  have e4 := (c_idiv (n + (n - f) - 1) (n - f) _ rfl hm1).1 (by omega)
  have e5 := (c_idiv n (n - f) _ rfl hm1).1 (by omega)
  rw [e3] at e4
  rw [c4] at e5
  have e6 := c_iadd ((n + (n - f) - 1) / (n - f)) (n / (n - f))
  have q6 := rng32 ((n + (n - f) - 1) / (n - f) + n / (n - f))
  have e7 := c_isub ((n + (n - f) - 1) / (n - f) + n / (n - f)) 1
  have q7 := rng32 ((n + (n - f) - 1) / (n - f) + n / (n - f) - 1)
  rw [show (1 : Int32).toInt = 1 from rfl] at e7
  have hd' : (n + (n - f) - 1) / (n - f) + n / (n - f) - 1 = d := hd
  rw [hd'] at e7 q7
  have e8 := c_ladd d.toInt64 1
  rw [hs, c_i2l, show (1 : Int64).toInt = 1 from rfl] at e8
  have q8 := rng64 s
  refine ⟨B, r, c1, c2, c3, c5, by omega, fun z => ?_, fun z => ?_⟩
  · rw [c7 z] at e4; omega
  · rw [c8 z] at e4; omega
theorem own_mul {x y z : Int64} {X Y : Int} (h1 : x.toInt = X) (h2 : y.toInt = Y) (p1 : 0 ≤ X) (p2 : X ≤ 4096) (p3 : 0 ≤ Y) (p4 : Y ≤ 4096) : (x * y).toInt = X * Y := by
  have e := c_lmul x y
  have q := rng64 (x * y)
  rw [h1, h2] at e
  have m := mc (a := X) (b := Y) (l1 := 0) (h1 := 4096) (l2 := 0) (h2 := 4096) p1 p2 p3 p4
  omega
theorem own_par {s : Int64} (h : 0 ≤ s.toInt) : lcmpW (s - (s / (2 : Int64)) * (2 : Int64)) (0 : Int64) = (0 : Int32) ↔ s.toInt % 2 = 0 := by
  rw [lw_eq, own_le, (c_lrem s 2 2 rfl).1 h]; rfl
theorem own_half {s : Int64} (h : 0 ≤ s.toInt) : (s / (2 : Int64)).toInt = s.toInt / 2 := (c_ldiv s 2 2 rfl (by decide)).1 h
theorem own_even {a b n f d : Int32} {s q nn hh : Int64} (r0 : Addr) (h : (2 : Int32) + ((a &&& (2147483647 : Int32)) % (1023 : Int32)) = n) (hf : (b &&& (2147483647 : Int32)) % (n - (1 : Int32)) = f) {k : Int32} (hk : n - f = k) (hd : F4 r0 n f = d) (hs : d.toInt64 + (1 : Int64) = s) (hn : n.toInt64 = nn) (hh' : k.toInt64 = hh)
    (hq : s / (2 : Int64) = q) (hc : lcmpW (s - (s / (2 : Int64)) * (2 : Int64)) (0 : Int64) = (0 : Int32)) : lcmpW (q * hh) nn = (0 : Int32) := by
  subst hk
  have b0 := own_n h
  have b1 := own_f h hf
  have b2 := own_h h hf
  obtain ⟨B, r, c1, c2, c3, c4, c5, c6, c7⟩ := own_s r0 h hf hd hs
  have s0 : 0 ≤ s.toInt := by
    by_cases z : r = 0
    · have := c6 z; omega
    · have := c7 z; omega
  rw [own_par s0] at hc
  have z : r = 0 := by
    refine Decidable.byContradiction fun z => ?_
    have := c7 z
    omega
  have e := c6 z
  have e1 : q.toInt = B := by rw [← hq, own_half s0]; omega
  have e2 : hh.toInt = (n - f).toInt := by rw [← hh', c_i2l]
  have e3 : nn.toInt = n.toInt := by rw [← hn, c_i2l]
  rw [lw_eq, own_le, own_mul (z := 0) e1 e2 c4 (by omega) (by omega) (by omega), e3, c1, z, Int.mul_comm]
  omega
theorem own_odd {a b n f d : Int32} {s q nn hh : Int64} (r0 : Addr) (h : (2 : Int32) + ((a &&& (2147483647 : Int32)) % (1023 : Int32)) = n) (hf : (b &&& (2147483647 : Int32)) % (n - (1 : Int32)) = f) {k : Int32} (hk : n - f = k) (hd : F4 r0 n f = d) (hs : d.toInt64 + (1 : Int64) = s) (hn : n.toInt64 = nn) (hh' : k.toInt64 = hh)
    (hq : (s - (1 : Int64)) / (2 : Int64) = q) (hc : ¬ lcmpW (s - (s / (2 : Int64)) * (2 : Int64)) (0 : Int64) = (0 : Int32)) : lcmpW (q * hh) nn < (0 : Int32) ∧ lcmpW nn ((q + (1 : Int64)) * hh) < (0 : Int32) := by
  subst hk
  have b0 := own_n h
  have b1 := own_f h hf
  have b2 := own_h h hf
  obtain ⟨B, r, c1, c2, c3, c4, c5, c6, c7⟩ := own_s r0 h hf hd hs
  have s0 : 0 ≤ s.toInt := by
    by_cases z : r = 0
    · have := c6 z; omega
    · have := c7 z; omega
  rw [own_par s0] at hc
  have z : r ≠ 0 := by
    intro z
    have := c6 z
    omega
  have e := c7 z
  have e0 := c_lsub s 1
  have q0 := rng64 (s - 1)
  rw [show (1 : Int64).toInt = 1 from rfl] at e0
  have e1 : q.toInt = B := by rw [← hq, own_half (by omega)]; omega
  have e2 : hh.toInt = (n - f).toInt := by rw [← hh', c_i2l]
  have e3 : nn.toInt = n.toInt := by rw [← hn, c_i2l]
  have e4 := c_ladd q 1
  have q4 := rng64 (q + 1)
  rw [show (1 : Int64).toInt = 1 from rfl] at e4
  have e5 : (q + 1).toInt = B + 1 := by omega
  rw [lw_lt, lw_lt, Int64.lt_iff_toInt_lt, Int64.lt_iff_toInt_lt, own_mul (z := 0) e1 e2 c4 (by omega) (by omega) (by omega), own_mul (z := 0) e5 e2 (by omega) (by omega) (by omega) (by omega), e3, Int.add_mul, Int.mul_comm B]
  omega

theorem pn0 : plainName "com/example/assentor/assentor/protocols/TrustGraphDiameterBoundPinLaw" = true := by first | (simp [plainName, overriddenIn]; done) | decide +kernel
theorem pd2 : parseMethodDescriptor "(II)V" = some ⟨[.int, .int], none⟩ := by decide +kernel
theorem pd3 : parseMethodDescriptor "(Lcom/example/assentor/assentor/core/SystemSize;)I" = some ⟨[(.object "com/example/assentor/assentor/core/SystemSize")], some .int⟩ := by decide +kernel
theorem ef_rm0 (m : MethodId) (p0 : Int32) (p1 : Int32) : entryFrame m #[(.int p0), (.int p1)] maxLocals = mkF m 0 #[.val (.int p0), .val (.int p1), .unset, .unset, .unset, .unset, .unset, .unset, .unset, .unset, .unset, .unset, .unset, .unset] [] := by first | (simp [entryFrame, mkF, argsToLocals, Value.category, maxLocals]; done) | rfl
set_option maxRecDepth 65536 in
set_option maxHeartbeats 40000000 in
theorem rm0 (l : Launch) (Z : State) (a0 : Array Value) (hw : ∀ d ∈ tables_1, d.before a0 Z = true) (ws : List Jvm.Cond) (p0 : Int32) (p1 : Int32) (h0 : Heap) (n0 : Nat) (Z0 : n0 ≤ h0.size) :
    MetFree l x (head1 (Jvm.Cond.code x code maxLocals ret :: ws) room_1) (fun a U => a = #[(.int p0), (.int p1)] ∧ Z.Warmed39 U.vm ∧ U.heap = h0) (fun _ _ _ _ _ => True) (fun _ U o U' => ∃ v L, o = .returned v ∧ (own_True n0) v U'.heap L ∧ FrameEnd U o U' L 16 128) := by
  refine MetFree.of_bodySF (plainFor_of_name pn0) hisR ?_
  intro p e s m args below meth c s₁ Bd hml0 hP hK
  obtain ⟨rfl, hZ, hh⟩ := hP
  have hx := Bd.exec
  have hby := Bd.bytes
  have hml : c.maxLocals = 14 := hml0
  have hown : s.vm.findClass "com/example/assentor/assentor/protocols/TrustGraphDiameterBoundPinLaw" = some m.cls := findClass_of_methodNamed Bd.named
  have hnm := (name_of_methodNamed Bd.named Bd.method).1
  have X0 : Stand p l e room_1 s m #[(.int p0), (.int p1)] below meth c s₁ [] 0 0 := Stand.of_body Bd
  have e0 : s₁.heap = h0 := by rw [← hh, Bd.state]; rfl
  have N0 := Fr.nil n0
  show own_Goes p e below (own_End s (own_True n0) 16 128) _
  refine own_go (G := s₁.setTop (mkF m 0 #[.val (.int p0), .val (.int p1), .unset, .unset, .unset, .unset, .unset, .unset, .unset, .unset, .unset, .unset, .unset, .unset] [])) (fun t k => castTop (ef_rm0 m p0 p1) k) ?_
  refine own_go (G := s₁.setTop (mkF m 1 #[.val (.int p0), .val (.int p1), .unset, .unset, .unset, .unset, .unset, .unset, .unset, .unset, .unset, .unset, .unset, .unset] [(.int (2 : Int32))])) (fun _ k => XS.iconst X0.here hx rfl (hb hby at_0) k) ?_
  refine own_go (G := s₁.setTop (mkF m 2 #[.val (.int p0), .val (.int p1), .unset, .unset, .unset, .unset, .unset, .unset, .unset, .unset, .unset, .unset, .unset, .unset] [(.int p0), (.int (2 : Int32))])) (fun _ k => XS.iloadN X0.here hx rfl (hb hby at_1) rfl k) ?_
  refine own_go (G := s₁.setTop (mkF m 4 #[.val (.int p0), .val (.int p1), .unset, .unset, .unset, .unset, .unset, .unset, .unset, .unset, .unset, .unset, .unset, .unset] [(.int (2147483647 : Int32)), (.int p0), (.int (2 : Int32))])) (X0.ldcInt hx hown (mvT hZ (hw _ (List.mem_of_getElem? (i := 0) rfl))) (g := (mkF m 2 #[.val (.int p0), .val (.int p1), .unset, .unset, .unset, .unset, .unset, .unset, .unset, .unset, .unset, .unset, .unset, .unset] [(.int p0), (.int (2 : Int32))])) rfl (hb hby at_2)) ?_
  refine own_go (G := s₁.setTop (mkF m 5 #[.val (.int p0), .val (.int p1), .unset, .unset, .unset, .unset, .unset, .unset, .unset, .unset, .unset, .unset, .unset, .unset] [(.int (p0 &&& (2147483647 : Int32))), (.int (2 : Int32))])) (fun _ k => XS.iand X0.here hx rfl (hb hby at_4) rfl k) ?_
  refine own_go (G := s₁.setTop (mkF m 8 #[.val (.int p0), .val (.int p1), .unset, .unset, .unset, .unset, .unset, .unset, .unset, .unset, .unset, .unset, .unset, .unset] [(.int (1023 : Int32)), (.int (p0 &&& (2147483647 : Int32))), (.int (2 : Int32))])) (fun _ k => XS.sipush X0.here hx rfl (hb hby at_5) k) ?_
  refine own_go (G := s₁.setTop (mkF m 9 #[.val (.int p0), .val (.int p1), .unset, .unset, .unset, .unset, .unset, .unset, .unset, .unset, .unset, .unset, .unset, .unset] [(.int ((p0 &&& (2147483647 : Int32)) % (1023 : Int32))), (.int (2 : Int32))])) (fun _ k => iremM X0 hx rfl (hb hby at_8) rfl (by decide) k) ?_
  refine own_go (G := s₁.setTop (mkF m 10 #[.val (.int p0), .val (.int p1), .unset, .unset, .unset, .unset, .unset, .unset, .unset, .unset, .unset, .unset, .unset, .unset] [(.int ((2 : Int32) + ((p0 &&& (2147483647 : Int32)) % (1023 : Int32))))])) (fun _ k => XS.iadd X0.here hx rfl (hb hby at_9) rfl k) ?_
  generalize hv1 : ((2 : Int32) + ((p0 &&& (2147483647 : Int32)) % (1023 : Int32))) = v1
  refine own_go (G := s₁.setTop (mkF m 11 #[.val (.int p0), .val (.int p1), .val (.int v1), .unset, .unset, .unset, .unset, .unset, .unset, .unset, .unset, .unset, .unset, .unset] [])) (fun _ k => XS.istoreN X0.here hx rfl (hb hby at_10) rfl (l' := #[.val (.int p0), .val (.int p1), .val (.int v1), .unset, .unset, .unset, .unset, .unset, .unset, .unset, .unset, .unset, .unset, .unset]) rfl k) ?_
  refine own_go (G := s₁.setTop (mkF m 12 #[.val (.int p0), .val (.int p1), .val (.int v1), .unset, .unset, .unset, .unset, .unset, .unset, .unset, .unset, .unset, .unset, .unset] [(.int p1)])) (fun _ k => XS.iloadN X0.here hx rfl (hb hby at_11) rfl k) ?_
  refine own_go (G := s₁.setTop (mkF m 14 #[.val (.int p0), .val (.int p1), .val (.int v1), .unset, .unset, .unset, .unset, .unset, .unset, .unset, .unset, .unset, .unset, .unset] [(.int (2147483647 : Int32)), (.int p1)])) (X0.ldcInt hx hown (mvT hZ (hw _ (List.mem_of_getElem? (i := 0) rfl))) (g := (mkF m 12 #[.val (.int p0), .val (.int p1), .val (.int v1), .unset, .unset, .unset, .unset, .unset, .unset, .unset, .unset, .unset, .unset, .unset] [(.int p1)])) rfl (hb hby at_12)) ?_
  refine own_go (G := s₁.setTop (mkF m 15 #[.val (.int p0), .val (.int p1), .val (.int v1), .unset, .unset, .unset, .unset, .unset, .unset, .unset, .unset, .unset, .unset, .unset] [(.int (p1 &&& (2147483647 : Int32)))])) (fun _ k => XS.iand X0.here hx rfl (hb hby at_14) rfl k) ?_
  refine own_go (G := s₁.setTop (mkF m 16 #[.val (.int p0), .val (.int p1), .val (.int v1), .unset, .unset, .unset, .unset, .unset, .unset, .unset, .unset, .unset, .unset, .unset] [(.int v1), (.int (p1 &&& (2147483647 : Int32)))])) (fun _ k => XS.iloadN X0.here hx rfl (hb hby at_15) rfl k) ?_
  refine own_go (G := s₁.setTop (mkF m 17 #[.val (.int p0), .val (.int p1), .val (.int v1), .unset, .unset, .unset, .unset, .unset, .unset, .unset, .unset, .unset, .unset, .unset] [(.int (1 : Int32)), (.int v1), (.int (p1 &&& (2147483647 : Int32)))])) (fun _ k => XS.iconst X0.here hx rfl (hb hby at_16) k) ?_
  refine own_go (G := s₁.setTop (mkF m 18 #[.val (.int p0), .val (.int p1), .val (.int v1), .unset, .unset, .unset, .unset, .unset, .unset, .unset, .unset, .unset, .unset, .unset] [(.int (v1 - (1 : Int32))), (.int (p1 &&& (2147483647 : Int32)))])) (fun _ k => XS.isub X0.here hx rfl (hb hby at_17) rfl k) ?_
  refine own_go (G := s₁.setTop (mkF m 19 #[.val (.int p0), .val (.int p1), .val (.int v1), .unset, .unset, .unset, .unset, .unset, .unset, .unset, .unset, .unset, .unset, .unset] [(.int ((p1 &&& (2147483647 : Int32)) % (v1 - (1 : Int32))))])) (fun _ k => iremM X0 hx rfl (hb hby at_18) rfl (own_nz1 hv1) k) ?_
  generalize hv2 : ((p1 &&& (2147483647 : Int32)) % (v1 - (1 : Int32))) = v2
  refine own_go (G := s₁.setTop (mkF m 20 #[.val (.int p0), .val (.int p1), .val (.int v1), .val (.int v2), .unset, .unset, .unset, .unset, .unset, .unset, .unset, .unset, .unset, .unset] [])) (fun _ k => XS.istoreN X0.here hx rfl (hb hby at_19) rfl (l' := #[.val (.int p0), .val (.int p1), .val (.int v1), .val (.int v2), .unset, .unset, .unset, .unset, .unset, .unset, .unset, .unset, .unset, .unset]) rfl k) ?_
  refine own_go (G := s₁.setTop (mkF m 21 #[.val (.int p0), .val (.int p1), .val (.int v1), .val (.int v2), .unset, .unset, .unset, .unset, .unset, .unset, .unset, .unset, .unset, .unset] [(.int v1)])) (fun _ k => XS.iloadN X0.here hx rfl (hb hby at_20) rfl k) ?_
  refine own_go (G := s₁.setTop (mkF m 22 #[.val (.int p0), .val (.int p1), .val (.int v1), .val (.int v2), .unset, .unset, .unset, .unset, .unset, .unset, .unset, .unset, .unset, .unset] [(.int v2), (.int v1)])) (fun _ k => XS.iloadN X0.here hx rfl (hb hby at_21) rfl k) ?_
  refine own_go (G := s₁.setTop (mkF m 23 #[.val (.int p0), .val (.int p1), .val (.int v1), .val (.int v2), .unset, .unset, .unset, .unset, .unset, .unset, .unset, .unset, .unset, .unset] [(.int (v1 - v2))])) (fun _ k => XS.isub X0.here hx rfl (hb hby at_22) rfl k) ?_
  generalize hv3 : (v1 - v2) = v3
  refine own_go (G := s₁.setTop (mkF m 25 #[.val (.int p0), .val (.int p1), .val (.int v1), .val (.int v2), .val (.int v3), .unset, .unset, .unset, .unset, .unset, .unset, .unset, .unset, .unset] [])) (fun _ k => XS.istore X0.here hx rfl (hb hby at_23) rfl (l' := #[.val (.int p0), .val (.int p1), .val (.int v1), .val (.int v2), .val (.int v3), .unset, .unset, .unset, .unset, .unset, .unset, .unset, .unset, .unset]) rfl k) ?_
  obtain ⟨T4, h4, X4, e4, E4, A4, D4, -, st4⟩ := newO X0 hx hZ hown (hw _ (List.mem_of_getElem? (i := 1) rfl)) (hw _ (List.mem_of_getElem? (i := 2) rfl)) (hw _ (List.mem_of_getElem? (i := 3) rfl)) e0 (g := (mkF m 25 #[.val (.int p0), .val (.int p1), .val (.int v1), .val (.int v2), .val (.int v3), .unset, .unset, .unset, .unset, .unset, .unset, .unset, .unset, .unset] [])) rfl (hb hby at_25) (by decide) (by decide)
  obtain ⟨b4, g4⟩ : ∃ z, z = h0.size := ⟨_, rfl⟩
  rw [← g4] at A4 D4 st4
  have gn_b4 : n0 ≤ b4 := Nat.le_trans Z0 (Nat.le_of_eq g4.symm)
  have Z4 : n0 ≤ h4.size := Nat.le_trans Z0 E4.1
  have F_n_b4 : Fld Z h4 b4 "com/example/assentor/assentor/core/SystemSize" "n" "I" (.int (0 : Int32)) := D4 (Or.inr (hw _ (List.mem_of_getElem? (i := 16) rfl))) (ty := .int) (by decide)
  have F_f_b4 : Fld Z h4 b4 "com/example/assentor/assentor/core/SystemSize" "f" "I" (.int (0 : Int32)) := D4 (Or.inr (hw _ (List.mem_of_getElem? (i := 18) rfl))) (ty := .int) (by decide)
  refine own_go (G := T4.setTop (mkF m 28 #[.val (.int p0), .val (.int p1), .val (.int v1), .val (.int v2), .val (.int v3), .unset, .unset, .unset, .unset, .unset, .unset, .unset, .unset, .unset] [(.ref b4)])) (st4) ?_
  refine own_go (G := T4.setTop (mkF m 29 #[.val (.int p0), .val (.int p1), .val (.int v1), .val (.int v2), .val (.int v3), .unset, .unset, .unset, .unset, .unset, .unset, .unset, .unset, .unset] [(.ref b4), (.ref b4)])) (fun _ k => XS.dup X4.here hx rfl (hb hby at_28) rfl rfl k) ?_
  refine own_go (G := T4.setTop (mkF m 30 #[.val (.int p0), .val (.int p1), .val (.int v1), .val (.int v2), .val (.int v3), .unset, .unset, .unset, .unset, .unset, .unset, .unset, .unset, .unset] [(.int v1), (.ref b4), (.ref b4)])) (fun _ k => XS.iloadN X4.here hx rfl (hb hby at_29) rfl k) ?_
  refine own_go (G := T4.setTop (mkF m 31 #[.val (.int p0), .val (.int p1), .val (.int v1), .val (.int v2), .val (.int v3), .unset, .unset, .unset, .unset, .unset, .unset, .unset, .unset, .unset] [(.int v2), (.int v1), (.ref b4), (.ref b4)])) (fun _ k => XS.iloadN X4.here hx rfl (hb hby at_30) rfl k) ?_
  obtain ⟨_, _, ⟨T5, L5, k5, n5⟩, -, X5, ⟨Lc5, hQ5, l5, y5, z5⟩, st5⟩ := X4.specialBack hx (y := (⟨"com/example/assentor/assentor/core/SystemSize", "<init>", "(II)V"⟩ : MethodName)) rfl hown (mvT hZ (hw _ (List.mem_of_getElem? (i := 4) rfl))) (mvT hZ (hw _ (List.mem_of_getElem? (i := 5) rfl))) (mvT hZ (hw _ (List.mem_of_getElem? (i := 6) rfl))) (by decide) (backOf (W := 1) (rm1 l Z a0 hw [] b4 v1 v2 h4 n0 Z4 F_n_b4 F_f_b4 A4 gn_b4 (own_p1 hv1) (own_p2 hv1) (own_p3 hv1 hv2) (own_p4 hv1 hv2)) hZ (hw _ (List.mem_of_getElem? (i := 6) rfl)) (hw _ (List.mem_of_getElem? (i := 3) rfl)) (by decide) (by decide)) (g := (mkF m 31 #[.val (.int p0), .val (.int p1), .val (.int v1), .val (.int v2), .val (.int v3), .unset, .unset, .unset, .unset, .unset, .unset, .unset, .unset, .unset] [(.int v2), (.int v1), (.ref b4), (.ref b4)])) rfl (by rw [hml]; rfl) (Steps.refl _) (a := b4) (argsL := [(.int v1), (.int v2)]) (rest := [(.ref b4)]) (lenOf pd2 rfl) rfl (by show 2 * 0 + _ ≤ _; exact Nat.le_of_eq rfl) (hb hby at_31) (fun _ _ => ⟨rfl, e4, (by decide : 1 + 0 ≤ _), (by decide : 2 + 0 ≤ _)⟩)
  dsimp only [Pt.U, Pt.locs, Pt.cells, Pt.slots] at X5 l5 y5 z5 st5 hQ5
  subst l5 y5 z5
  obtain ⟨rfl, Nq5, Kq5, Eq5, Fq5_n, Fq5_f⟩ := hQ5
  have N5 := Fr.app N0 Nq5
  have Z5 : n0 ≤ T5.heap.size := Nat.le_trans Z4 Kq5.1
  refine own_go (G := T5.setTop (mkF m 34 #[.val (.int p0), .val (.int p1), .val (.int v1), .val (.int v2), .val (.int v3), .unset, .unset, .unset, .unset, .unset, .unset, .unset, .unset, .unset] [(.ref b4)])) (fun _ k => st5.trans k) ?_
  obtain ⟨_, _, ⟨T6, L6, k6, n6⟩, -, X6, ⟨Lc6, hQ6, l6, y6, z6⟩, st6⟩ := Jvm.LawKit.callS X5 hx (y := (⟨"com/example/assentor/assentor/protocols/TrustGraph", "diameterBound", "(Lcom/example/assentor/assentor/core/SystemSize;)I"⟩ : MethodName)) hown (mvT hZ (hw _ (List.mem_of_getElem? (i := 19) rfl))) (mvT hZ (hw _ (List.mem_of_getElem? (i := 20) rfl))) (mvT hZ (hw _ (List.mem_of_getElem? (i := 21) rfl))) (mvT hZ (hw _ (List.mem_of_getElem? (i := 22) rfl))) (by decide) (backOf (W := 0) (rm4 l Z a0 hw [] b4 v1 v2 T5.heap n0 Z5 Fq5_n Fq5_f Eq5 (own_nz hv1 hv2)) hZ (hw _ (List.mem_of_getElem? (i := 22) rfl)) (hw _ (List.mem_of_getElem? (i := 21) rfl)) (by decide) (by decide)) (g := (mkF m 34 #[.val (.int p0), .val (.int p1), .val (.int v1), .val (.int v2), .val (.int v3), .unset, .unset, .unset, .unset, .unset, .unset, .unset, .unset, .unset] [(.ref b4)])) rfl (by rw [hml]; rfl) (argsL := [(.ref b4)]) (rest := []) (lenOf pd3 rfl) rfl (by show 2 * 0 + _ ≤ _; exact Nat.le_of_eq rfl) (hb hby at_34) (fun _ _ => ⟨rfl, rfl, (by decide : 1 + 0 ≤ _), (by decide : 2 + 0 ≤ _)⟩)
  dsimp only [Pt.U, Pt.locs, Pt.cells, Pt.slots] at X6 l6 y6 z6 st6 hQ6
  subst l6 y6 z6
  obtain ⟨rfl, Nq6, e6⟩ := hQ6
  have N6 := Fr.app N5 Nq6
  refine own_go (G := T6.setTop (mkF m 37 #[.val (.int p0), .val (.int p1), .val (.int v1), .val (.int v2), .val (.int v3), .unset, .unset, .unset, .unset, .unset, .unset, .unset, .unset, .unset] [(.int (F4 b4 v1 v2))])) (st6) ?_
  generalize hv7 : (F4 b4 v1 v2) = v7
  refine own_go (G := T6.setTop (mkF m 39 #[.val (.int p0), .val (.int p1), .val (.int v1), .val (.int v2), .val (.int v3), .val (.int v7), .unset, .unset, .unset, .unset, .unset, .unset, .unset, .unset] [])) (fun _ k => XS.istore X6.here hx rfl (hb hby at_37) rfl (l' := #[.val (.int p0), .val (.int p1), .val (.int v1), .val (.int v2), .val (.int v3), .val (.int v7), .unset, .unset, .unset, .unset, .unset, .unset, .unset, .unset]) rfl k) ?_
  refine own_go (G := T6.setTop (mkF m 40 #[.val (.int p0), .val (.int p1), .val (.int v1), .val (.int v2), .val (.int v3), .val (.int v7), .unset, .unset, .unset, .unset, .unset, .unset, .unset, .unset] [(.int v1)])) (fun _ k => XS.iloadN X6.here hx rfl (hb hby at_39) rfl k) ?_
  refine own_go (G := T6.setTop (mkF m 41 #[.val (.int p0), .val (.int p1), .val (.int v1), .val (.int v2), .val (.int v3), .val (.int v7), .unset, .unset, .unset, .unset, .unset, .unset, .unset, .unset] [(.long (v1.toInt64))])) (fun _ k => XS.i2l X6.here hx rfl (hb hby at_40) rfl k) ?_
  generalize hv8 : (v1.toInt64) = v8
  refine own_go (G := T6.setTop (mkF m 43 #[.val (.int p0), .val (.int p1), .val (.int v1), .val (.int v2), .val (.int v3), .val (.int v7), .val (.long v8), .second, .unset, .unset, .unset, .unset, .unset, .unset] [])) (fun _ k => XS.lstore X6.here hx rfl (hb hby at_41) rfl (l' := #[.val (.int p0), .val (.int p1), .val (.int v1), .val (.int v2), .val (.int v3), .val (.int v7), .val (.long v8), .second, .unset, .unset, .unset, .unset, .unset, .unset]) rfl k) ?_
  refine own_go (G := T6.setTop (mkF m 45 #[.val (.int p0), .val (.int p1), .val (.int v1), .val (.int v2), .val (.int v3), .val (.int v7), .val (.long v8), .second, .unset, .unset, .unset, .unset, .unset, .unset] [(.int v3)])) (fun _ k => XS.iload X6.here hx rfl (hb hby at_43) rfl k) ?_
  refine own_go (G := T6.setTop (mkF m 46 #[.val (.int p0), .val (.int p1), .val (.int v1), .val (.int v2), .val (.int v3), .val (.int v7), .val (.long v8), .second, .unset, .unset, .unset, .unset, .unset, .unset] [(.long (v3.toInt64))])) (fun _ k => XS.i2l X6.here hx rfl (hb hby at_45) rfl k) ?_
  generalize hv9 : (v3.toInt64) = v9
  refine own_go (G := T6.setTop (mkF m 48 #[.val (.int p0), .val (.int p1), .val (.int v1), .val (.int v2), .val (.int v3), .val (.int v7), .val (.long v8), .second, .val (.long v9), .second, .unset, .unset, .unset, .unset] [])) (fun _ k => XS.lstore X6.here hx rfl (hb hby at_46) rfl (l' := #[.val (.int p0), .val (.int p1), .val (.int v1), .val (.int v2), .val (.int v3), .val (.int v7), .val (.long v8), .second, .val (.long v9), .second, .unset, .unset, .unset, .unset]) rfl k) ?_
  refine own_go (G := T6.setTop (mkF m 50 #[.val (.int p0), .val (.int p1), .val (.int v1), .val (.int v2), .val (.int v3), .val (.int v7), .val (.long v8), .second, .val (.long v9), .second, .unset, .unset, .unset, .unset] [(.int v7)])) (fun _ k => XS.iload X6.here hx rfl (hb hby at_48) rfl k) ?_
  refine own_go (G := T6.setTop (mkF m 51 #[.val (.int p0), .val (.int p1), .val (.int v1), .val (.int v2), .val (.int v3), .val (.int v7), .val (.long v8), .second, .val (.long v9), .second, .unset, .unset, .unset, .unset] [(.long (v7.toInt64))])) (fun _ k => XS.i2l X6.here hx rfl (hb hby at_50) rfl k) ?_
  refine own_go (G := T6.setTop (mkF m 52 #[.val (.int p0), .val (.int p1), .val (.int v1), .val (.int v2), .val (.int v3), .val (.int v7), .val (.long v8), .second, .val (.long v9), .second, .unset, .unset, .unset, .unset] [(.long (1 : Int64)), (.long (v7.toInt64))])) (fun _ k => XS.lconst X6.here hx rfl (hb hby at_51) k) ?_
  refine own_go (G := T6.setTop (mkF m 53 #[.val (.int p0), .val (.int p1), .val (.int v1), .val (.int v2), .val (.int v3), .val (.int v7), .val (.long v8), .second, .val (.long v9), .second, .unset, .unset, .unset, .unset] [(.long ((v7.toInt64) + (1 : Int64)))])) (fun _ k => XS.ladd X6.here hx rfl (hb hby at_52) rfl k) ?_
  generalize hv10 : ((v7.toInt64) + (1 : Int64)) = v10
  refine own_go (G := T6.setTop (mkF m 55 #[.val (.int p0), .val (.int p1), .val (.int v1), .val (.int v2), .val (.int v3), .val (.int v7), .val (.long v8), .second, .val (.long v9), .second, .val (.long v10), .second, .unset, .unset] [])) (fun _ k => XS.lstore X6.here hx rfl (hb hby at_53) rfl (l' := #[.val (.int p0), .val (.int p1), .val (.int v1), .val (.int v2), .val (.int v3), .val (.int v7), .val (.long v8), .second, .val (.long v9), .second, .val (.long v10), .second, .unset, .unset]) rfl k) ?_
  refine own_go (G := T6.setTop (mkF m 57 #[.val (.int p0), .val (.int p1), .val (.int v1), .val (.int v2), .val (.int v3), .val (.int v7), .val (.long v8), .second, .val (.long v9), .second, .val (.long v10), .second, .unset, .unset] [(.long v10)])) (fun _ k => XS.lload X6.here hx rfl (hb hby at_55) rfl k) ?_
  refine own_go (G := T6.setTop (mkF m 60 #[.val (.int p0), .val (.int p1), .val (.int v1), .val (.int v2), .val (.int v3), .val (.int v7), .val (.long v8), .second, .val (.long v9), .second, .val (.long v10), .second, .unset, .unset] [(.long (2 : Int64)), (.long v10)])) (X6.ldc2Long hx hown (mvT hZ (hw _ (List.mem_of_getElem? (i := 33) rfl))) (g := (mkF m 57 #[.val (.int p0), .val (.int p1), .val (.int v1), .val (.int v2), .val (.int v3), .val (.int v7), .val (.long v8), .second, .val (.long v9), .second, .val (.long v10), .second, .unset, .unset] [(.long v10)])) rfl (hb hby at_57)) ?_
  refine own_go (G := T6.setTop (mkF m 61 #[.val (.int p0), .val (.int p1), .val (.int v1), .val (.int v2), .val (.int v3), .val (.int v7), .val (.long v8), .second, .val (.long v9), .second, .val (.long v10), .second, .unset, .unset] [(.long (v10 - (v10 / (2 : Int64)) * (2 : Int64)))])) (fun _ k => XS.lrem X6.here hx rfl (hb hby at_60) rfl (by decide) k) ?_
  refine own_go (G := T6.setTop (mkF m 62 #[.val (.int p0), .val (.int p1), .val (.int v1), .val (.int v2), .val (.int v3), .val (.int v7), .val (.long v8), .second, .val (.long v9), .second, .val (.long v10), .second, .unset, .unset] [(.long (0 : Int64)), (.long (v10 - (v10 / (2 : Int64)) * (2 : Int64)))])) (fun _ k => XS.lconst X6.here hx rfl (hb hby at_61) k) ?_
  refine own_go (G := T6.setTop (mkF m 63 #[.val (.int p0), .val (.int p1), .val (.int v1), .val (.int v2), .val (.int v3), .val (.int v7), .val (.long v8), .second, .val (.long v9), .second, .val (.long v10), .second, .unset, .unset] [(.int (lcmpW (v10 - (v10 / (2 : Int64)) * (2 : Int64)) (0 : Int64)))])) (fun _ k => XS.lcmp X6.here hx rfl (hb hby at_62) rfl k) ?_
  by_cases hc63 : (lcmpW (v10 - (v10 / (2 : Int64)) * (2 : Int64)) (0 : Int64)) = (0 : Int32)
  · skip
    refine own_go (G := T6.setTop (mkF m 66 #[.val (.int p0), .val (.int p1), .val (.int v1), .val (.int v2), .val (.int v3), .val (.int v7), .val (.long v8), .second, .val (.long v9), .second, .val (.long v10), .second, .unset, .unset] [])) (fun _ k => XS.ifNo X6.here hx rfl (hb hby at_63) rfl ((if0 _ _).trans (teq hc63).2) k) ?_
    refine own_go (G := T6.setTop (mkF m 68 #[.val (.int p0), .val (.int p1), .val (.int v1), .val (.int v2), .val (.int v3), .val (.int v7), .val (.long v8), .second, .val (.long v9), .second, .val (.long v10), .second, .unset, .unset] [(.long v10)])) (fun _ k => XS.lload X6.here hx rfl (hb hby at_66) rfl k) ?_
    refine own_go (G := T6.setTop (mkF m 71 #[.val (.int p0), .val (.int p1), .val (.int v1), .val (.int v2), .val (.int v3), .val (.int v7), .val (.long v8), .second, .val (.long v9), .second, .val (.long v10), .second, .unset, .unset] [(.long (2 : Int64)), (.long v10)])) (X6.ldc2Long hx hown (mvT hZ (hw _ (List.mem_of_getElem? (i := 33) rfl))) (g := (mkF m 68 #[.val (.int p0), .val (.int p1), .val (.int v1), .val (.int v2), .val (.int v3), .val (.int v7), .val (.long v8), .second, .val (.long v9), .second, .val (.long v10), .second, .unset, .unset] [(.long v10)])) rfl (hb hby at_68)) ?_
    refine own_go (G := T6.setTop (mkF m 72 #[.val (.int p0), .val (.int p1), .val (.int v1), .val (.int v2), .val (.int v3), .val (.int v7), .val (.long v8), .second, .val (.long v9), .second, .val (.long v10), .second, .unset, .unset] [(.long (v10 / (2 : Int64)))])) (fun _ k => XS.ldiv X6.here hx rfl (hb hby at_71) rfl (by decide) k) ?_
    generalize hv11 : (v10 / (2 : Int64)) = v11
    refine own_go (G := T6.setTop (mkF m 74 #[.val (.int p0), .val (.int p1), .val (.int v1), .val (.int v2), .val (.int v3), .val (.int v7), .val (.long v8), .second, .val (.long v9), .second, .val (.long v10), .second, .val (.long v11), .second] [])) (fun _ k => XS.lstore X6.here hx rfl (hb hby at_72) rfl (l' := #[.val (.int p0), .val (.int p1), .val (.int v1), .val (.int v2), .val (.int v3), .val (.int v7), .val (.long v8), .second, .val (.long v9), .second, .val (.long v10), .second, .val (.long v11), .second]) rfl k) ?_
    refine own_go (G := T6.setTop (mkF m 76 #[.val (.int p0), .val (.int p1), .val (.int v1), .val (.int v2), .val (.int v3), .val (.int v7), .val (.long v8), .second, .val (.long v9), .second, .val (.long v10), .second, .val (.long v11), .second] [(.long v11)])) (fun _ k => XS.lload X6.here hx rfl (hb hby at_74) rfl k) ?_
    refine own_go (G := T6.setTop (mkF m 78 #[.val (.int p0), .val (.int p1), .val (.int v1), .val (.int v2), .val (.int v3), .val (.int v7), .val (.long v8), .second, .val (.long v9), .second, .val (.long v10), .second, .val (.long v11), .second] [(.long v9), (.long v11)])) (fun _ k => XS.lload X6.here hx rfl (hb hby at_76) rfl k) ?_
    refine own_go (G := T6.setTop (mkF m 79 #[.val (.int p0), .val (.int p1), .val (.int v1), .val (.int v2), .val (.int v3), .val (.int v7), .val (.long v8), .second, .val (.long v9), .second, .val (.long v10), .second, .val (.long v11), .second] [(.long (v11 * v9))])) (fun _ k => XS.lmul X6.here hx rfl (hb hby at_78) rfl k) ?_
    refine own_go (G := T6.setTop (mkF m 81 #[.val (.int p0), .val (.int p1), .val (.int v1), .val (.int v2), .val (.int v3), .val (.int v7), .val (.long v8), .second, .val (.long v9), .second, .val (.long v10), .second, .val (.long v11), .second] [(.long v8), (.long (v11 * v9))])) (fun _ k => XS.lload X6.here hx rfl (hb hby at_79) rfl k) ?_
    refine own_go (G := T6.setTop (mkF m 82 #[.val (.int p0), .val (.int p1), .val (.int v1), .val (.int v2), .val (.int v3), .val (.int v7), .val (.long v8), .second, .val (.long v9), .second, .val (.long v10), .second, .val (.long v11), .second] [(.int (lcmpW (v11 * v9) v8))])) (fun _ k => XS.lcmp X6.here hx rfl (hb hby at_81) rfl k) ?_
    refine own_go (G := T6.setTop (mkF m 85 #[.val (.int p0), .val (.int p1), .val (.int v1), .val (.int v2), .val (.int v3), .val (.int v7), .val (.long v8), .second, .val (.long v9), .second, .val (.long v10), .second, .val (.long v11), .second] [])) (fun _ k => XS.ifNo X6.here hx rfl (hb hby at_82) rfl ((if0 _ _).trans (teq (own_even _ hv1 hv2 hv3 hv7 hv10 hv8 hv9 hv11 hc63 : (lcmpW (v11 * v9) v8) = (0 : Int32))).2) k) ?_
    refine own_go (G := T6.setTop (mkF m 86 #[.val (.int p0), .val (.int p1), .val (.int v1), .val (.int v2), .val (.int v3), .val (.int v7), .val (.long v8), .second, .val (.long v9), .second, .val (.long v10), .second, .val (.long v11), .second] [(.int (1 : Int32))])) (fun _ k => XS.iconst X6.here hx rfl (hb hby at_85) k) ?_
    refine own_go (G := T6.setTop (mkF m 90 #[.val (.int p0), .val (.int p1), .val (.int v1), .val (.int v2), .val (.int v3), .val (.int v7), .val (.long v8), .second, .val (.long v9), .second, .val (.long v10), .second, .val (.long v11), .second] [(.int (1 : Int32))])) (fun _ k => XS.goto X6.here hx rfl (pc0 := 86) (pc' := 90) rfl (hb hby at_86) (by decide) (by decide) k) ?_
    exact own_ret1 X6 hx Bd.returns (hb hby at_90) Bd.notSynchronized (by decide) (by decide) ⟨rfl, N6⟩
  · skip
    refine own_go (G := T6.setTop (mkF m 91 #[.val (.int p0), .val (.int p1), .val (.int v1), .val (.int v2), .val (.int v3), .val (.int v7), .val (.long v8), .second, .val (.long v9), .second, .val (.long v10), .second, .unset, .unset] [])) (fun _ k => XS.ifYes X6.here hx rfl (pc0 := 63) (pc' := 91) rfl (hb hby at_63) rfl ((if0 _ _).trans (feq hc63).2) (by decide) (by decide) k) ?_
    refine own_go (G := T6.setTop (mkF m 93 #[.val (.int p0), .val (.int p1), .val (.int v1), .val (.int v2), .val (.int v3), .val (.int v7), .val (.long v8), .second, .val (.long v9), .second, .val (.long v10), .second, .unset, .unset] [(.long v10)])) (fun _ k => XS.lload X6.here hx rfl (hb hby at_91) rfl k) ?_
    refine own_go (G := T6.setTop (mkF m 94 #[.val (.int p0), .val (.int p1), .val (.int v1), .val (.int v2), .val (.int v3), .val (.int v7), .val (.long v8), .second, .val (.long v9), .second, .val (.long v10), .second, .unset, .unset] [(.long (1 : Int64)), (.long v10)])) (fun _ k => XS.lconst X6.here hx rfl (hb hby at_93) k) ?_
    refine own_go (G := T6.setTop (mkF m 95 #[.val (.int p0), .val (.int p1), .val (.int v1), .val (.int v2), .val (.int v3), .val (.int v7), .val (.long v8), .second, .val (.long v9), .second, .val (.long v10), .second, .unset, .unset] [(.long (v10 - (1 : Int64)))])) (fun _ k => XS.lsub X6.here hx rfl (hb hby at_94) rfl k) ?_
    refine own_go (G := T6.setTop (mkF m 98 #[.val (.int p0), .val (.int p1), .val (.int v1), .val (.int v2), .val (.int v3), .val (.int v7), .val (.long v8), .second, .val (.long v9), .second, .val (.long v10), .second, .unset, .unset] [(.long (2 : Int64)), (.long (v10 - (1 : Int64)))])) (X6.ldc2Long hx hown (mvT hZ (hw _ (List.mem_of_getElem? (i := 33) rfl))) (g := (mkF m 95 #[.val (.int p0), .val (.int p1), .val (.int v1), .val (.int v2), .val (.int v3), .val (.int v7), .val (.long v8), .second, .val (.long v9), .second, .val (.long v10), .second, .unset, .unset] [(.long (v10 - (1 : Int64)))])) rfl (hb hby at_95)) ?_
    refine own_go (G := T6.setTop (mkF m 99 #[.val (.int p0), .val (.int p1), .val (.int v1), .val (.int v2), .val (.int v3), .val (.int v7), .val (.long v8), .second, .val (.long v9), .second, .val (.long v10), .second, .unset, .unset] [(.long ((v10 - (1 : Int64)) / (2 : Int64)))])) (fun _ k => XS.ldiv X6.here hx rfl (hb hby at_98) rfl (by decide) k) ?_
    generalize hv12 : ((v10 - (1 : Int64)) / (2 : Int64)) = v12
    refine own_go (G := T6.setTop (mkF m 101 #[.val (.int p0), .val (.int p1), .val (.int v1), .val (.int v2), .val (.int v3), .val (.int v7), .val (.long v8), .second, .val (.long v9), .second, .val (.long v10), .second, .val (.long v12), .second] [])) (fun _ k => XS.lstore X6.here hx rfl (hb hby at_99) rfl (l' := #[.val (.int p0), .val (.int p1), .val (.int v1), .val (.int v2), .val (.int v3), .val (.int v7), .val (.long v8), .second, .val (.long v9), .second, .val (.long v10), .second, .val (.long v12), .second]) rfl k) ?_
    refine own_go (G := T6.setTop (mkF m 103 #[.val (.int p0), .val (.int p1), .val (.int v1), .val (.int v2), .val (.int v3), .val (.int v7), .val (.long v8), .second, .val (.long v9), .second, .val (.long v10), .second, .val (.long v12), .second] [(.long v12)])) (fun _ k => XS.lload X6.here hx rfl (hb hby at_101) rfl k) ?_
    refine own_go (G := T6.setTop (mkF m 105 #[.val (.int p0), .val (.int p1), .val (.int v1), .val (.int v2), .val (.int v3), .val (.int v7), .val (.long v8), .second, .val (.long v9), .second, .val (.long v10), .second, .val (.long v12), .second] [(.long v9), (.long v12)])) (fun _ k => XS.lload X6.here hx rfl (hb hby at_103) rfl k) ?_
    refine own_go (G := T6.setTop (mkF m 106 #[.val (.int p0), .val (.int p1), .val (.int v1), .val (.int v2), .val (.int v3), .val (.int v7), .val (.long v8), .second, .val (.long v9), .second, .val (.long v10), .second, .val (.long v12), .second] [(.long (v12 * v9))])) (fun _ k => XS.lmul X6.here hx rfl (hb hby at_105) rfl k) ?_
    refine own_go (G := T6.setTop (mkF m 108 #[.val (.int p0), .val (.int p1), .val (.int v1), .val (.int v2), .val (.int v3), .val (.int v7), .val (.long v8), .second, .val (.long v9), .second, .val (.long v10), .second, .val (.long v12), .second] [(.long v8), (.long (v12 * v9))])) (fun _ k => XS.lload X6.here hx rfl (hb hby at_106) rfl k) ?_
    refine own_go (G := T6.setTop (mkF m 109 #[.val (.int p0), .val (.int p1), .val (.int v1), .val (.int v2), .val (.int v3), .val (.int v7), .val (.long v8), .second, .val (.long v9), .second, .val (.long v10), .second, .val (.long v12), .second] [(.int (lcmpW (v12 * v9) v8))])) (fun _ k => XS.lcmp X6.here hx rfl (hb hby at_108) rfl k) ?_
    refine own_go (G := T6.setTop (mkF m 112 #[.val (.int p0), .val (.int p1), .val (.int v1), .val (.int v2), .val (.int v3), .val (.int v7), .val (.long v8), .second, .val (.long v9), .second, .val (.long v10), .second, .val (.long v12), .second] [])) (fun _ k => XS.ifNo X6.here hx rfl (hb hby at_109) rfl ((if0 _ _).trans (tlt ((own_odd _ hv1 hv2 hv3 hv7 hv10 hv8 hv9 hv12 hc63).1 : (lcmpW (v12 * v9) v8) < (0 : Int32))).2.1) k) ?_
    refine own_go (G := T6.setTop (mkF m 114 #[.val (.int p0), .val (.int p1), .val (.int v1), .val (.int v2), .val (.int v3), .val (.int v7), .val (.long v8), .second, .val (.long v9), .second, .val (.long v10), .second, .val (.long v12), .second] [(.long v8)])) (fun _ k => XS.lload X6.here hx rfl (hb hby at_112) rfl k) ?_
    refine own_go (G := T6.setTop (mkF m 116 #[.val (.int p0), .val (.int p1), .val (.int v1), .val (.int v2), .val (.int v3), .val (.int v7), .val (.long v8), .second, .val (.long v9), .second, .val (.long v10), .second, .val (.long v12), .second] [(.long v12), (.long v8)])) (fun _ k => XS.lload X6.here hx rfl (hb hby at_114) rfl k) ?_
    refine own_go (G := T6.setTop (mkF m 117 #[.val (.int p0), .val (.int p1), .val (.int v1), .val (.int v2), .val (.int v3), .val (.int v7), .val (.long v8), .second, .val (.long v9), .second, .val (.long v10), .second, .val (.long v12), .second] [(.long (1 : Int64)), (.long v12), (.long v8)])) (fun _ k => XS.lconst X6.here hx rfl (hb hby at_116) k) ?_
    refine own_go (G := T6.setTop (mkF m 118 #[.val (.int p0), .val (.int p1), .val (.int v1), .val (.int v2), .val (.int v3), .val (.int v7), .val (.long v8), .second, .val (.long v9), .second, .val (.long v10), .second, .val (.long v12), .second] [(.long (v12 + (1 : Int64))), (.long v8)])) (fun _ k => XS.ladd X6.here hx rfl (hb hby at_117) rfl k) ?_
    refine own_go (G := T6.setTop (mkF m 120 #[.val (.int p0), .val (.int p1), .val (.int v1), .val (.int v2), .val (.int v3), .val (.int v7), .val (.long v8), .second, .val (.long v9), .second, .val (.long v10), .second, .val (.long v12), .second] [(.long v9), (.long (v12 + (1 : Int64))), (.long v8)])) (fun _ k => XS.lload X6.here hx rfl (hb hby at_118) rfl k) ?_
    refine own_go (G := T6.setTop (mkF m 121 #[.val (.int p0), .val (.int p1), .val (.int v1), .val (.int v2), .val (.int v3), .val (.int v7), .val (.long v8), .second, .val (.long v9), .second, .val (.long v10), .second, .val (.long v12), .second] [(.long ((v12 + (1 : Int64)) * v9)), (.long v8)])) (fun _ k => XS.lmul X6.here hx rfl (hb hby at_120) rfl k) ?_
    refine own_go (G := T6.setTop (mkF m 122 #[.val (.int p0), .val (.int p1), .val (.int v1), .val (.int v2), .val (.int v3), .val (.int v7), .val (.long v8), .second, .val (.long v9), .second, .val (.long v10), .second, .val (.long v12), .second] [(.int (lcmpW v8 ((v12 + (1 : Int64)) * v9)))])) (fun _ k => XS.lcmp X6.here hx rfl (hb hby at_121) rfl k) ?_
    refine own_go (G := T6.setTop (mkF m 125 #[.val (.int p0), .val (.int p1), .val (.int v1), .val (.int v2), .val (.int v3), .val (.int v7), .val (.long v8), .second, .val (.long v9), .second, .val (.long v10), .second, .val (.long v12), .second] [])) (fun _ k => XS.ifNo X6.here hx rfl (hb hby at_122) rfl ((if0 _ _).trans (tlt ((own_odd _ hv1 hv2 hv3 hv7 hv10 hv8 hv9 hv12 hc63).2 : (lcmpW v8 ((v12 + (1 : Int64)) * v9)) < (0 : Int32))).2.1) k) ?_
    refine own_go (G := T6.setTop (mkF m 126 #[.val (.int p0), .val (.int p1), .val (.int v1), .val (.int v2), .val (.int v3), .val (.int v7), .val (.long v8), .second, .val (.long v9), .second, .val (.long v10), .second, .val (.long v12), .second] [(.int (1 : Int32))])) (fun _ k => XS.iconst X6.here hx rfl (hb hby at_125) k) ?_
    refine own_go (G := T6.setTop (mkF m 130 #[.val (.int p0), .val (.int p1), .val (.int v1), .val (.int v2), .val (.int v3), .val (.int v7), .val (.long v8), .second, .val (.long v9), .second, .val (.long v10), .second, .val (.long v12), .second] [(.int (1 : Int32))])) (fun _ k => XS.goto X6.here hx rfl (pc0 := 126) (pc' := 130) rfl (hb hby at_126) (by decide) (by decide) k) ?_
    exact own_ret1 X6 hx Bd.returns (hb hby at_130) Bd.notSynchronized (by decide) (by decide) ⟨rfl, N6⟩
set_option maxRecDepth 65536 in
set_option maxHeartbeats 40000000 in
theorem comes_1 {Post : Tables → Env → Array Value → State → Outcome → State → Prop} (hpost : ∀ tb e args s v u, (limb_1_1.after args s (.returned v) u = true ∧ limb_1_2.after args s (.returned v) u = true ∧ True) → FrameEnd s (.returned v) u (Jvm.fieldLocs frame_1_writes args s ++ Jvm.arrayLocs frame_1_arrays args s ++ Jvm.staticLocs frame_1_statics s) 16 128 → Post tb e args s (.returned v) u) :
    ArmFor flags0 classFile x code maxLocals ret World_1 tables_1 room_1 Calls_1 rest_1 Pre_1 Post := by
  intro l hfl _ _ p e ha hc hk s m args below hf hA hF happ hP
  obtain ⟨hcalls, hrest, hpre⟩ := hP
  obtain ⟨-, -, -, hnamed, -, -, -, hat⟩ := (Spec.applies_iff hf).mp happ
  obtain ⟨hg, hn⟩ := and_e (Cond.before_iff.mp (show (Jvm.Cond.and given_1 narrow_1).before args s = true from hpre))
  obtain ⟨gc, g0⟩ := and_e hg
  obtain ⟨ga0, g1⟩ := and_e g0
  obtain ⟨w0, w1, rfl⟩ : ∃ w0 w1 : Value, args = #[w0, w1] := by
    have hs : args.size = 2 := by simpa [Cond.value, given_1] using gc
    obtain ⟨L⟩ := args
    match L, hs with
    | [w0, w1], _ => exact ⟨w0, w1, rfl⟩
  have hw := fun d (hd : d ∈ tables_1) => atoms_spec (ws := Jvm.Cond.code x code maxLocals ret :: tables_1) hat d (List.mem_cons_of_mem _ hd)
  obtain ⟨i0, ei0⟩ := is_v ga0
  obtain rfl : w0 = (.int i0) := Option.some.inj ei0
  obtain ⟨i1, ei1⟩ := is_v g1
  obtain rfl : w1 = (.int i1) := Option.some.inj ei1
  obtain ⟨n, o, h1, h2, h3, _, L, rfl, ⟨rfl, N⟩, hq⟩ := rm0 l s _ hw tables_1 i0 i1 s.heap s.heap.size (Nat.le_refl _) p e ha hc hk s m _ below hf ((Spec.applies_iff_loose hf).mp happ).1 ⟨rfl, State.Warmed39.refl s, rfl⟩ trivial
  refine ⟨n, _, h1, h2, h3, hpost _ _ _ _ _ _ ⟨Cond.after_iff.mpr rfl, Cond.after_iff.mpr (eq_i res_at (Term.int_eval (1)) rfl), trivial⟩ ⟨hq.1, hq.2.1, (hq.2.2.sift fun y hy => Or.inr (N y hy)).mono (by decide) (by decide)⟩⟩
theorem main_1_1 : Claimed_1_1 := comes_1 fun _ _ _ _ _ _ h hF => ⟨h.1, hF⟩
theorem main_1_2 : Claimed_1_2 := comes_1 fun _ _ _ _ _ _ h hF => ⟨h.2.1, hF⟩
end Jvm.Pilot.@@N@@
namespace Jvm.Pilot.@@N@@
open Jvm Jvm.ClassFile Sem Op Lib Jvm.Free Jvm.Stand Jvm.Pilot.@@N@@.Jvm.D
/-! MADE BY PROGRAM (witnessworld.py) out of the Statement's table words and the real class files: 11 classes; the members and pool entries that the words name. The judged class is class 1, her method 1. -/
namespace start1
open Jvm.ClassFile
def u (s : String) : CpInfo := .utf8 (stringToUtf16 s)
/-- a pool by its gaps: so many unusable entries, then the entry; so many at the end -/
def gap : Nat → List CpInfo → List CpInfo
  | 0, r => r
  | n + 1, r => .unusable :: gap n r
def poolList (es : List (Nat × CpInfo)) (last : Nat) : List CpInfo := es.foldr (fun e r => gap e.1 (e.2 :: r)) (gap last [])
def pool (es : List (Nat × CpInfo)) (last : Nat) : Array CpInfo := ⟨poolList es last⟩
def fileOf (pool : Array CpInfo) (this : Nat) (attrs : Array Attribute := #[]) (ms : Array MethodInfo := #[]) (fl : Nat := 33) (sup : Nat := 0) (ifs : Array Nat := #[]) (fds : Array FieldInfo := #[]) : ClassFile where
  minorVersion := 0
  majorVersion := 65
  constantPool := pool
  accessFlags := fl
  thisClass := this
  superClass := sup
  interfaces := ifs
  fields := fds
  methods := ms
  attributes := attrs
def plain (name : String) (sup : Option ClassId) : Class where
  name := name
  kind := .ordinary
  loader := none
  accessFlags := 33
  super := sup
  interfaces := #[]
  cf := none
  fields := #[]
  methods := #[]
  instanceTypes := #[]
  staticTypes := #[]
  resolved := #[]
  callSites := []
  init := .initialized
  statics := none
  mirror := none

def pool0 : Array CpInfo := pool [(5, u "<init>"), (0, u "()V"), (1, .class_ 10), (1, u "java/lang/Object")] 113

def k0c0 : Code := { maxStack := 0, maxLocals := 1, code := object_method_1_code, exceptionTable := #[], attributes := #[] }
def k0m0 : Method := { name := "<init>", desc := "()V", sig := { parameters := [], returnType := none }, accessFlags := 1, code := some k0c0 }
/-- java/lang/Object -/
def k0 : Class := { plain "java/lang/Object" none with
  accessFlags := 33
  interfaces := #[]
  cf := some (fileOf pool0 8 #[] #[{ accessFlags := 1, nameIndex := 5, descriptorIndex := 6, attributes := #[] }] 33 0 #[] #[])
  fields := #[]
  methods := #[k0m0]
  instanceTypes := #[]
  staticTypes := #[]
  resolved := Array.replicate 124 none
  statics := none }

def pool1 : Array CpInfo := pool [(2, .class_ 4), (1, u "java/lang/Object"), (0, u "<init>"), (0, u "()V"), (0, .integer 2147483647), (0, .class_ 9), (0, u "com/example/assentor/assentor/core/SystemSize"), (0, .methodref 8 11), (0, .nameAndType 5 12), (0, u "(II)V"), (0, .methodref 14 15), (0, .class_ 16), (0, .nameAndType 17 18), (0, u "com/example/assentor/assentor/protocols/TrustGraph"), (0, u "diameterBound"), (0, u "(Lcom/example/assentor/assentor/core/SystemSize;)I"), (0, .long 2), (1, .class_ 22), (0, u "com/example/assentor/assentor/protocols/TrustGraphDiameterBoundPinLaw"), (2, u "law"), (0, u "(II)Z")] 3

def k1m0 : Method := { name := "<init>", desc := "()V", sig := { parameters := [], returnType := none }, accessFlags := 1, code := none }
def k1c1 : Code := { maxStack := 6, maxLocals := 14, code := code, exceptionTable := #[], attributes := #[] }
def k1m1 : Method := { name := "law", desc := "(II)Z", sig := { parameters := [.int, .int], returnType := some .boolean }, accessFlags := 9, code := some k1c1 }
/-- com/example/assentor/assentor/protocols/TrustGraphDiameterBoundPinLaw -/
def k1 : Class := { plain "com/example/assentor/assentor/protocols/TrustGraphDiameterBoundPinLaw" (some 0) with
  accessFlags := 49
  interfaces := #[]
  cf := some (fileOf pool1 21 #[] #[{ accessFlags := 1, nameIndex := 5, descriptorIndex := 6, attributes := #[] }, { accessFlags := 9, nameIndex := 25, descriptorIndex := 26, attributes := #[] }] 49 2 #[] #[])
  fields := #[]
  methods := #[k1m0, k1m1]
  instanceTypes := #[]
  staticTypes := #[]
  resolved := Array.replicate 30 none
  statics := none }

def pool2 : Array CpInfo := pool [(1, .methodref 2 3), (0, .class_ 4), (0, .nameAndType 5 6), (0, u "java/lang/Object"), (0, u "<init>"), (0, u "()V"), (0, .class_ 8), (0, u "java/lang/Record")] 13

def k2c0 : Code := { maxStack := 1, maxLocals := 1, code := jdk_30_method_1_code, exceptionTable := #[], attributes := #[] }
def k2m0 : Method := { name := "<init>", desc := "()V", sig := { parameters := [], returnType := none }, accessFlags := 4, code := some k2c0 }
/-- java/lang/Record -/
def k2 : Class := { plain "java/lang/Record" (some 0) with
  accessFlags := 1057
  interfaces := #[]
  cf := some (fileOf pool2 7 #[] #[{ accessFlags := 4, nameIndex := 5, descriptorIndex := 6, attributes := #[] }] 1057 2 #[] #[])
  fields := #[]
  methods := #[k2m0]
  instanceTypes := #[]
  staticTypes := #[]
  resolved := Array.replicate 22 none
  statics := none }

def pool3 : Array CpInfo := pool [(1, .methodref 2 3), (0, .class_ 4), (0, .nameAndType 5 6), (0, u "java/lang/Record"), (0, u "<init>"), (0, u "()V"), (0, .class_ 8), (0, u "com/example/assentor/assentor/core/SystemSize"), (12, .fieldref 7 22), (0, .nameAndType 23 24), (0, u "n"), (0, u "I"), (0, .fieldref 7 26), (0, .nameAndType 27 24), (0, u "f"), (12, u "MIN_NODES"), (2, u "MAX_NODES"), (1, u "(II)V"), (4, u "honest"), (0, u "()I")] 35

def k3c0 : Code := { maxStack := 4, maxLocals := 3, code := prog_48_method_1_code, exceptionTable := #[], attributes := #[] }
def k3m0 : Method := { name := "<init>", desc := "(II)V", sig := { parameters := [.int, .int], returnType := none }, accessFlags := 1, code := some k3c0 }
def k3c1 : Code := { maxStack := 2, maxLocals := 1, code := prog_48_method_2_code, exceptionTable := #[], attributes := #[] }
def k3m1 : Method := { name := "honest", desc := "()I", sig := { parameters := [], returnType := some .int }, accessFlags := 1, code := some k3c1 }
def k3c2 : Code := { maxStack := 1, maxLocals := 1, code := prog_48_method_7_code, exceptionTable := #[], attributes := #[] }
def k3m2 : Method := { name := "n", desc := "()I", sig := { parameters := [], returnType := some .int }, accessFlags := 1, code := some k3c2 }
/-- com/example/assentor/assentor/core/SystemSize -/
def k3 : Class := { plain "com/example/assentor/assentor/core/SystemSize" (some 2) with
  accessFlags := 49
  interfaces := #[]
  cf := some (fileOf pool3 7 #[] #[{ accessFlags := 1, nameIndex := 5, descriptorIndex := 45, attributes := #[] }, { accessFlags := 1, nameIndex := 50, descriptorIndex := 51, attributes := #[] }, { accessFlags := 1, nameIndex := 23, descriptorIndex := 51, attributes := #[] }] 49 2 #[] #[{ accessFlags := 18, nameIndex := 23, descriptorIndex := 24, attributes := #[] }, { accessFlags := 18, nameIndex := 27, descriptorIndex := 24, attributes := #[] }, { accessFlags := 25, nameIndex := 40, descriptorIndex := 24, attributes := #[] }, { accessFlags := 25, nameIndex := 43, descriptorIndex := 24, attributes := #[] }])
  fields := #[{ name := "n", type := .int, accessFlags := 18, slot := 0, constantValue := 0 }, { name := "f", type := .int, accessFlags := 18, slot := 1, constantValue := 0 }, { name := "MIN_NODES", type := .int, accessFlags := 25, slot := 0, constantValue := 0 }, { name := "MAX_NODES", type := .int, accessFlags := 25, slot := 1, constantValue := 0 }]
  methods := #[k3m0, k3m1, k3m2]
  instanceTypes := #[.int, .int]
  staticTypes := #[.int, .int]
  resolved := Array.replicate 87 none
  statics := none }

def pool4 : Array CpInfo := pool [(8, .class_ 10), (1, u "com/example/assentor/assentor/protocols/TrustGraph"), (3, u "nodes"), (0, u "Ljava/util/BitSet;"), (0, .methodref 17 18), (0, .class_ 19), (0, .nameAndType 20 21), (0, u "com/example/assentor/assentor/core/SystemSize"), (0, u "n"), (0, u "()I"), (6, u "neighbours"), (0, u "[Ljava/util/BitSet;"), (9, .class_ 40), (0, u "java/lang/Object"), (2, u "shrunk"), (2, u "diameter"), (0, u "I"), (15, u "owner"), (0, .methodref 17 65), (0, .nameAndType 66 21), (0, u "honest"), (2, u "threshold"), (152, u "diameterBound"), (0, u "(Lcom/example/assentor/assentor/core/SystemSize;)I")] 32

def k4c0 : Code := { maxStack := 3, maxLocals := 3, code := prog_104_method_7_code, exceptionTable := #[], attributes := #[] }
def k4m0 : Method := { name := "diameterBound", desc := "(Lcom/example/assentor/assentor/core/SystemSize;)I", sig := { parameters := [(.object "com/example/assentor/assentor/core/SystemSize")], returnType := some .int }, accessFlags := 9, code := some k4c0 }
/-- com/example/assentor/assentor/protocols/TrustGraph -/
def k4 : Class := { plain "com/example/assentor/assentor/protocols/TrustGraph" (some 0) with
  accessFlags := 49
  interfaces := #[]
  cf := some (fileOf pool4 8 #[] #[{ accessFlags := 9, nameIndex := 222, descriptorIndex := 223, attributes := #[] }] 49 39 #[] #[{ accessFlags := 18, nameIndex := 63, descriptorIndex := 47, attributes := #[] }, { accessFlags := 18, nameIndex := 69, descriptorIndex := 47, attributes := #[] }, { accessFlags := 18, nameIndex := 14, descriptorIndex := 15, attributes := #[] }, { accessFlags := 18, nameIndex := 28, descriptorIndex := 29, attributes := #[] }, { accessFlags := 18, nameIndex := 43, descriptorIndex := 15, attributes := #[] }, { accessFlags := 2, nameIndex := 46, descriptorIndex := 47, attributes := #[] }])
  fields := #[{ name := "owner", type := .int, accessFlags := 18, slot := 0, constantValue := 0 }, { name := "threshold", type := .int, accessFlags := 18, slot := 1, constantValue := 0 }, { name := "nodes", type := (.object "java/util/BitSet"), accessFlags := 18, slot := 2, constantValue := 0 }, { name := "neighbours", type := (.array (.object "java/util/BitSet")), accessFlags := 18, slot := 3, constantValue := 0 }, { name := "shrunk", type := (.object "java/util/BitSet"), accessFlags := 18, slot := 4, constantValue := 0 }, { name := "diameter", type := .int, accessFlags := 2, slot := 5, constantValue := 0 }]
  methods := #[k4m0]
  instanceTypes := #[.int, .int, (.object "java/util/BitSet"), (.array (.object "java/util/BitSet")), (.object "java/util/BitSet"), .int]
  staticTypes := #[]
  resolved := Array.replicate 256 none
  statics := none }

def pool5 : Array CpInfo := pool [(1, u "java/lang/Cloneable"), (0, .class_ 1), (0, u "java/lang/Object"), (0, .class_ 3)] 3

/-- java/lang/Cloneable -/
def k5 : Class := { plain "java/lang/Cloneable" (some 0) with
  accessFlags := 1537
  interfaces := #[]
  cf := some (fileOf pool5 2 #[] #[] 1537 4 #[] #[])
  fields := #[]
  methods := #[]
  instanceTypes := #[]
  staticTypes := #[]
  resolved := Array.replicate 8 none
  statics := none }

def pool6 : Array CpInfo := pool [(1, u "java/io/Serializable"), (0, .class_ 1), (0, u "java/lang/Object"), (0, .class_ 3)] 3

/-- java/io/Serializable -/
def k6 : Class := { plain "java/io/Serializable" (some 0) with
  accessFlags := 1537
  interfaces := #[]
  cf := some (fileOf pool6 2 #[] #[] 1537 4 #[] #[])
  fields := #[]
  methods := #[]
  instanceTypes := #[]
  staticTypes := #[]
  resolved := Array.replicate 8 none
  statics := none }

/-- the primitive byte -/
def k7 : Class := { plain "byte" none with kind := .primitive 'B', accessFlags := 0x411 }
/-- [B -/
def k8 : Class := { plain "[B" (some 0) with kind := .array 7 .byte, interfaces := #[5, 6], accessFlags := 1041 }

/-- the primitive int -/
def k9 : Class := { plain "int" none with kind := .primitive 'I', accessFlags := 0x411 }
/-- [I -/
def k10 : Class := { plain "[I" (some 0) with kind := .array 9 .int, interfaces := #[5, 6], accessFlags := 1041 }

def heap : Heap := #[]
def classes : Array Class := #[k0, k1, k2, k3, k4, k5, k6, k7, k8, k9, k10]
def interned : List (Array UInt16 × Addr) := []
def slotsUsed : Nat := 0
def theMethod : MethodId := ⟨1, 1⟩
def args0 : Array Value := #[.int 5, .int 5]
def aboutOver (below : List Frame) : State where
  vm := { classes := classes, interned := interned.toArray }
  heap := heap
  slotsUsed := slotsUsed
  threads := #[{ frames := .invoking theMethod args0 :: below }]
def below0 : List Frame := [.native { method := ⟨0, 0⟩, args := #[] }]
def about1 : State := aboutOver below0
def p0 : Program := .bare "" "" ""
def e0 : Env := launch0.env 0 0 0
theorem w_frames : about1.frames = Frame.invoking theMethod args0 :: below0 := rfl
set_option maxRecDepth 65536 in
theorem w_args : argsFit about1.vm theMethod args0 = true := by decide +kernel
set_option maxRecDepth 65536 in
theorem w_heap : heapFits about1 = true := by decide +kernel
set_option maxRecDepth 65536 in
theorem w_runnable : about1.curStatus? = some .runnable := by decide +kernel
set_option maxRecDepth 65536 in
theorem w_alone : about1.alone = true := by decide +kernel
set_option maxRecDepth 65536 in
theorem w_named : about1.methodNamed? x = some theMethod := by decide +kernel
set_option maxRecDepth 65536 in
theorem w_hears : about1.hears theMethod below0 = true := by decide +kernel
set_option maxRecDepth 65536 in
theorem w_ripe : about1.ripe theMethod args0 below0 = true := by decide +kernel
theorem w_running : about1.status = .running := rfl
set_option maxRecDepth 65536 in
theorem w_room : about1.hasRoom e0.platform room_1 = true :=
  launch0.hasRoom_least _ room_1 (by decide +kernel) (by decide +kernel) (by decide +kernel) (by decide +kernel) (by decide +kernel) (by decide +kernel)
theorem allAtoms_all (ts : List Jvm.Cond) (a : Array Jvm.Value) (st : Jvm.State) : (allAtoms ts).before a st = ts.all (fun c => c.before a st) := by
  induction ts with
  | nil => rfl
  | cons c t ih =>
    show (Jvm.Cond.and c (allAtoms t)).before a st = _
    rw [Jvm.Cond.before_and, ih, List.all_cons]
def words1 : List Jvm.Cond := Jvm.Cond.code x code maxLocals ret :: tables_1
/-- a 'code' word, met by the world's own term for the bytes: nothing is compared byte by byte -/
theorem code_word {y : MethodName} {bytes : ByteArray} {mx : Nat} {rt : Option FieldType} {a : Array Value} {s : State} {m : MethodId} {meth : Method} {c : Code} (h1 : s.methodNamed? y = some m) (h2 : s.vm.method? m = some meth) (h3 : meth.code = some c) (h4 : c.code = bytes)
    (h5 : (c.maxLocals == mx && c.exceptionTable.isEmpty && decide (c.maxStack ≤ mostOperands) && decide (meth.sig.returnType = rt) && !meth.locks && decide (parseMethodDescriptor y.desc = some meth.sig)) = true) : (Jvm.Cond.code y bytes mx rt).before a s = true := by
  simp only [Bool.and_eq_true, beq_iff_eq, Bool.not_eq_true', decide_eq_true_eq] at h5
  obtain ⟨⟨⟨⟨⟨g1, g2⟩, g3⟩, g4⟩, g5⟩, g6⟩ := h5
  simp [Cond.before, Cond.holds, Cond.value, h1, h2, h3, h4, g1, g2, g3, g4, g5, g6]
def isCode : Jvm.Cond → Bool
  | .code _ _ _ _ => true
  | _ => false
theorem all_split {L : List Jvm.Cond} {P : Jvm.Cond → Bool} (h1 : L.all (fun c => isCode c || P c) = true) (h2 : ∀ c ∈ L.filter isCode, P c = true) : L.all P = true := by
  refine List.all_eq_true.mpr fun c hc => ?_
  have h := List.all_eq_true.mp h1 c hc
  rcases Bool.eq_false_or_eq_true (isCode c) with hi | hi
  · exact h2 c (List.mem_filter.mpr ⟨hc, hi⟩)
  · simpa [hi] using h
set_option maxRecDepth 65536 in
theorem w_c0 : (Jvm.Cond.code x code maxLocals ret).before args0 about1 = true := code_word (m := ⟨1, 1⟩) (meth := k1m1) (c := k1c1) (by decide +kernel) rfl rfl rfl (by decide +kernel)
set_option maxRecDepth 65536 in
theorem w_c1 : (Jvm.Cond.code ({ cls := "com/example/assentor/assentor/core/SystemSize", name := "<init>", desc := "(II)V" } : Jvm.MethodName) prog_48_method_1_code (3 : Nat) (Option.none : Option Jvm.ClassFile.FieldType)).before args0 about1 = true := code_word (m := ⟨3, 0⟩) (meth := k3m0) (c := k3c0) (by decide +kernel) rfl rfl rfl (by decide +kernel)
set_option maxRecDepth 65536 in
theorem w_c2 : (Jvm.Cond.code ({ cls := "java/lang/Record", name := "<init>", desc := "()V" } : Jvm.MethodName) jdk_30_method_1_code (1 : Nat) (Option.none : Option Jvm.ClassFile.FieldType)).before args0 about1 = true := code_word (m := ⟨2, 0⟩) (meth := k2m0) (c := k2c0) (by decide +kernel) rfl rfl rfl (by decide +kernel)
set_option maxRecDepth 65536 in
theorem w_c3 : (Jvm.Cond.code ({ cls := "java/lang/Object", name := "<init>", desc := "()V" } : Jvm.MethodName) object_method_1_code (1 : Nat) (Option.none : Option Jvm.ClassFile.FieldType)).before args0 about1 = true := code_word (m := ⟨0, 0⟩) (meth := k0m0) (c := k0c0) (by decide +kernel) rfl rfl rfl (by decide +kernel)
set_option maxRecDepth 65536 in
theorem w_c4 : (Jvm.Cond.code ({ cls := "com/example/assentor/assentor/protocols/TrustGraph", name := "diameterBound", desc := "(Lcom/example/assentor/assentor/core/SystemSize;)I" } : Jvm.MethodName) prog_104_method_7_code (3 : Nat) (Option.some Jvm.ClassFile.FieldType.int)).before args0 about1 = true := code_word (m := ⟨4, 0⟩) (meth := k4m0) (c := k4c0) (by decide +kernel) rfl rfl rfl (by decide +kernel)
set_option maxRecDepth 65536 in
theorem w_c5 : (Jvm.Cond.code ({ cls := "com/example/assentor/assentor/core/SystemSize", name := "n", desc := "()I" } : Jvm.MethodName) prog_48_method_7_code (1 : Nat) (Option.some Jvm.ClassFile.FieldType.int)).before args0 about1 = true := code_word (m := ⟨3, 2⟩) (meth := k3m2) (c := k3c2) (by decide +kernel) rfl rfl rfl (by decide +kernel)
set_option maxRecDepth 65536 in
theorem w_c6 : (Jvm.Cond.code ({ cls := "com/example/assentor/assentor/core/SystemSize", name := "honest", desc := "()I" } : Jvm.MethodName) prog_48_method_2_code (1 : Nat) (Option.some Jvm.ClassFile.FieldType.int)).before args0 about1 = true := code_word (m := ⟨3, 1⟩) (meth := k3m1) (c := k3c1) (by decide +kernel) rfl rfl rfl (by decide +kernel)
def codes1 : List Jvm.Cond := [Jvm.Cond.code x code maxLocals ret, Jvm.Cond.code ({ cls := "com/example/assentor/assentor/core/SystemSize", name := "<init>", desc := "(II)V" } : Jvm.MethodName) prog_48_method_1_code (3 : Nat) (Option.none : Option Jvm.ClassFile.FieldType), Jvm.Cond.code ({ cls := "java/lang/Record", name := "<init>", desc := "()V" } : Jvm.MethodName) jdk_30_method_1_code (1 : Nat) (Option.none : Option Jvm.ClassFile.FieldType), Jvm.Cond.code ({ cls := "java/lang/Object", name := "<init>", desc := "()V" } : Jvm.MethodName) object_method_1_code (1 : Nat) (Option.none : Option Jvm.ClassFile.FieldType), Jvm.Cond.code ({ cls := "com/example/assentor/assentor/protocols/TrustGraph", name := "diameterBound", desc := "(Lcom/example/assentor/assentor/core/SystemSize;)I" } : Jvm.MethodName) prog_104_method_7_code (3 : Nat) (Option.some Jvm.ClassFile.FieldType.int), Jvm.Cond.code ({ cls := "com/example/assentor/assentor/core/SystemSize", name := "n", desc := "()I" } : Jvm.MethodName) prog_48_method_7_code (1 : Nat) (Option.some Jvm.ClassFile.FieldType.int), Jvm.Cond.code ({ cls := "com/example/assentor/assentor/core/SystemSize", name := "honest", desc := "()I" } : Jvm.MethodName) prog_48_method_2_code (1 : Nat) (Option.some Jvm.ClassFile.FieldType.int)]
set_option maxRecDepth 65536 in
theorem codes_eq : words1.filter isCode = codes1 := rfl
theorem w_codes : ∀ c ∈ words1.filter isCode, c.before args0 about1 = true := by
  rw [codes_eq]
  intro c hc
  simp only [codes1, List.mem_cons, List.not_mem_nil, or_false] at hc
  rcases hc with rfl | rfl | rfl | rfl | rfl | rfl | rfl
  · exact w_c0
  · exact w_c1
  · exact w_c2
  · exact w_c3
  · exact w_c4
  · exact w_c5
  · exact w_c6
set_option maxRecDepth 65536 in
theorem w_t1 : (words1.take 24).all (fun c => isCode c || c.before args0 about1) = true := by decide +kernel
set_option maxRecDepth 65536 in
theorem w_t2 : (words1.drop 24).all (fun c => isCode c || c.before args0 about1) = true := by decide +kernel
theorem w_tables : (allAtoms (Jvm.Cond.code x code maxLocals ret :: tables_1)).before args0 about1 = true := by
  rw [allAtoms_all]
  show words1.all (fun c => c.before args0 about1) = true
  refine all_split ?_ w_codes
  rw [← List.take_append_drop 24 words1, List.all_append, w_t1, w_t2]
  rfl
set_option maxRecDepth 65536 in
theorem w_case : (Jvm.Cond.and given_1 narrow_1).before args0 about1 = true := by decide +kernel
theorem w_applies : (headSpec (Jvm.Cond.code x code maxLocals ret :: tables_1) room_1).applies x e0.platform about1 = true :=
  (Spec.applies_iff w_frames).mpr ⟨w_running, w_runnable, w_alone, w_named, w_hears, w_ripe, w_room, w_tables⟩
theorem atStart : AtStart classFile x code maxLocals ret World_1 tables_1 room_1 Calls_1 rest_1 Pre_1 launch0 p0 e0 about1 theMethod args0 below0 :=
  ⟨lists_1, trivial, launch0.admits_env _ _ _, launch0.least_env, fairChoices_fair.cas, fairChoices_fair.clock, w_frames, w_args, w_heap, w_applies, trivial, trivial, w_case⟩
end start1
theorem witness_1 : WitnessClaimed_1 := ⟨start1.p0, start1.e0, start1.about1, start1.theMethod, start1.args0, start1.below0, start1.atStart⟩
end Jvm.Pilot.@@N@@
