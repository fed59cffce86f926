import JvmDerived
import JvmDerived.Pilot.@@N@@Statement
import JvmDerived.Pilot.@@N@@Code
set_option linter.unusedVariables false
set_option linter.unusedSimpArgs false
namespace Jvm.Pilot.@@N@@
open Jvm Jvm.ClassFile Sem Op Lib Jvm.Free Jvm.Stand Jvm.LawKit Jvm.RoadKit Bundle Jvm.Pilot.@@N@@.Jvm.D
/-- the run from F ends, with an outcome and a state that Φ takes -/
def own_Goes (p : Program) (e : Env) (below : List Frame) (Φ : Outcome → State → Prop) (F : State) : Prop :=
  ∃ s₂ o, Steps p.tables e below F s₂ ∧ s₂.status = .running ∧ Ended s₂ below o ∧ Φ o s₂
theorem own_go {p : Program} {e : Env} {below : List Frame} {Φ : Outcome → State → Prop} {F G : State}
    (k : ∀ t, Steps p.tables e below G t → Steps p.tables e below F t) (h : own_Goes p e below Φ G) : own_Goes p e below Φ F := by
  obtain ⟨s₂, o, h1, h2⟩ := h
  exact ⟨s₂, o, k _ h1, h2⟩
/-- what a contract says of the end -/
def own_End (s : State) (Q : Option Value → Heap → List Loc → Prop) (k n : Nat) (o : Outcome) (U' : State) : Prop :=
  ∃ v L, o = .returned v ∧ Q v U'.heap L ∧ FrameEnd s o U' L k n
/-- a value is returned, the heap is as it was -/
def own_Same (w : Value) (h0 : Heap) (n0 : Nat) (v : Option Value) (h : Heap) (L : List Loc) : Prop := v = some w ∧ Fr n0 L ∧ h = h0
/-- nothing is returned, the heap is as it was -/
def own_SameV (h0 : Heap) (n0 : Nat) (v : Option Value) (h : Heap) (L : List Loc) : Prop := v = none ∧ Fr n0 L ∧ h = h0
section Own
variable {p : Program} {l : Launch} {e : Env} {R : Room} {s : State} {m : MethodId} {args : Array Value} {below : List Frame} {meth : Method} {c : Code} {T : State} {locs : List Loc} {cells slots : Nat}
theorem own_ret (X : Stand p l e R s m args below meth c T locs cells slots) (hx : p.tables.exec = Jvm.exec) {pc : Nat} {Ls : Array Slot} {w : Value} {t : FieldType} {i : Instr} {rest : List Value} (hret : meth.sig.returnType = some t) (hn : narrow t w = w)
    (hi : (i = .ireturn ∧ (t = .int ∨ t = .boolean ∨ t = .byte ∨ t = .char ∨ t = .short) ∧ ∃ z, w = .int z) ∨ (i = .lreturn ∧ t = .long ∧ ∃ z, w = .long z) ∨ (i = .dreturn ∧ t = .double ∧ ∃ z, w = .double z) ∨ (i = .freturn ∧ t = .float ∧ ∃ z, w = .float z) ∨ (i = .areturn ∧ t.isReference = true ∧ w.isRef = true))
    (hd : decode c.code pc = .ok (i, 1)) (hlk : meth.locks = false) {Q : Option Value → Heap → List Loc → Prop} {k n : Nat} (h1 : cells ≤ k) (h2 : slots ≤ n) (hQ : Q (some w) T.heap locs) :
    own_Goes p e below (own_End s Q k n) (T.setTop (mkF m pc Ls (w :: rest))) := by
  obtain ⟨fs, hr, hrun, hended, hW, hsame⟩ := X.leave (v := some w) (fun h => by rw [hret] at h; cases h) hlk
  exact ⟨_, _, retOut X hx hret hn hi hd hr, hrun, hended, _, _, rfl, hQ, ⟨_, rfl⟩, hW, hsame.mono h1 h2⟩
theorem own_retI (X : Stand p l e R s m args below meth c T locs cells slots) (hx : p.tables.exec = Jvm.exec) {pc : Nat} {Ls : Array Slot} {z : Int32} {rest : List Value} (hret : meth.sig.returnType = some .int)
    (hd : decode c.code pc = .ok (.ireturn, 1)) (hlk : meth.locks = false) {Q : Option Value → Heap → List Loc → Prop} {k n : Nat} (h1 : cells ≤ k) (h2 : slots ≤ n) (hQ : Q (some (.int z)) T.heap locs) :
    own_Goes p e below (own_End s Q k n) (T.setTop (mkF m pc Ls (.int z :: rest))) := own_ret X hx hret rfl (Or.inl ⟨rfl, Or.inl rfl, z, rfl⟩) hd hlk h1 h2 hQ
theorem own_retJ (X : Stand p l e R s m args below meth c T locs cells slots) (hx : p.tables.exec = Jvm.exec) {pc : Nat} {Ls : Array Slot} {z : Int64} {rest : List Value} (hret : meth.sig.returnType = some .long)
    (hd : decode c.code pc = .ok (.lreturn, 1)) (hlk : meth.locks = false) {Q : Option Value → Heap → List Loc → Prop} {k n : Nat} (h1 : cells ≤ k) (h2 : slots ≤ n) (hQ : Q (some (.long z)) T.heap locs) :
    own_Goes p e below (own_End s Q k n) (T.setTop (mkF m pc Ls (.long z :: rest))) := own_ret X hx hret rfl (Or.inr (Or.inl ⟨rfl, rfl, z, rfl⟩)) hd hlk h1 h2 hQ
theorem own_retB (X : Stand p l e R s m args below meth c T locs cells slots) (hx : p.tables.exec = Jvm.exec) {pc : Nat} {Ls : Array Slot} {z : Int32} {rest : List Value} (hret : meth.sig.returnType = some .boolean) (hz : z = 0 ∨ z = 1)
    (hd : decode c.code pc = .ok (.ireturn, 1)) (hlk : meth.locks = false) {Q : Option Value → Heap → List Loc → Prop} {k n : Nat} (h1 : cells ≤ k) (h2 : slots ≤ n) (hQ : Q (some (.int z)) T.heap locs) :
    own_Goes p e below (own_End s Q k n) (T.setTop (mkF m pc Ls (.int z :: rest))) := own_ret X hx hret (by rcases hz with rfl | rfl <;> rfl) (Or.inl ⟨rfl, Or.inr (Or.inl rfl), z, rfl⟩) hd hlk h1 h2 hQ
theorem own_ret1 (X : Stand p l e R s m args below meth c T locs cells slots) (hx : p.tables.exec = Jvm.exec) {pc : Nat} {Ls : Array Slot} {rest : List Value} (hret : meth.sig.returnType = some .boolean)
    (hd : decode c.code pc = .ok (.ireturn, 1)) (hlk : meth.locks = false) {Q : Option Value → Heap → List Loc → Prop} {k n : Nat} (h1 : cells ≤ k) (h2 : slots ≤ n) (hQ : Q (some (.int 1)) T.heap locs) :
    own_Goes p e below (own_End s Q k n) (T.setTop (mkF m pc Ls (.int 1 :: rest))) := own_retB X hx hret (Or.inr rfl) hd hlk h1 h2 hQ
theorem own_ret0 (X : Stand p l e R s m args below meth c T locs cells slots) (hx : p.tables.exec = Jvm.exec) {pc : Nat} {Ls : Array Slot} {rest : List Value} (hret : meth.sig.returnType = some .boolean)
    (hd : decode c.code pc = .ok (.ireturn, 1)) (hlk : meth.locks = false) {Q : Option Value → Heap → List Loc → Prop} {k n : Nat} (h1 : cells ≤ k) (h2 : slots ≤ n) (hQ : Q (some (.int 0)) T.heap locs) :
    own_Goes p e below (own_End s Q k n) (T.setTop (mkF m pc Ls (.int 0 :: rest))) := own_retB X hx hret (Or.inl rfl) hd hlk h1 h2 hQ
theorem own_retN (X : Stand p l e R s m args below meth c T locs cells slots) (hx : p.tables.exec = Jvm.exec) {pc : Nat} {Ls : Array Slot} {z : Int32} {t : FieldType} {rest : List Value} (hret : meth.sig.returnType = some t) (ht : t = .boolean ∨ t = .byte ∨ t = .char ∨ t = .short)
    (hd : decode c.code pc = .ok (.ireturn, 1)) (hlk : meth.locks = false) {Q : Option Value → Heap → List Loc → Prop} {k n : Nat} (h1 : cells ≤ k) (h2 : slots ≤ n) (hQ : Q (some (.int (nar t z))) T.heap locs) :
    own_Goes p e below (own_End s Q k n) (T.setTop (mkF m pc Ls (.int z :: rest))) := by
  obtain ⟨fs, hr, hrun, hended, hW, hsame⟩ := X.leave (v := some (.int (nar t z))) (fun h => by rw [hret] at h; cases h) hlk
  exact ⟨_, _, retN X hx hret ht hd hr, hrun, hended, _, _, rfl, hQ, ⟨_, rfl⟩, hW, hsame.mono h1 h2⟩
theorem own_retA (X : Stand p l e R s m args below meth c T locs cells slots) (hx : p.tables.exec = Jvm.exec) {pc : Nat} {Ls : Array Slot} {w : Value} {t : FieldType} {rest : List Value} (hret : meth.sig.returnType = some t) (ht : t.isReference = true) (hw : w.isRef = true)
    (hd : decode c.code pc = .ok (.areturn, 1)) (hlk : meth.locks = false) {Q : Option Value → Heap → List Loc → Prop} {k n : Nat} (h1 : cells ≤ k) (h2 : slots ≤ n) (hQ : Q (some w) T.heap locs) :
    own_Goes p e below (own_End s Q k n) (T.setTop (mkF m pc Ls (w :: rest))) := own_ret X hx hret (by cases t <;> first | rfl | cases ht) (Or.inr (Or.inr (Or.inr (Or.inr ⟨rfl, ht, hw⟩)))) hd hlk h1 h2 hQ
theorem own_retV (X : Stand p l e R s m args below meth c T locs cells slots) (hx : p.tables.exec = Jvm.exec) {pc : Nat} {Ls : Array Slot} (hret : meth.sig.returnType = none)
    (hd : decode c.code pc = .ok (.return_, 1)) (hlk : meth.locks = false) {Q : Option Value → Heap → List Loc → Prop} {k n : Nat} (h1 : cells ≤ k) (h2 : slots ≤ n) (hQ : Q none T.heap locs) :
    own_Goes p e below (own_End s Q k n) (T.setTop (mkF m pc Ls [])) := by
  obtain ⟨fs, hr, hrun, hended, hW, hsame⟩ := X.leave (v := none) (fun _ => rfl) hlk
  exact ⟨_, _, X.returnOut hx hret hd hr, hrun, hended, _, _, rfl, hQ, ⟨_, rfl⟩, hW, hsame.mono h1 h2⟩
end Own
/-- the law says true; nothing old is written -/
def own_True (n0 : Nat) (v : Option Value) (h : Heap) (L : List Loc) : Prop := v = some (.int 1) ∧ Fr n0 L
theorem own_i (x y : Int32) : (x = y ↔ x.toInt = y.toInt) ∧ (x < y ↔ x.toInt < y.toInt) ∧ (x ≤ y ↔ x.toInt ≤ y.toInt) := ⟨Int32.toInt_inj.symm, Int32.lt_iff_toInt_lt, Int32.le_iff_toInt_le⟩
theorem own_ie (x y : Int32) : x = y ↔ x.toInt = y.toInt := Int32.toInt_inj.symm
theorem own_le (x y : Int64) : x = y ↔ x.toInt = y.toInt := Int64.toInt_inj.symm
/-- an array of which the kind and the length alone are told -/
def own_A (Z : State) (h : Heap) (a : Addr) (ty : FieldType) (n : Int32) : Prop := ∃ c : Cell, Arr Z h a c ty ∧ c.slots.size = n.toNatClampNeg ∧ ¬ n < 0
section OwnA
variable {Z : State} {h h' : Heap} {a b : Addr} {ty : FieldType} {n : Int32} {sl : Nat} {v : Value} {ws : List Addr}
theorem own_A.lt (F : own_A Z h a ty n) : a < h.size := by obtain ⟨c, A, -⟩ := F; exact A.lt
theorem own_A.ext (F : own_A Z h a ty n) (E : Ext h h') : own_A Z h' a ty n := by obtain ⟨c, A, r⟩ := F; exact ⟨c, A.ext E, r⟩
theorem own_A.other (F : own_A Z h b ty n) (W : Wr h h' a sl v) (q : b ≠ a) : own_A Z h' b ty n := by obtain ⟨c, A, r⟩ := F; exact ⟨c, A.other W q, r⟩
theorem own_A.same (F : own_A Z h a ty n) (W : Wr h h' a sl v) : own_A Z h' a ty n := by
  obtain ⟨c, A, r1, r2⟩ := F
  exact ⟨_, A.same W, by rw [← r1]; simp [Cell.setSlot], r2⟩
theorem own_A.keep (F : own_A Z h a ty n) (K : Keep h h' ws) (q : a ∉ ws) : own_A Z h' a ty n := by obtain ⟨c, A, r⟩ := F; exact ⟨c, ⟨K.2.1 a c A.1 q, A.2⟩, r⟩
theorem own_A.of {k : ClassId} {vs : List Value} {d : Value} (F : Arv Z h a k ty n vs d) : own_A Z h a ty n := by obtain ⟨c, A, -, r1, r2, -⟩ := F; exact ⟨c, A, r1, r2⟩
end OwnA
theorem own_staKeep {Z : State} {h h' : Heap} {C n d : String} {v : Value} (F : Sta Z h C n d v) (K : Keep h h' []) : Sta Z h' C n d v := by
  obtain ⟨cf, i, k, f, st, cell, h1, h2, h3, h4, h5, r⟩ := F
  exact ⟨cf, i, k, f, st, cell, h1, h2, h3, h4, K.2.1 _ _ h5 nin0, r⟩
theorem d1_0 : decode prog_41_method_2_code 0 = .ok (.iload_n 0, 1) := by decide +kernel
theorem d1_1 : decode prog_41_method_2_code 1 = .ok (.bipush 97, 2) := by decide +kernel
theorem d1_3 : decode prog_41_method_2_code 3 = .ok (.if_icmp .lt 9, 3) := by decide +kernel
theorem d1_6 : decode prog_41_method_2_code 6 = .ok (.iload_n 0, 1) := by decide +kernel
theorem d1_7 : decode prog_41_method_2_code 7 = .ok (.bipush 122, 2) := by decide +kernel
theorem d1_9 : decode prog_41_method_2_code 9 = .ok (.if_icmp .le 182, 3) := by decide +kernel
theorem d1_12 : decode prog_41_method_2_code 12 = .ok (.iload_n 0, 1) := by decide +kernel
theorem d1_13 : decode prog_41_method_2_code 13 = .ok (.bipush 65, 2) := by decide +kernel
theorem d1_15 : decode prog_41_method_2_code 15 = .ok (.if_icmp .lt 9, 3) := by decide +kernel
theorem d1_18 : decode prog_41_method_2_code 18 = .ok (.iload_n 0, 1) := by decide +kernel
theorem d1_19 : decode prog_41_method_2_code 19 = .ok (.bipush 90, 2) := by decide +kernel
theorem d1_21 : decode prog_41_method_2_code 21 = .ok (.if_icmp .le 170, 3) := by decide +kernel
theorem d1_24 : decode prog_41_method_2_code 24 = .ok (.iload_n 0, 1) := by decide +kernel
theorem d1_25 : decode prog_41_method_2_code 25 = .ok (.bipush 95, 2) := by decide +kernel
theorem d1_27 : decode prog_41_method_2_code 27 = .ok (.if_icmp .eq 164, 3) := by decide +kernel
theorem d1_30 : decode prog_41_method_2_code 30 = .ok (.iload_n 0, 1) := by decide +kernel
theorem d1_31 : decode prog_41_method_2_code 31 = .ok (.sipush 192, 3) := by decide +kernel
theorem d1_34 : decode prog_41_method_2_code 34 = .ok (.if_icmp .lt 10, 3) := by decide +kernel
theorem d1_37 : decode prog_41_method_2_code 37 = .ok (.iload_n 0, 1) := by decide +kernel
theorem d1_38 : decode prog_41_method_2_code 38 = .ok (.sipush 214, 3) := by decide +kernel
theorem d1_41 : decode prog_41_method_2_code 41 = .ok (.if_icmp .le 150, 3) := by decide +kernel
theorem d1_44 : decode prog_41_method_2_code 44 = .ok (.iload_n 0, 1) := by decide +kernel
theorem d1_45 : decode prog_41_method_2_code 45 = .ok (.sipush 216, 3) := by decide +kernel
theorem d1_48 : decode prog_41_method_2_code 48 = .ok (.if_icmp .lt 10, 3) := by decide +kernel
theorem d1_51 : decode prog_41_method_2_code 51 = .ok (.iload_n 0, 1) := by decide +kernel
theorem d1_52 : decode prog_41_method_2_code 52 = .ok (.sipush 246, 3) := by decide +kernel
theorem d1_55 : decode prog_41_method_2_code 55 = .ok (.if_icmp .le 136, 3) := by decide +kernel
theorem d1_58 : decode prog_41_method_2_code 58 = .ok (.iload_n 0, 1) := by decide +kernel
theorem d1_59 : decode prog_41_method_2_code 59 = .ok (.sipush 248, 3) := by decide +kernel
theorem d1_62 : decode prog_41_method_2_code 62 = .ok (.if_icmp .lt 10, 3) := by decide +kernel
theorem d1_65 : decode prog_41_method_2_code 65 = .ok (.iload_n 0, 1) := by decide +kernel
theorem d1_66 : decode prog_41_method_2_code 66 = .ok (.sipush 767, 3) := by decide +kernel
theorem d1_69 : decode prog_41_method_2_code 69 = .ok (.if_icmp .le 122, 3) := by decide +kernel
theorem d1_72 : decode prog_41_method_2_code 72 = .ok (.iload_n 0, 1) := by decide +kernel
theorem d1_73 : decode prog_41_method_2_code 73 = .ok (.sipush 880, 3) := by decide +kernel
theorem d1_76 : decode prog_41_method_2_code 76 = .ok (.if_icmp .lt 10, 3) := by decide +kernel
theorem d1_79 : decode prog_41_method_2_code 79 = .ok (.iload_n 0, 1) := by decide +kernel
theorem d1_80 : decode prog_41_method_2_code 80 = .ok (.sipush 893, 3) := by decide +kernel
theorem d1_83 : decode prog_41_method_2_code 83 = .ok (.if_icmp .le 108, 3) := by decide +kernel
theorem d1_86 : decode prog_41_method_2_code 86 = .ok (.iload_n 0, 1) := by decide +kernel
theorem d1_87 : decode prog_41_method_2_code 87 = .ok (.sipush 895, 3) := by decide +kernel
theorem d1_90 : decode prog_41_method_2_code 90 = .ok (.if_icmp .lt 10, 3) := by decide +kernel
theorem d1_93 : decode prog_41_method_2_code 93 = .ok (.iload_n 0, 1) := by decide +kernel
theorem d1_94 : decode prog_41_method_2_code 94 = .ok (.sipush 8191, 3) := by decide +kernel
theorem d1_97 : decode prog_41_method_2_code 97 = .ok (.if_icmp .le 94, 3) := by decide +kernel
theorem d1_100 : decode prog_41_method_2_code 100 = .ok (.iload_n 0, 1) := by decide +kernel
theorem d1_101 : decode prog_41_method_2_code 101 = .ok (.sipush 8204, 3) := by decide +kernel
theorem d1_104 : decode prog_41_method_2_code 104 = .ok (.if_icmp .lt 10, 3) := by decide +kernel
theorem d1_107 : decode prog_41_method_2_code 107 = .ok (.iload_n 0, 1) := by decide +kernel
theorem d1_108 : decode prog_41_method_2_code 108 = .ok (.sipush 8205, 3) := by decide +kernel
theorem d1_111 : decode prog_41_method_2_code 111 = .ok (.if_icmp .le 80, 3) := by decide +kernel
theorem d1_114 : decode prog_41_method_2_code 114 = .ok (.iload_n 0, 1) := by decide +kernel
theorem d1_115 : decode prog_41_method_2_code 115 = .ok (.sipush 8304, 3) := by decide +kernel
theorem d1_118 : decode prog_41_method_2_code 118 = .ok (.if_icmp .lt 10, 3) := by decide +kernel
theorem d1_121 : decode prog_41_method_2_code 121 = .ok (.iload_n 0, 1) := by decide +kernel
theorem d1_122 : decode prog_41_method_2_code 122 = .ok (.sipush 8591, 3) := by decide +kernel
theorem d1_125 : decode prog_41_method_2_code 125 = .ok (.if_icmp .le 66, 3) := by decide +kernel
theorem d1_128 : decode prog_41_method_2_code 128 = .ok (.iload_n 0, 1) := by decide +kernel
theorem d1_129 : decode prog_41_method_2_code 129 = .ok (.sipush 11264, 3) := by decide +kernel
theorem d1_132 : decode prog_41_method_2_code 132 = .ok (.if_icmp .lt 10, 3) := by decide +kernel
theorem d1_135 : decode prog_41_method_2_code 135 = .ok (.iload_n 0, 1) := by decide +kernel
theorem d1_136 : decode prog_41_method_2_code 136 = .ok (.sipush 12271, 3) := by decide +kernel
theorem d1_139 : decode prog_41_method_2_code 139 = .ok (.if_icmp .le 52, 3) := by decide +kernel
theorem d1_142 : decode prog_41_method_2_code 142 = .ok (.iload_n 0, 1) := by decide +kernel
theorem d1_143 : decode prog_41_method_2_code 143 = .ok (.sipush 12289, 3) := by decide +kernel
theorem d1_146 : decode prog_41_method_2_code 146 = .ok (.if_icmp .lt 9, 3) := by decide +kernel
theorem d1_149 : decode prog_41_method_2_code 149 = .ok (.iload_n 0, 1) := by decide +kernel
theorem d1_150 : decode prog_41_method_2_code 150 = .ok (.ldc 7, 2) := by decide +kernel
theorem d1_152 : decode prog_41_method_2_code 152 = .ok (.if_icmp .le 39, 3) := by decide +kernel
theorem d1_155 : decode prog_41_method_2_code 155 = .ok (.iload_n 0, 1) := by decide +kernel
theorem d1_156 : decode prog_41_method_2_code 156 = .ok (.ldc 8, 2) := by decide +kernel
theorem d1_158 : decode prog_41_method_2_code 158 = .ok (.if_icmp .lt 9, 3) := by decide +kernel
theorem d1_161 : decode prog_41_method_2_code 161 = .ok (.iload_n 0, 1) := by decide +kernel
theorem d1_162 : decode prog_41_method_2_code 162 = .ok (.ldc 9, 2) := by decide +kernel
theorem d1_164 : decode prog_41_method_2_code 164 = .ok (.if_icmp .le 27, 3) := by decide +kernel
theorem d1_167 : decode prog_41_method_2_code 167 = .ok (.iload_n 0, 1) := by decide +kernel
theorem d1_168 : decode prog_41_method_2_code 168 = .ok (.ldc 10, 2) := by decide +kernel
theorem d1_170 : decode prog_41_method_2_code 170 = .ok (.if_icmp .lt 9, 3) := by decide +kernel
theorem d1_173 : decode prog_41_method_2_code 173 = .ok (.iload_n 0, 1) := by decide +kernel
theorem d1_174 : decode prog_41_method_2_code 174 = .ok (.ldc 11, 2) := by decide +kernel
theorem d1_176 : decode prog_41_method_2_code 176 = .ok (.if_icmp .le 15, 3) := by decide +kernel
theorem d1_179 : decode prog_41_method_2_code 179 = .ok (.iload_n 0, 1) := by decide +kernel
theorem d1_180 : decode prog_41_method_2_code 180 = .ok (.ldc 12, 2) := by decide +kernel
theorem d1_182 : decode prog_41_method_2_code 182 = .ok (.if_icmp .lt 13, 3) := by decide +kernel
theorem d1_185 : decode prog_41_method_2_code 185 = .ok (.iload_n 0, 1) := by decide +kernel
theorem d1_186 : decode prog_41_method_2_code 186 = .ok (.ldc 13, 2) := by decide +kernel
theorem d1_188 : decode prog_41_method_2_code 188 = .ok (.if_icmp .gt 7, 3) := by decide +kernel
theorem d1_191 : decode prog_41_method_2_code 191 = .ok (.iconst 1, 1) := by decide +kernel
theorem d1_192 : decode prog_41_method_2_code 192 = .ok (.goto 4, 3) := by decide +kernel
theorem d1_195 : decode prog_41_method_2_code 195 = .ok (.iconst 0, 1) := by decide +kernel
theorem d1_196 : decode prog_41_method_2_code 196 = .ok (.ireturn, 1) := by decide +kernel
theorem pn1 : plainName "com/example/xrefloom/xrefloom/tree/XmlNames" = true := by first | (simp [plainName, overriddenIn]; done) | decide +kernel
theorem ef_rm1 (m : MethodId) (p0 : Int32) : entryFrame m #[(.int p0)] 1 = mkF m 0 #[.val (.int p0)] [] := by first | (simp [entryFrame, mkF, argsToLocals, Value.category]; done) | rfl
def F1_179 (p0 : Int32) : Int32 := (if p0 < (65536 : Int32) then (0 : Int32) else (if (983039 : Int32) < p0 then (0 : Int32) else (1 : Int32)))
def F1_167 (p0 : Int32) : Int32 := (if p0 < (65008 : Int32) then (F1_179 p0) else (if (65533 : Int32) < p0 then (F1_179 p0) else (1 : Int32)))
def F1_155 (p0 : Int32) : Int32 := (if p0 < (63744 : Int32) then (F1_167 p0) else (if (64975 : Int32) < p0 then (F1_167 p0) else (1 : Int32)))
def F1_142 (p0 : Int32) : Int32 := (if p0 < (12289 : Int32) then (F1_155 p0) else (if (55295 : Int32) < p0 then (F1_155 p0) else (1 : Int32)))
def F1_128 (p0 : Int32) : Int32 := (if p0 < (11264 : Int32) then (F1_142 p0) else (if (12271 : Int32) < p0 then (F1_142 p0) else (1 : Int32)))
def F1_114 (p0 : Int32) : Int32 := (if p0 < (8304 : Int32) then (F1_128 p0) else (if (8591 : Int32) < p0 then (F1_128 p0) else (1 : Int32)))
def F1_100 (p0 : Int32) : Int32 := (if p0 < (8204 : Int32) then (F1_114 p0) else (if (8205 : Int32) < p0 then (F1_114 p0) else (1 : Int32)))
def F1_86 (p0 : Int32) : Int32 := (if p0 < (895 : Int32) then (F1_100 p0) else (if (8191 : Int32) < p0 then (F1_100 p0) else (1 : Int32)))
def F1_72 (p0 : Int32) : Int32 := (if p0 < (880 : Int32) then (F1_86 p0) else (if (893 : Int32) < p0 then (F1_86 p0) else (1 : Int32)))
def F1_58 (p0 : Int32) : Int32 := (if p0 < (248 : Int32) then (F1_72 p0) else (if (767 : Int32) < p0 then (F1_72 p0) else (1 : Int32)))
def F1_44 (p0 : Int32) : Int32 := (if p0 < (216 : Int32) then (F1_58 p0) else (if (246 : Int32) < p0 then (F1_58 p0) else (1 : Int32)))
def F1_24 (p0 : Int32) : Int32 := (if p0 = (95 : Int32) then (1 : Int32) else (if p0 < (192 : Int32) then (F1_44 p0) else (if (214 : Int32) < p0 then (F1_44 p0) else (1 : Int32))))
def F1_12 (p0 : Int32) : Int32 := (if p0 < (65 : Int32) then (F1_24 p0) else (if (90 : Int32) < p0 then (F1_24 p0) else (1 : Int32)))
def F1 (p0 : Int32) : Int32 := (if p0 < (97 : Int32) then (F1_12 p0) else (if (122 : Int32) < p0 then (F1_12 p0) else (1 : Int32)))
set_option maxRecDepth 65536 in
set_option maxHeartbeats 40000000 in
theorem rm1 (l : Launch) (Z : State) (a0 : Array Value) (hw : ∀ d ∈ tables_1, d.before a0 Z = true) (ws : List Jvm.Cond) (p0 : Int32) (h0 : Heap) (n0 : Nat) (Z0 : n0 ≤ h0.size) :
    MetFree l (⟨"com/example/xrefloom/xrefloom/tree/XmlNames", "isNameStartChar", "(I)Z"⟩ : MethodName) (head1 (Jvm.Cond.code (⟨"com/example/xrefloom/xrefloom/tree/XmlNames", "isNameStartChar", "(I)Z"⟩ : MethodName) prog_41_method_2_code 1 (some .boolean) :: ws) ({ frames := 0, cells := 0, slots := 0, locals := 0 } : Room)) (fun a U => a = #[(.int p0)] ∧ Z.Warmed39 U.vm ∧ U.heap = h0) (fun _ _ _ _ _ => True) (fun _ U o U' => ∃ v L, o = .returned v ∧ (own_Same (.int (F1 p0)) h0 n0) v U'.heap L ∧ FrameEnd U o U' L 0 0) := by
  refine MetFree.of_bodySF (plainFor_of_name pn1) hisR ?_
  intro p e s m args below meth c s₁ Bd hml0 hP hK
  obtain ⟨rfl, hZ, hh⟩ := hP
  have hx := Bd.exec
  have hby := Bd.bytes
  have hml : c.maxLocals = 1 := hml0
  have hown : s.vm.findClass "com/example/xrefloom/xrefloom/tree/XmlNames" = some m.cls := findClass_of_methodNamed Bd.named
  have hnm := (name_of_methodNamed Bd.named Bd.method).1
  have X0 : Stand p l e ({ frames := 0, cells := 0, slots := 0, locals := 0 } : Room) s m #[(.int p0)] below meth c s₁ [] 0 0 := Stand.of_body Bd
  have e0 : s₁.heap = h0 := by rw [← hh, Bd.state]; rfl
  have N0 := Fr.nil n0
  have j179 : ∀ (T : State) (locs : List Loc) (X : Stand p l e ({ frames := 0, cells := 0, slots := 0, locals := 0 } : Room) s m #[(.int p0)] below meth c T locs 0 0) (eT : T.heap = h0) (N : Fr n0 locs), own_Goes p e below (own_End s (own_Same (.int (F1_179 p0)) h0 n0) 0 0) (T.setTop (mkF m 179 #[.val (.int p0)] [])) := by
    intro  T locs X eT N
    refine own_go (G := T.setTop (mkF m 180 #[.val (.int p0)] [(.int p0)])) (fun _ k => XS.iloadN X.here hx rfl (hb hby d1_179) rfl k) ?_
    refine own_go (G := T.setTop (mkF m 182 #[.val (.int p0)] [(.int (65536 : Int32)), (.int p0)])) (X.ldcInt hx hown (mvT hZ (hw _ (List.mem_of_getElem? (i := 6) rfl))) (g := (mkF m 180 #[.val (.int p0)] [(.int p0)])) rfl (hb hby d1_180)) ?_
    show own_Goes p e below (own_End s (own_Same (.int (if p0 < (65536 : Int32) then (0 : Int32) else (if (983039 : Int32) < p0 then (0 : Int32) else (1 : Int32)))) h0 n0) 0 0) _
    by_cases hc182 : p0 < (65536 : Int32)
    · rw [if_pos hc182]
      refine own_go (G := T.setTop (mkF m 195 #[.val (.int p0)] [])) (fun _ k => XS.icmpYes X.here hx rfl (pc0 := 182) (pc' := 195) rfl (hb hby d1_182) rfl (tlt hc182).1 (by decide) (by decide) k) ?_
      refine own_go (G := T.setTop (mkF m 196 #[.val (.int p0)] [(.int (0 : Int32))])) (fun _ k => XS.iconst X.here hx rfl (hb hby d1_195) k) ?_
      exact own_ret0 X hx Bd.returns (hb hby d1_196) Bd.notSynchronized (by decide) (by decide) ⟨rfl, N, eT⟩
    · rw [if_neg hc182]
      refine own_go (G := T.setTop (mkF m 185 #[.val (.int p0)] [])) (fun _ k => XS.icmpNo X.here hx rfl (hb hby d1_182) rfl (flt hc182).1 k) ?_
      refine own_go (G := T.setTop (mkF m 186 #[.val (.int p0)] [(.int p0)])) (fun _ k => XS.iloadN X.here hx rfl (hb hby d1_185) rfl k) ?_
      refine own_go (G := T.setTop (mkF m 188 #[.val (.int p0)] [(.int (983039 : Int32)), (.int p0)])) (X.ldcInt hx hown (mvT hZ (hw _ (List.mem_of_getElem? (i := 24) rfl))) (g := (mkF m 186 #[.val (.int p0)] [(.int p0)])) rfl (hb hby d1_186)) ?_
      show own_Goes p e below (own_End s (own_Same (.int (if (983039 : Int32) < p0 then (0 : Int32) else (1 : Int32))) h0 n0) 0 0) _
      by_cases hc188 : (983039 : Int32) < p0
      · rw [if_pos hc188]
        refine own_go (G := T.setTop (mkF m 195 #[.val (.int p0)] [])) (fun _ k => XS.icmpYes X.here hx rfl (pc0 := 188) (pc' := 195) rfl (hb hby d1_188) rfl (tlt hc188).2.2.1 (by decide) (by decide) k) ?_
        refine own_go (G := T.setTop (mkF m 196 #[.val (.int p0)] [(.int (0 : Int32))])) (fun _ k => XS.iconst X.here hx rfl (hb hby d1_195) k) ?_
        exact own_ret0 X hx Bd.returns (hb hby d1_196) Bd.notSynchronized (by decide) (by decide) ⟨rfl, N, eT⟩
      · rw [if_neg hc188]
        refine own_go (G := T.setTop (mkF m 191 #[.val (.int p0)] [])) (fun _ k => XS.icmpNo X.here hx rfl (hb hby d1_188) rfl (flt hc188).2.2.1 k) ?_
        refine own_go (G := T.setTop (mkF m 192 #[.val (.int p0)] [(.int (1 : Int32))])) (fun _ k => XS.iconst X.here hx rfl (hb hby d1_191) k) ?_
        refine own_go (G := T.setTop (mkF m 196 #[.val (.int p0)] [(.int (1 : Int32))])) (fun _ k => XS.goto X.here hx rfl (pc0 := 192) (pc' := 196) rfl (hb hby d1_192) (by decide) (by decide) k) ?_
        exact own_ret1 X hx Bd.returns (hb hby d1_196) Bd.notSynchronized (by decide) (by decide) ⟨rfl, N, eT⟩
  have j167 : ∀ (T : State) (locs : List Loc) (X : Stand p l e ({ frames := 0, cells := 0, slots := 0, locals := 0 } : Room) s m #[(.int p0)] below meth c T locs 0 0) (eT : T.heap = h0) (N : Fr n0 locs), own_Goes p e below (own_End s (own_Same (.int (F1_167 p0)) h0 n0) 0 0) (T.setTop (mkF m 167 #[.val (.int p0)] [])) := by
    intro  T locs X eT N
    refine own_go (G := T.setTop (mkF m 168 #[.val (.int p0)] [(.int p0)])) (fun _ k => XS.iloadN X.here hx rfl (hb hby d1_167) rfl k) ?_
    refine own_go (G := T.setTop (mkF m 170 #[.val (.int p0)] [(.int (65008 : Int32)), (.int p0)])) (X.ldcInt hx hown (mvT hZ (hw _ (List.mem_of_getElem? (i := 5) rfl))) (g := (mkF m 168 #[.val (.int p0)] [(.int p0)])) rfl (hb hby d1_168)) ?_
    show own_Goes p e below (own_End s (own_Same (.int (if p0 < (65008 : Int32) then (F1_179 p0) else (if (65533 : Int32) < p0 then (F1_179 p0) else (1 : Int32)))) h0 n0) 0 0) _
    by_cases hc170 : p0 < (65008 : Int32)
    · rw [if_pos hc170]
      refine own_go (G := T.setTop (mkF m 179 #[.val (.int p0)] [])) (fun _ k => XS.icmpYes X.here hx rfl (pc0 := 170) (pc' := 179) rfl (hb hby d1_170) rfl (tlt hc170).1 (by decide) (by decide) k) ?_
      exact j179  _ _ X eT N
    · rw [if_neg hc170]
      refine own_go (G := T.setTop (mkF m 173 #[.val (.int p0)] [])) (fun _ k => XS.icmpNo X.here hx rfl (hb hby d1_170) rfl (flt hc170).1 k) ?_
      refine own_go (G := T.setTop (mkF m 174 #[.val (.int p0)] [(.int p0)])) (fun _ k => XS.iloadN X.here hx rfl (hb hby d1_173) rfl k) ?_
      refine own_go (G := T.setTop (mkF m 176 #[.val (.int p0)] [(.int (65533 : Int32)), (.int p0)])) (X.ldcInt hx hown (mvT hZ (hw _ (List.mem_of_getElem? (i := 23) rfl))) (g := (mkF m 174 #[.val (.int p0)] [(.int p0)])) rfl (hb hby d1_174)) ?_
      show own_Goes p e below (own_End s (own_Same (.int (if (65533 : Int32) < p0 then (F1_179 p0) else (1 : Int32))) h0 n0) 0 0) _
      by_cases hc176 : (65533 : Int32) < p0
      · rw [if_pos hc176]
        refine own_go (G := T.setTop (mkF m 179 #[.val (.int p0)] [])) (fun _ k => XS.icmpNo X.here hx rfl (hb hby d1_176) rfl (tlt hc176).2.2.2 k) ?_
        exact j179  _ _ X eT N
      · rw [if_neg hc176]
        refine own_go (G := T.setTop (mkF m 191 #[.val (.int p0)] [])) (fun _ k => XS.icmpYes X.here hx rfl (pc0 := 176) (pc' := 191) rfl (hb hby d1_176) rfl (flt hc176).2.2.2 (by decide) (by decide) k) ?_
        refine own_go (G := T.setTop (mkF m 192 #[.val (.int p0)] [(.int (1 : Int32))])) (fun _ k => XS.iconst X.here hx rfl (hb hby d1_191) k) ?_
        refine own_go (G := T.setTop (mkF m 196 #[.val (.int p0)] [(.int (1 : Int32))])) (fun _ k => XS.goto X.here hx rfl (pc0 := 192) (pc' := 196) rfl (hb hby d1_192) (by decide) (by decide) k) ?_
        exact own_ret1 X hx Bd.returns (hb hby d1_196) Bd.notSynchronized (by decide) (by decide) ⟨rfl, N, eT⟩
  have j155 : ∀ (T : State) (locs : List Loc) (X : Stand p l e ({ frames := 0, cells := 0, slots := 0, locals := 0 } : Room) s m #[(.int p0)] below meth c T locs 0 0) (eT : T.heap = h0) (N : Fr n0 locs), own_Goes p e below (own_End s (own_Same (.int (F1_155 p0)) h0 n0) 0 0) (T.setTop (mkF m 155 #[.val (.int p0)] [])) := by
    intro  T locs X eT N
    refine own_go (G := T.setTop (mkF m 156 #[.val (.int p0)] [(.int p0)])) (fun _ k => XS.iloadN X.here hx rfl (hb hby d1_155) rfl k) ?_
    refine own_go (G := T.setTop (mkF m 158 #[.val (.int p0)] [(.int (63744 : Int32)), (.int p0)])) (X.ldcInt hx hown (mvT hZ (hw _ (List.mem_of_getElem? (i := 4) rfl))) (g := (mkF m 156 #[.val (.int p0)] [(.int p0)])) rfl (hb hby d1_156)) ?_
    show own_Goes p e below (own_End s (own_Same (.int (if p0 < (63744 : Int32) then (F1_167 p0) else (if (64975 : Int32) < p0 then (F1_167 p0) else (1 : Int32)))) h0 n0) 0 0) _
    by_cases hc158 : p0 < (63744 : Int32)
    · rw [if_pos hc158]
      refine own_go (G := T.setTop (mkF m 167 #[.val (.int p0)] [])) (fun _ k => XS.icmpYes X.here hx rfl (pc0 := 158) (pc' := 167) rfl (hb hby d1_158) rfl (tlt hc158).1 (by decide) (by decide) k) ?_
      exact j167  _ _ X eT N
    · rw [if_neg hc158]
      refine own_go (G := T.setTop (mkF m 161 #[.val (.int p0)] [])) (fun _ k => XS.icmpNo X.here hx rfl (hb hby d1_158) rfl (flt hc158).1 k) ?_
      refine own_go (G := T.setTop (mkF m 162 #[.val (.int p0)] [(.int p0)])) (fun _ k => XS.iloadN X.here hx rfl (hb hby d1_161) rfl k) ?_
      refine own_go (G := T.setTop (mkF m 164 #[.val (.int p0)] [(.int (64975 : Int32)), (.int p0)])) (X.ldcInt hx hown (mvT hZ (hw _ (List.mem_of_getElem? (i := 22) rfl))) (g := (mkF m 162 #[.val (.int p0)] [(.int p0)])) rfl (hb hby d1_162)) ?_
      show own_Goes p e below (own_End s (own_Same (.int (if (64975 : Int32) < p0 then (F1_167 p0) else (1 : Int32))) h0 n0) 0 0) _
      by_cases hc164 : (64975 : Int32) < p0
      · rw [if_pos hc164]
        refine own_go (G := T.setTop (mkF m 167 #[.val (.int p0)] [])) (fun _ k => XS.icmpNo X.here hx rfl (hb hby d1_164) rfl (tlt hc164).2.2.2 k) ?_
        exact j167  _ _ X eT N
      · rw [if_neg hc164]
        refine own_go (G := T.setTop (mkF m 191 #[.val (.int p0)] [])) (fun _ k => XS.icmpYes X.here hx rfl (pc0 := 164) (pc' := 191) rfl (hb hby d1_164) rfl (flt hc164).2.2.2 (by decide) (by decide) k) ?_
        refine own_go (G := T.setTop (mkF m 192 #[.val (.int p0)] [(.int (1 : Int32))])) (fun _ k => XS.iconst X.here hx rfl (hb hby d1_191) k) ?_
        refine own_go (G := T.setTop (mkF m 196 #[.val (.int p0)] [(.int (1 : Int32))])) (fun _ k => XS.goto X.here hx rfl (pc0 := 192) (pc' := 196) rfl (hb hby d1_192) (by decide) (by decide) k) ?_
        exact own_ret1 X hx Bd.returns (hb hby d1_196) Bd.notSynchronized (by decide) (by decide) ⟨rfl, N, eT⟩
  have j142 : ∀ (T : State) (locs : List Loc) (X : Stand p l e ({ frames := 0, cells := 0, slots := 0, locals := 0 } : Room) s m #[(.int p0)] below meth c T locs 0 0) (eT : T.heap = h0) (N : Fr n0 locs), own_Goes p e below (own_End s (own_Same (.int (F1_142 p0)) h0 n0) 0 0) (T.setTop (mkF m 142 #[.val (.int p0)] [])) := by
    intro  T locs X eT N
    refine own_go (G := T.setTop (mkF m 143 #[.val (.int p0)] [(.int p0)])) (fun _ k => XS.iloadN X.here hx rfl (hb hby d1_142) rfl k) ?_
    refine own_go (G := T.setTop (mkF m 146 #[.val (.int p0)] [(.int (12289 : Int32)), (.int p0)])) (fun _ k => XS.sipush X.here hx rfl (hb hby d1_143) k) ?_
    show own_Goes p e below (own_End s (own_Same (.int (if p0 < (12289 : Int32) then (F1_155 p0) else (if (55295 : Int32) < p0 then (F1_155 p0) else (1 : Int32)))) h0 n0) 0 0) _
    by_cases hc146 : p0 < (12289 : Int32)
    · rw [if_pos hc146]
      refine own_go (G := T.setTop (mkF m 155 #[.val (.int p0)] [])) (fun _ k => XS.icmpYes X.here hx rfl (pc0 := 146) (pc' := 155) rfl (hb hby d1_146) rfl (tlt hc146).1 (by decide) (by decide) k) ?_
      exact j155  _ _ X eT N
    · rw [if_neg hc146]
      refine own_go (G := T.setTop (mkF m 149 #[.val (.int p0)] [])) (fun _ k => XS.icmpNo X.here hx rfl (hb hby d1_146) rfl (flt hc146).1 k) ?_
      refine own_go (G := T.setTop (mkF m 150 #[.val (.int p0)] [(.int p0)])) (fun _ k => XS.iloadN X.here hx rfl (hb hby d1_149) rfl k) ?_
      refine own_go (G := T.setTop (mkF m 152 #[.val (.int p0)] [(.int (55295 : Int32)), (.int p0)])) (X.ldcInt hx hown (mvT hZ (hw _ (List.mem_of_getElem? (i := 21) rfl))) (g := (mkF m 150 #[.val (.int p0)] [(.int p0)])) rfl (hb hby d1_150)) ?_
      show own_Goes p e below (own_End s (own_Same (.int (if (55295 : Int32) < p0 then (F1_155 p0) else (1 : Int32))) h0 n0) 0 0) _
      by_cases hc152 : (55295 : Int32) < p0
      · rw [if_pos hc152]
        refine own_go (G := T.setTop (mkF m 155 #[.val (.int p0)] [])) (fun _ k => XS.icmpNo X.here hx rfl (hb hby d1_152) rfl (tlt hc152).2.2.2 k) ?_
        exact j155  _ _ X eT N
      · rw [if_neg hc152]
        refine own_go (G := T.setTop (mkF m 191 #[.val (.int p0)] [])) (fun _ k => XS.icmpYes X.here hx rfl (pc0 := 152) (pc' := 191) rfl (hb hby d1_152) rfl (flt hc152).2.2.2 (by decide) (by decide) k) ?_
        refine own_go (G := T.setTop (mkF m 192 #[.val (.int p0)] [(.int (1 : Int32))])) (fun _ k => XS.iconst X.here hx rfl (hb hby d1_191) k) ?_
        refine own_go (G := T.setTop (mkF m 196 #[.val (.int p0)] [(.int (1 : Int32))])) (fun _ k => XS.goto X.here hx rfl (pc0 := 192) (pc' := 196) rfl (hb hby d1_192) (by decide) (by decide) k) ?_
        exact own_ret1 X hx Bd.returns (hb hby d1_196) Bd.notSynchronized (by decide) (by decide) ⟨rfl, N, eT⟩
  have j128 : ∀ (T : State) (locs : List Loc) (X : Stand p l e ({ frames := 0, cells := 0, slots := 0, locals := 0 } : Room) s m #[(.int p0)] below meth c T locs 0 0) (eT : T.heap = h0) (N : Fr n0 locs), own_Goes p e below (own_End s (own_Same (.int (F1_128 p0)) h0 n0) 0 0) (T.setTop (mkF m 128 #[.val (.int p0)] [])) := by
    intro  T locs X eT N
    refine own_go (G := T.setTop (mkF m 129 #[.val (.int p0)] [(.int p0)])) (fun _ k => XS.iloadN X.here hx rfl (hb hby d1_128) rfl k) ?_
    refine own_go (G := T.setTop (mkF m 132 #[.val (.int p0)] [(.int (11264 : Int32)), (.int p0)])) (fun _ k => XS.sipush X.here hx rfl (hb hby d1_129) k) ?_
    show own_Goes p e below (own_End s (own_Same (.int (if p0 < (11264 : Int32) then (F1_142 p0) else (if (12271 : Int32) < p0 then (F1_142 p0) else (1 : Int32)))) h0 n0) 0 0) _
    by_cases hc132 : p0 < (11264 : Int32)
    · rw [if_pos hc132]
      refine own_go (G := T.setTop (mkF m 142 #[.val (.int p0)] [])) (fun _ k => XS.icmpYes X.here hx rfl (pc0 := 132) (pc' := 142) rfl (hb hby d1_132) rfl (tlt hc132).1 (by decide) (by decide) k) ?_
      exact j142  _ _ X eT N
    · rw [if_neg hc132]
      refine own_go (G := T.setTop (mkF m 135 #[.val (.int p0)] [])) (fun _ k => XS.icmpNo X.here hx rfl (hb hby d1_132) rfl (flt hc132).1 k) ?_
      refine own_go (G := T.setTop (mkF m 136 #[.val (.int p0)] [(.int p0)])) (fun _ k => XS.iloadN X.here hx rfl (hb hby d1_135) rfl k) ?_
      refine own_go (G := T.setTop (mkF m 139 #[.val (.int p0)] [(.int (12271 : Int32)), (.int p0)])) (fun _ k => XS.sipush X.here hx rfl (hb hby d1_136) k) ?_
      show own_Goes p e below (own_End s (own_Same (.int (if (12271 : Int32) < p0 then (F1_142 p0) else (1 : Int32))) h0 n0) 0 0) _
      by_cases hc139 : (12271 : Int32) < p0
      · rw [if_pos hc139]
        refine own_go (G := T.setTop (mkF m 142 #[.val (.int p0)] [])) (fun _ k => XS.icmpNo X.here hx rfl (hb hby d1_139) rfl (tlt hc139).2.2.2 k) ?_
        exact j142  _ _ X eT N
      · rw [if_neg hc139]
        refine own_go (G := T.setTop (mkF m 191 #[.val (.int p0)] [])) (fun _ k => XS.icmpYes X.here hx rfl (pc0 := 139) (pc' := 191) rfl (hb hby d1_139) rfl (flt hc139).2.2.2 (by decide) (by decide) k) ?_
        refine own_go (G := T.setTop (mkF m 192 #[.val (.int p0)] [(.int (1 : Int32))])) (fun _ k => XS.iconst X.here hx rfl (hb hby d1_191) k) ?_
        refine own_go (G := T.setTop (mkF m 196 #[.val (.int p0)] [(.int (1 : Int32))])) (fun _ k => XS.goto X.here hx rfl (pc0 := 192) (pc' := 196) rfl (hb hby d1_192) (by decide) (by decide) k) ?_
        exact own_ret1 X hx Bd.returns (hb hby d1_196) Bd.notSynchronized (by decide) (by decide) ⟨rfl, N, eT⟩
  have j114 : ∀ (T : State) (locs : List Loc) (X : Stand p l e ({ frames := 0, cells := 0, slots := 0, locals := 0 } : Room) s m #[(.int p0)] below meth c T locs 0 0) (eT : T.heap = h0) (N : Fr n0 locs), own_Goes p e below (own_End s (own_Same (.int (F1_114 p0)) h0 n0) 0 0) (T.setTop (mkF m 114 #[.val (.int p0)] [])) := by
    intro  T locs X eT N
    refine own_go (G := T.setTop (mkF m 115 #[.val (.int p0)] [(.int p0)])) (fun _ k => XS.iloadN X.here hx rfl (hb hby d1_114) rfl k) ?_
    refine own_go (G := T.setTop (mkF m 118 #[.val (.int p0)] [(.int (8304 : Int32)), (.int p0)])) (fun _ k => XS.sipush X.here hx rfl (hb hby d1_115) k) ?_
    show own_Goes p e below (own_End s (own_Same (.int (if p0 < (8304 : Int32) then (F1_128 p0) else (if (8591 : Int32) < p0 then (F1_128 p0) else (1 : Int32)))) h0 n0) 0 0) _
    by_cases hc118 : p0 < (8304 : Int32)
    · rw [if_pos hc118]
      refine own_go (G := T.setTop (mkF m 128 #[.val (.int p0)] [])) (fun _ k => XS.icmpYes X.here hx rfl (pc0 := 118) (pc' := 128) rfl (hb hby d1_118) rfl (tlt hc118).1 (by decide) (by decide) k) ?_
      exact j128  _ _ X eT N
    · rw [if_neg hc118]
      refine own_go (G := T.setTop (mkF m 121 #[.val (.int p0)] [])) (fun _ k => XS.icmpNo X.here hx rfl (hb hby d1_118) rfl (flt hc118).1 k) ?_
      refine own_go (G := T.setTop (mkF m 122 #[.val (.int p0)] [(.int p0)])) (fun _ k => XS.iloadN X.here hx rfl (hb hby d1_121) rfl k) ?_
      refine own_go (G := T.setTop (mkF m 125 #[.val (.int p0)] [(.int (8591 : Int32)), (.int p0)])) (fun _ k => XS.sipush X.here hx rfl (hb hby d1_122) k) ?_
      show own_Goes p e below (own_End s (own_Same (.int (if (8591 : Int32) < p0 then (F1_128 p0) else (1 : Int32))) h0 n0) 0 0) _
      by_cases hc125 : (8591 : Int32) < p0
      · rw [if_pos hc125]
        refine own_go (G := T.setTop (mkF m 128 #[.val (.int p0)] [])) (fun _ k => XS.icmpNo X.here hx rfl (hb hby d1_125) rfl (tlt hc125).2.2.2 k) ?_
        exact j128  _ _ X eT N
      · rw [if_neg hc125]
        refine own_go (G := T.setTop (mkF m 191 #[.val (.int p0)] [])) (fun _ k => XS.icmpYes X.here hx rfl (pc0 := 125) (pc' := 191) rfl (hb hby d1_125) rfl (flt hc125).2.2.2 (by decide) (by decide) k) ?_
        refine own_go (G := T.setTop (mkF m 192 #[.val (.int p0)] [(.int (1 : Int32))])) (fun _ k => XS.iconst X.here hx rfl (hb hby d1_191) k) ?_
        refine own_go (G := T.setTop (mkF m 196 #[.val (.int p0)] [(.int (1 : Int32))])) (fun _ k => XS.goto X.here hx rfl (pc0 := 192) (pc' := 196) rfl (hb hby d1_192) (by decide) (by decide) k) ?_
        exact own_ret1 X hx Bd.returns (hb hby d1_196) Bd.notSynchronized (by decide) (by decide) ⟨rfl, N, eT⟩
  have j100 : ∀ (T : State) (locs : List Loc) (X : Stand p l e ({ frames := 0, cells := 0, slots := 0, locals := 0 } : Room) s m #[(.int p0)] below meth c T locs 0 0) (eT : T.heap = h0) (N : Fr n0 locs), own_Goes p e below (own_End s (own_Same (.int (F1_100 p0)) h0 n0) 0 0) (T.setTop (mkF m 100 #[.val (.int p0)] [])) := by
    intro  T locs X eT N
    refine own_go (G := T.setTop (mkF m 101 #[.val (.int p0)] [(.int p0)])) (fun _ k => XS.iloadN X.here hx rfl (hb hby d1_100) rfl k) ?_
    refine own_go (G := T.setTop (mkF m 104 #[.val (.int p0)] [(.int (8204 : Int32)), (.int p0)])) (fun _ k => XS.sipush X.here hx rfl (hb hby d1_101) k) ?_
    show own_Goes p e below (own_End s (own_Same (.int (if p0 < (8204 : Int32) then (F1_114 p0) else (if (8205 : Int32) < p0 then (F1_114 p0) else (1 : Int32)))) h0 n0) 0 0) _
    by_cases hc104 : p0 < (8204 : Int32)
    · rw [if_pos hc104]
      refine own_go (G := T.setTop (mkF m 114 #[.val (.int p0)] [])) (fun _ k => XS.icmpYes X.here hx rfl (pc0 := 104) (pc' := 114) rfl (hb hby d1_104) rfl (tlt hc104).1 (by decide) (by decide) k) ?_
      exact j114  _ _ X eT N
    · rw [if_neg hc104]
      refine own_go (G := T.setTop (mkF m 107 #[.val (.int p0)] [])) (fun _ k => XS.icmpNo X.here hx rfl (hb hby d1_104) rfl (flt hc104).1 k) ?_
      refine own_go (G := T.setTop (mkF m 108 #[.val (.int p0)] [(.int p0)])) (fun _ k => XS.iloadN X.here hx rfl (hb hby d1_107) rfl k) ?_
      refine own_go (G := T.setTop (mkF m 111 #[.val (.int p0)] [(.int (8205 : Int32)), (.int p0)])) (fun _ k => XS.sipush X.here hx rfl (hb hby d1_108) k) ?_
      show own_Goes p e below (own_End s (own_Same (.int (if (8205 : Int32) < p0 then (F1_114 p0) else (1 : Int32))) h0 n0) 0 0) _
      by_cases hc111 : (8205 : Int32) < p0
      · rw [if_pos hc111]
        refine own_go (G := T.setTop (mkF m 114 #[.val (.int p0)] [])) (fun _ k => XS.icmpNo X.here hx rfl (hb hby d1_111) rfl (tlt hc111).2.2.2 k) ?_
        exact j114  _ _ X eT N
      · rw [if_neg hc111]
        refine own_go (G := T.setTop (mkF m 191 #[.val (.int p0)] [])) (fun _ k => XS.icmpYes X.here hx rfl (pc0 := 111) (pc' := 191) rfl (hb hby d1_111) rfl (flt hc111).2.2.2 (by decide) (by decide) k) ?_
        refine own_go (G := T.setTop (mkF m 192 #[.val (.int p0)] [(.int (1 : Int32))])) (fun _ k => XS.iconst X.here hx rfl (hb hby d1_191) k) ?_
        refine own_go (G := T.setTop (mkF m 196 #[.val (.int p0)] [(.int (1 : Int32))])) (fun _ k => XS.goto X.here hx rfl (pc0 := 192) (pc' := 196) rfl (hb hby d1_192) (by decide) (by decide) k) ?_
        exact own_ret1 X hx Bd.returns (hb hby d1_196) Bd.notSynchronized (by decide) (by decide) ⟨rfl, N, eT⟩
  have j86 : ∀ (T : State) (locs : List Loc) (X : Stand p l e ({ frames := 0, cells := 0, slots := 0, locals := 0 } : Room) s m #[(.int p0)] below meth c T locs 0 0) (eT : T.heap = h0) (N : Fr n0 locs), own_Goes p e below (own_End s (own_Same (.int (F1_86 p0)) h0 n0) 0 0) (T.setTop (mkF m 86 #[.val (.int p0)] [])) := by
    intro  T locs X eT N
    refine own_go (G := T.setTop (mkF m 87 #[.val (.int p0)] [(.int p0)])) (fun _ k => XS.iloadN X.here hx rfl (hb hby d1_86) rfl k) ?_
    refine own_go (G := T.setTop (mkF m 90 #[.val (.int p0)] [(.int (895 : Int32)), (.int p0)])) (fun _ k => XS.sipush X.here hx rfl (hb hby d1_87) k) ?_
    show own_Goes p e below (own_End s (own_Same (.int (if p0 < (895 : Int32) then (F1_100 p0) else (if (8191 : Int32) < p0 then (F1_100 p0) else (1 : Int32)))) h0 n0) 0 0) _
    by_cases hc90 : p0 < (895 : Int32)
    · rw [if_pos hc90]
      refine own_go (G := T.setTop (mkF m 100 #[.val (.int p0)] [])) (fun _ k => XS.icmpYes X.here hx rfl (pc0 := 90) (pc' := 100) rfl (hb hby d1_90) rfl (tlt hc90).1 (by decide) (by decide) k) ?_
      exact j100  _ _ X eT N
    · rw [if_neg hc90]
      refine own_go (G := T.setTop (mkF m 93 #[.val (.int p0)] [])) (fun _ k => XS.icmpNo X.here hx rfl (hb hby d1_90) rfl (flt hc90).1 k) ?_
      refine own_go (G := T.setTop (mkF m 94 #[.val (.int p0)] [(.int p0)])) (fun _ k => XS.iloadN X.here hx rfl (hb hby d1_93) rfl k) ?_
      refine own_go (G := T.setTop (mkF m 97 #[.val (.int p0)] [(.int (8191 : Int32)), (.int p0)])) (fun _ k => XS.sipush X.here hx rfl (hb hby d1_94) k) ?_
      show own_Goes p e below (own_End s (own_Same (.int (if (8191 : Int32) < p0 then (F1_100 p0) else (1 : Int32))) h0 n0) 0 0) _
      by_cases hc97 : (8191 : Int32) < p0
      · rw [if_pos hc97]
        refine own_go (G := T.setTop (mkF m 100 #[.val (.int p0)] [])) (fun _ k => XS.icmpNo X.here hx rfl (hb hby d1_97) rfl (tlt hc97).2.2.2 k) ?_
        exact j100  _ _ X eT N
      · rw [if_neg hc97]
        refine own_go (G := T.setTop (mkF m 191 #[.val (.int p0)] [])) (fun _ k => XS.icmpYes X.here hx rfl (pc0 := 97) (pc' := 191) rfl (hb hby d1_97) rfl (flt hc97).2.2.2 (by decide) (by decide) k) ?_
        refine own_go (G := T.setTop (mkF m 192 #[.val (.int p0)] [(.int (1 : Int32))])) (fun _ k => XS.iconst X.here hx rfl (hb hby d1_191) k) ?_
        refine own_go (G := T.setTop (mkF m 196 #[.val (.int p0)] [(.int (1 : Int32))])) (fun _ k => XS.goto X.here hx rfl (pc0 := 192) (pc' := 196) rfl (hb hby d1_192) (by decide) (by decide) k) ?_
        exact own_ret1 X hx Bd.returns (hb hby d1_196) Bd.notSynchronized (by decide) (by decide) ⟨rfl, N, eT⟩
  have j72 : ∀ (T : State) (locs : List Loc) (X : Stand p l e ({ frames := 0, cells := 0, slots := 0, locals := 0 } : Room) s m #[(.int p0)] below meth c T locs 0 0) (eT : T.heap = h0) (N : Fr n0 locs), own_Goes p e below (own_End s (own_Same (.int (F1_72 p0)) h0 n0) 0 0) (T.setTop (mkF m 72 #[.val (.int p0)] [])) := by
    intro  T locs X eT N
    refine own_go (G := T.setTop (mkF m 73 #[.val (.int p0)] [(.int p0)])) (fun _ k => XS.iloadN X.here hx rfl (hb hby d1_72) rfl k) ?_
    refine own_go (G := T.setTop (mkF m 76 #[.val (.int p0)] [(.int (880 : Int32)), (.int p0)])) (fun _ k => XS.sipush X.here hx rfl (hb hby d1_73) k) ?_
    show own_Goes p e below (own_End s (own_Same (.int (if p0 < (880 : Int32) then (F1_86 p0) else (if (893 : Int32) < p0 then (F1_86 p0) else (1 : Int32)))) h0 n0) 0 0) _
    by_cases hc76 : p0 < (880 : Int32)
    · rw [if_pos hc76]
      refine own_go (G := T.setTop (mkF m 86 #[.val (.int p0)] [])) (fun _ k => XS.icmpYes X.here hx rfl (pc0 := 76) (pc' := 86) rfl (hb hby d1_76) rfl (tlt hc76).1 (by decide) (by decide) k) ?_
      exact j86  _ _ X eT N
    · rw [if_neg hc76]
      refine own_go (G := T.setTop (mkF m 79 #[.val (.int p0)] [])) (fun _ k => XS.icmpNo X.here hx rfl (hb hby d1_76) rfl (flt hc76).1 k) ?_
      refine own_go (G := T.setTop (mkF m 80 #[.val (.int p0)] [(.int p0)])) (fun _ k => XS.iloadN X.here hx rfl (hb hby d1_79) rfl k) ?_
      refine own_go (G := T.setTop (mkF m 83 #[.val (.int p0)] [(.int (893 : Int32)), (.int p0)])) (fun _ k => XS.sipush X.here hx rfl (hb hby d1_80) k) ?_
      show own_Goes p e below (own_End s (own_Same (.int (if (893 : Int32) < p0 then (F1_86 p0) else (1 : Int32))) h0 n0) 0 0) _
      by_cases hc83 : (893 : Int32) < p0
      · rw [if_pos hc83]
        refine own_go (G := T.setTop (mkF m 86 #[.val (.int p0)] [])) (fun _ k => XS.icmpNo X.here hx rfl (hb hby d1_83) rfl (tlt hc83).2.2.2 k) ?_
        exact j86  _ _ X eT N
      · rw [if_neg hc83]
        refine own_go (G := T.setTop (mkF m 191 #[.val (.int p0)] [])) (fun _ k => XS.icmpYes X.here hx rfl (pc0 := 83) (pc' := 191) rfl (hb hby d1_83) rfl (flt hc83).2.2.2 (by decide) (by decide) k) ?_
        refine own_go (G := T.setTop (mkF m 192 #[.val (.int p0)] [(.int (1 : Int32))])) (fun _ k => XS.iconst X.here hx rfl (hb hby d1_191) k) ?_
        refine own_go (G := T.setTop (mkF m 196 #[.val (.int p0)] [(.int (1 : Int32))])) (fun _ k => XS.goto X.here hx rfl (pc0 := 192) (pc' := 196) rfl (hb hby d1_192) (by decide) (by decide) k) ?_
        exact own_ret1 X hx Bd.returns (hb hby d1_196) Bd.notSynchronized (by decide) (by decide) ⟨rfl, N, eT⟩
  have j58 : ∀ (T : State) (locs : List Loc) (X : Stand p l e ({ frames := 0, cells := 0, slots := 0, locals := 0 } : Room) s m #[(.int p0)] below meth c T locs 0 0) (eT : T.heap = h0) (N : Fr n0 locs), own_Goes p e below (own_End s (own_Same (.int (F1_58 p0)) h0 n0) 0 0) (T.setTop (mkF m 58 #[.val (.int p0)] [])) := by
    intro  T locs X eT N
    refine own_go (G := T.setTop (mkF m 59 #[.val (.int p0)] [(.int p0)])) (fun _ k => XS.iloadN X.here hx rfl (hb hby d1_58) rfl k) ?_
    refine own_go (G := T.setTop (mkF m 62 #[.val (.int p0)] [(.int (248 : Int32)), (.int p0)])) (fun _ k => XS.sipush X.here hx rfl (hb hby d1_59) k) ?_
    show own_Goes p e below (own_End s (own_Same (.int (if p0 < (248 : Int32) then (F1_72 p0) else (if (767 : Int32) < p0 then (F1_72 p0) else (1 : Int32)))) h0 n0) 0 0) _
    by_cases hc62 : p0 < (248 : Int32)
    · rw [if_pos hc62]
      refine own_go (G := T.setTop (mkF m 72 #[.val (.int p0)] [])) (fun _ k => XS.icmpYes X.here hx rfl (pc0 := 62) (pc' := 72) rfl (hb hby d1_62) rfl (tlt hc62).1 (by decide) (by decide) k) ?_
      exact j72  _ _ X eT N
    · rw [if_neg hc62]
      refine own_go (G := T.setTop (mkF m 65 #[.val (.int p0)] [])) (fun _ k => XS.icmpNo X.here hx rfl (hb hby d1_62) rfl (flt hc62).1 k) ?_
      refine own_go (G := T.setTop (mkF m 66 #[.val (.int p0)] [(.int p0)])) (fun _ k => XS.iloadN X.here hx rfl (hb hby d1_65) rfl k) ?_
      refine own_go (G := T.setTop (mkF m 69 #[.val (.int p0)] [(.int (767 : Int32)), (.int p0)])) (fun _ k => XS.sipush X.here hx rfl (hb hby d1_66) k) ?_
      show own_Goes p e below (own_End s (own_Same (.int (if (767 : Int32) < p0 then (F1_72 p0) else (1 : Int32))) h0 n0) 0 0) _
      by_cases hc69 : (767 : Int32) < p0
      · rw [if_pos hc69]
        refine own_go (G := T.setTop (mkF m 72 #[.val (.int p0)] [])) (fun _ k => XS.icmpNo X.here hx rfl (hb hby d1_69) rfl (tlt hc69).2.2.2 k) ?_
        exact j72  _ _ X eT N
      · rw [if_neg hc69]
        refine own_go (G := T.setTop (mkF m 191 #[.val (.int p0)] [])) (fun _ k => XS.icmpYes X.here hx rfl (pc0 := 69) (pc' := 191) rfl (hb hby d1_69) rfl (flt hc69).2.2.2 (by decide) (by decide) k) ?_
        refine own_go (G := T.setTop (mkF m 192 #[.val (.int p0)] [(.int (1 : Int32))])) (fun _ k => XS.iconst X.here hx rfl (hb hby d1_191) k) ?_
        refine own_go (G := T.setTop (mkF m 196 #[.val (.int p0)] [(.int (1 : Int32))])) (fun _ k => XS.goto X.here hx rfl (pc0 := 192) (pc' := 196) rfl (hb hby d1_192) (by decide) (by decide) k) ?_
        exact own_ret1 X hx Bd.returns (hb hby d1_196) Bd.notSynchronized (by decide) (by decide) ⟨rfl, N, eT⟩
  have j44 : ∀ (T : State) (locs : List Loc) (X : Stand p l e ({ frames := 0, cells := 0, slots := 0, locals := 0 } : Room) s m #[(.int p0)] below meth c T locs 0 0) (eT : T.heap = h0) (N : Fr n0 locs), own_Goes p e below (own_End s (own_Same (.int (F1_44 p0)) h0 n0) 0 0) (T.setTop (mkF m 44 #[.val (.int p0)] [])) := by
    intro  T locs X eT N
    refine own_go (G := T.setTop (mkF m 45 #[.val (.int p0)] [(.int p0)])) (fun _ k => XS.iloadN X.here hx rfl (hb hby d1_44) rfl k) ?_
    refine own_go (G := T.setTop (mkF m 48 #[.val (.int p0)] [(.int (216 : Int32)), (.int p0)])) (fun _ k => XS.sipush X.here hx rfl (hb hby d1_45) k) ?_
    show own_Goes p e below (own_End s (own_Same (.int (if p0 < (216 : Int32) then (F1_58 p0) else (if (246 : Int32) < p0 then (F1_58 p0) else (1 : Int32)))) h0 n0) 0 0) _
    by_cases hc48 : p0 < (216 : Int32)
    · rw [if_pos hc48]
      refine own_go (G := T.setTop (mkF m 58 #[.val (.int p0)] [])) (fun _ k => XS.icmpYes X.here hx rfl (pc0 := 48) (pc' := 58) rfl (hb hby d1_48) rfl (tlt hc48).1 (by decide) (by decide) k) ?_
      exact j58  _ _ X eT N
    · rw [if_neg hc48]
      refine own_go (G := T.setTop (mkF m 51 #[.val (.int p0)] [])) (fun _ k => XS.icmpNo X.here hx rfl (hb hby d1_48) rfl (flt hc48).1 k) ?_
      refine own_go (G := T.setTop (mkF m 52 #[.val (.int p0)] [(.int p0)])) (fun _ k => XS.iloadN X.here hx rfl (hb hby d1_51) rfl k) ?_
      refine own_go (G := T.setTop (mkF m 55 #[.val (.int p0)] [(.int (246 : Int32)), (.int p0)])) (fun _ k => XS.sipush X.here hx rfl (hb hby d1_52) k) ?_
      show own_Goes p e below (own_End s (own_Same (.int (if (246 : Int32) < p0 then (F1_58 p0) else (1 : Int32))) h0 n0) 0 0) _
      by_cases hc55 : (246 : Int32) < p0
      · rw [if_pos hc55]
        refine own_go (G := T.setTop (mkF m 58 #[.val (.int p0)] [])) (fun _ k => XS.icmpNo X.here hx rfl (hb hby d1_55) rfl (tlt hc55).2.2.2 k) ?_
        exact j58  _ _ X eT N
      · rw [if_neg hc55]
        refine own_go (G := T.setTop (mkF m 191 #[.val (.int p0)] [])) (fun _ k => XS.icmpYes X.here hx rfl (pc0 := 55) (pc' := 191) rfl (hb hby d1_55) rfl (flt hc55).2.2.2 (by decide) (by decide) k) ?_
        refine own_go (G := T.setTop (mkF m 192 #[.val (.int p0)] [(.int (1 : Int32))])) (fun _ k => XS.iconst X.here hx rfl (hb hby d1_191) k) ?_
        refine own_go (G := T.setTop (mkF m 196 #[.val (.int p0)] [(.int (1 : Int32))])) (fun _ k => XS.goto X.here hx rfl (pc0 := 192) (pc' := 196) rfl (hb hby d1_192) (by decide) (by decide) k) ?_
        exact own_ret1 X hx Bd.returns (hb hby d1_196) Bd.notSynchronized (by decide) (by decide) ⟨rfl, N, eT⟩
  have j24 : ∀ (T : State) (locs : List Loc) (X : Stand p l e ({ frames := 0, cells := 0, slots := 0, locals := 0 } : Room) s m #[(.int p0)] below meth c T locs 0 0) (eT : T.heap = h0) (N : Fr n0 locs), own_Goes p e below (own_End s (own_Same (.int (F1_24 p0)) h0 n0) 0 0) (T.setTop (mkF m 24 #[.val (.int p0)] [])) := by
    intro  T locs X eT N
    refine own_go (G := T.setTop (mkF m 25 #[.val (.int p0)] [(.int p0)])) (fun _ k => XS.iloadN X.here hx rfl (hb hby d1_24) rfl k) ?_
    refine own_go (G := T.setTop (mkF m 27 #[.val (.int p0)] [(.int (95 : Int32)), (.int p0)])) (fun _ k => XS.bipush X.here hx rfl (hb hby d1_25) k) ?_
    show own_Goes p e below (own_End s (own_Same (.int (if p0 = (95 : Int32) then (1 : Int32) else (if p0 < (192 : Int32) then (F1_44 p0) else (if (214 : Int32) < p0 then (F1_44 p0) else (1 : Int32))))) h0 n0) 0 0) _
    by_cases hc27 : p0 = (95 : Int32)
    · rw [if_pos hc27]
      refine own_go (G := T.setTop (mkF m 191 #[.val (.int p0)] [])) (fun _ k => XS.icmpYes X.here hx rfl (pc0 := 27) (pc' := 191) rfl (hb hby d1_27) rfl (teq hc27).1 (by decide) (by decide) k) ?_
      refine own_go (G := T.setTop (mkF m 192 #[.val (.int p0)] [(.int (1 : Int32))])) (fun _ k => XS.iconst X.here hx rfl (hb hby d1_191) k) ?_
      refine own_go (G := T.setTop (mkF m 196 #[.val (.int p0)] [(.int (1 : Int32))])) (fun _ k => XS.goto X.here hx rfl (pc0 := 192) (pc' := 196) rfl (hb hby d1_192) (by decide) (by decide) k) ?_
      exact own_ret1 X hx Bd.returns (hb hby d1_196) Bd.notSynchronized (by decide) (by decide) ⟨rfl, N, eT⟩
    · rw [if_neg hc27]
      refine own_go (G := T.setTop (mkF m 30 #[.val (.int p0)] [])) (fun _ k => XS.icmpNo X.here hx rfl (hb hby d1_27) rfl (feq hc27).1 k) ?_
      refine own_go (G := T.setTop (mkF m 31 #[.val (.int p0)] [(.int p0)])) (fun _ k => XS.iloadN X.here hx rfl (hb hby d1_30) rfl k) ?_
      refine own_go (G := T.setTop (mkF m 34 #[.val (.int p0)] [(.int (192 : Int32)), (.int p0)])) (fun _ k => XS.sipush X.here hx rfl (hb hby d1_31) k) ?_
      show own_Goes p e below (own_End s (own_Same (.int (if p0 < (192 : Int32) then (F1_44 p0) else (if (214 : Int32) < p0 then (F1_44 p0) else (1 : Int32)))) h0 n0) 0 0) _
      by_cases hc34 : p0 < (192 : Int32)
      · rw [if_pos hc34]
        refine own_go (G := T.setTop (mkF m 44 #[.val (.int p0)] [])) (fun _ k => XS.icmpYes X.here hx rfl (pc0 := 34) (pc' := 44) rfl (hb hby d1_34) rfl (tlt hc34).1 (by decide) (by decide) k) ?_
        exact j44  _ _ X eT N
      · rw [if_neg hc34]
        refine own_go (G := T.setTop (mkF m 37 #[.val (.int p0)] [])) (fun _ k => XS.icmpNo X.here hx rfl (hb hby d1_34) rfl (flt hc34).1 k) ?_
        refine own_go (G := T.setTop (mkF m 38 #[.val (.int p0)] [(.int p0)])) (fun _ k => XS.iloadN X.here hx rfl (hb hby d1_37) rfl k) ?_
        refine own_go (G := T.setTop (mkF m 41 #[.val (.int p0)] [(.int (214 : Int32)), (.int p0)])) (fun _ k => XS.sipush X.here hx rfl (hb hby d1_38) k) ?_
        show own_Goes p e below (own_End s (own_Same (.int (if (214 : Int32) < p0 then (F1_44 p0) else (1 : Int32))) h0 n0) 0 0) _
        by_cases hc41 : (214 : Int32) < p0
        · rw [if_pos hc41]
          refine own_go (G := T.setTop (mkF m 44 #[.val (.int p0)] [])) (fun _ k => XS.icmpNo X.here hx rfl (hb hby d1_41) rfl (tlt hc41).2.2.2 k) ?_
          exact j44  _ _ X eT N
        · rw [if_neg hc41]
          refine own_go (G := T.setTop (mkF m 191 #[.val (.int p0)] [])) (fun _ k => XS.icmpYes X.here hx rfl (pc0 := 41) (pc' := 191) rfl (hb hby d1_41) rfl (flt hc41).2.2.2 (by decide) (by decide) k) ?_
          refine own_go (G := T.setTop (mkF m 192 #[.val (.int p0)] [(.int (1 : Int32))])) (fun _ k => XS.iconst X.here hx rfl (hb hby d1_191) k) ?_
          refine own_go (G := T.setTop (mkF m 196 #[.val (.int p0)] [(.int (1 : Int32))])) (fun _ k => XS.goto X.here hx rfl (pc0 := 192) (pc' := 196) rfl (hb hby d1_192) (by decide) (by decide) k) ?_
          exact own_ret1 X hx Bd.returns (hb hby d1_196) Bd.notSynchronized (by decide) (by decide) ⟨rfl, N, eT⟩
  have j12 : ∀ (T : State) (locs : List Loc) (X : Stand p l e ({ frames := 0, cells := 0, slots := 0, locals := 0 } : Room) s m #[(.int p0)] below meth c T locs 0 0) (eT : T.heap = h0) (N : Fr n0 locs), own_Goes p e below (own_End s (own_Same (.int (F1_12 p0)) h0 n0) 0 0) (T.setTop (mkF m 12 #[.val (.int p0)] [])) := by
    intro  T locs X eT N
    refine own_go (G := T.setTop (mkF m 13 #[.val (.int p0)] [(.int p0)])) (fun _ k => XS.iloadN X.here hx rfl (hb hby d1_12) rfl k) ?_
    refine own_go (G := T.setTop (mkF m 15 #[.val (.int p0)] [(.int (65 : Int32)), (.int p0)])) (fun _ k => XS.bipush X.here hx rfl (hb hby d1_13) k) ?_
    show own_Goes p e below (own_End s (own_Same (.int (if p0 < (65 : Int32) then (F1_24 p0) else (if (90 : Int32) < p0 then (F1_24 p0) else (1 : Int32)))) h0 n0) 0 0) _
    by_cases hc15 : p0 < (65 : Int32)
    · rw [if_pos hc15]
      refine own_go (G := T.setTop (mkF m 24 #[.val (.int p0)] [])) (fun _ k => XS.icmpYes X.here hx rfl (pc0 := 15) (pc' := 24) rfl (hb hby d1_15) rfl (tlt hc15).1 (by decide) (by decide) k) ?_
      exact j24  _ _ X eT N
    · rw [if_neg hc15]
      refine own_go (G := T.setTop (mkF m 18 #[.val (.int p0)] [])) (fun _ k => XS.icmpNo X.here hx rfl (hb hby d1_15) rfl (flt hc15).1 k) ?_
      refine own_go (G := T.setTop (mkF m 19 #[.val (.int p0)] [(.int p0)])) (fun _ k => XS.iloadN X.here hx rfl (hb hby d1_18) rfl k) ?_
      refine own_go (G := T.setTop (mkF m 21 #[.val (.int p0)] [(.int (90 : Int32)), (.int p0)])) (fun _ k => XS.bipush X.here hx rfl (hb hby d1_19) k) ?_
      show own_Goes p e below (own_End s (own_Same (.int (if (90 : Int32) < p0 then (F1_24 p0) else (1 : Int32))) h0 n0) 0 0) _
      by_cases hc21 : (90 : Int32) < p0
      · rw [if_pos hc21]
        refine own_go (G := T.setTop (mkF m 24 #[.val (.int p0)] [])) (fun _ k => XS.icmpNo X.here hx rfl (hb hby d1_21) rfl (tlt hc21).2.2.2 k) ?_
        exact j24  _ _ X eT N
      · rw [if_neg hc21]
        refine own_go (G := T.setTop (mkF m 191 #[.val (.int p0)] [])) (fun _ k => XS.icmpYes X.here hx rfl (pc0 := 21) (pc' := 191) rfl (hb hby d1_21) rfl (flt hc21).2.2.2 (by decide) (by decide) k) ?_
        refine own_go (G := T.setTop (mkF m 192 #[.val (.int p0)] [(.int (1 : Int32))])) (fun _ k => XS.iconst X.here hx rfl (hb hby d1_191) k) ?_
        refine own_go (G := T.setTop (mkF m 196 #[.val (.int p0)] [(.int (1 : Int32))])) (fun _ k => XS.goto X.here hx rfl (pc0 := 192) (pc' := 196) rfl (hb hby d1_192) (by decide) (by decide) k) ?_
        exact own_ret1 X hx Bd.returns (hb hby d1_196) Bd.notSynchronized (by decide) (by decide) ⟨rfl, N, eT⟩
  show own_Goes p e below (own_End s (own_Same (.int (F1 p0)) h0 n0) 0 0) _
  refine own_go (G := s₁.setTop (mkF m 0 #[.val (.int p0)] [])) (fun t k => castTop (ef_rm1 m p0) k) ?_
  refine own_go (G := s₁.setTop (mkF m 1 #[.val (.int p0)] [(.int p0)])) (fun _ k => XS.iloadN X0.here hx rfl (hb hby d1_0) rfl k) ?_
  refine own_go (G := s₁.setTop (mkF m 3 #[.val (.int p0)] [(.int (97 : Int32)), (.int p0)])) (fun _ k => XS.bipush X0.here hx rfl (hb hby d1_1) k) ?_
  show own_Goes p e below (own_End s (own_Same (.int (if p0 < (97 : Int32) then (F1_12 p0) else (if (122 : Int32) < p0 then (F1_12 p0) else (1 : Int32)))) h0 n0) 0 0) _
  by_cases hc3 : p0 < (97 : Int32)
  · rw [if_pos hc3]
    refine own_go (G := s₁.setTop (mkF m 12 #[.val (.int p0)] [])) (fun _ k => XS.icmpYes X0.here hx rfl (pc0 := 3) (pc' := 12) rfl (hb hby d1_3) rfl (tlt hc3).1 (by decide) (by decide) k) ?_
    exact j12  _ _ X0 e0 N0
  · rw [if_neg hc3]
    refine own_go (G := s₁.setTop (mkF m 6 #[.val (.int p0)] [])) (fun _ k => XS.icmpNo X0.here hx rfl (hb hby d1_3) rfl (flt hc3).1 k) ?_
    refine own_go (G := s₁.setTop (mkF m 7 #[.val (.int p0)] [(.int p0)])) (fun _ k => XS.iloadN X0.here hx rfl (hb hby d1_6) rfl k) ?_
    refine own_go (G := s₁.setTop (mkF m 9 #[.val (.int p0)] [(.int (122 : Int32)), (.int p0)])) (fun _ k => XS.bipush X0.here hx rfl (hb hby d1_7) k) ?_
    show own_Goes p e below (own_End s (own_Same (.int (if (122 : Int32) < p0 then (F1_12 p0) else (1 : Int32))) h0 n0) 0 0) _
    by_cases hc9 : (122 : Int32) < p0
    · rw [if_pos hc9]
      refine own_go (G := s₁.setTop (mkF m 12 #[.val (.int p0)] [])) (fun _ k => XS.icmpNo X0.here hx rfl (hb hby d1_9) rfl (tlt hc9).2.2.2 k) ?_
      exact j12  _ _ X0 e0 N0
    · rw [if_neg hc9]
      refine own_go (G := s₁.setTop (mkF m 191 #[.val (.int p0)] [])) (fun _ k => XS.icmpYes X0.here hx rfl (pc0 := 9) (pc' := 191) rfl (hb hby d1_9) rfl (flt hc9).2.2.2 (by decide) (by decide) k) ?_
      refine own_go (G := s₁.setTop (mkF m 192 #[.val (.int p0)] [(.int (1 : Int32))])) (fun _ k => XS.iconst X0.here hx rfl (hb hby d1_191) k) ?_
      refine own_go (G := s₁.setTop (mkF m 196 #[.val (.int p0)] [(.int (1 : Int32))])) (fun _ k => XS.goto X0.here hx rfl (pc0 := 192) (pc' := 196) rfl (hb hby d1_192) (by decide) (by decide) k) ?_
      exact own_ret1 X0 hx Bd.returns (hb hby d1_196) Bd.notSynchronized (by decide) (by decide) ⟨rfl, N0, e0⟩
theorem d3_0 : decode method_2_code 0 = .ok (.iload_n 0, 1) := by decide +kernel
theorem d3_1 : decode method_2_code 1 = .ok (.iload_n 1, 1) := by decide +kernel
theorem d3_2 : decode method_2_code 2 = .ok (.if_icmp .lt 12, 3) := by decide +kernel
theorem d3_5 : decode method_2_code 5 = .ok (.iload_n 0, 1) := by decide +kernel
theorem d3_6 : decode method_2_code 6 = .ok (.iload_n 2, 1) := by decide +kernel
theorem d3_7 : decode method_2_code 7 = .ok (.if_icmp .gt 7, 3) := by decide +kernel
theorem d3_10 : decode method_2_code 10 = .ok (.iconst 1, 1) := by decide +kernel
theorem d3_11 : decode method_2_code 11 = .ok (.goto 4, 3) := by decide +kernel
theorem d3_14 : decode method_2_code 14 = .ok (.iconst 0, 1) := by decide +kernel
theorem d3_15 : decode method_2_code 15 = .ok (.ireturn, 1) := by decide +kernel
theorem pn3 : plainName "com/example/xrefloom/xrefloom/tree/XmlNamesIsNameStartCharPinLaw" = true := by first | (simp [plainName, overriddenIn]; done) | decide +kernel
theorem ef_rm3 (m : MethodId) (p0 : Int32) (p1 : Int32) (p2 : Int32) : entryFrame m #[(.int p0), (.int p1), (.int p2)] 3 = mkF m 0 #[.val (.int p0), .val (.int p1), .val (.int p2)] [] := by first | (simp [entryFrame, mkF, argsToLocals, Value.category]; done) | rfl
def F3 (p0 : Int32) (p1 : Int32) (p2 : Int32) : Int32 := (if p0 < p1 then (0 : Int32) else (if p2 < p0 then (0 : Int32) else (1 : Int32)))
set_option maxRecDepth 65536 in
set_option maxHeartbeats 40000000 in
theorem rm3 (l : Launch) (Z : State) (a0 : Array Value) (hw : ∀ d ∈ tables_1, d.before a0 Z = true) (ws : List Jvm.Cond) (p0 : Int32) (p1 : Int32) (p2 : Int32) (h0 : Heap) (n0 : Nat) (Z0 : n0 ≤ h0.size) :
    MetFree l (⟨"com/example/xrefloom/xrefloom/tree/XmlNamesIsNameStartCharPinLaw", "in", "(III)Z"⟩ : MethodName) (head1 (Jvm.Cond.code (⟨"com/example/xrefloom/xrefloom/tree/XmlNamesIsNameStartCharPinLaw", "in", "(III)Z"⟩ : MethodName) method_2_code 3 (some .boolean) :: ws) ({ frames := 0, cells := 0, slots := 0, locals := 0 } : Room)) (fun a U => a = #[(.int p0), (.int p1), (.int p2)] ∧ Z.Warmed39 U.vm ∧ U.heap = h0) (fun _ _ _ _ _ => True) (fun _ U o U' => ∃ v L, o = .returned v ∧ (own_Same (.int (F3 p0 p1 p2)) h0 n0) v U'.heap L ∧ FrameEnd U o U' L 0 0) := by
  refine MetFree.of_bodySF (plainFor_of_name pn3) hisR ?_
  intro p e s m args below meth c s₁ Bd hml0 hP hK
  obtain ⟨rfl, hZ, hh⟩ := hP
  have hx := Bd.exec
  have hby := Bd.bytes
  have hml : c.maxLocals = 3 := hml0
  have hown : s.vm.findClass "com/example/xrefloom/xrefloom/tree/XmlNamesIsNameStartCharPinLaw" = some m.cls := findClass_of_methodNamed Bd.named
  have hnm := (name_of_methodNamed Bd.named Bd.method).1
  have X0 : Stand p l e ({ frames := 0, cells := 0, slots := 0, locals := 0 } : Room) s m #[(.int p0), (.int p1), (.int p2)] below meth c s₁ [] 0 0 := Stand.of_body Bd
  have e0 : s₁.heap = h0 := by rw [← hh, Bd.state]; rfl
  have N0 := Fr.nil n0
  show own_Goes p e below (own_End s (own_Same (.int (F3 p0 p1 p2)) h0 n0) 0 0) _
  refine own_go (G := s₁.setTop (mkF m 0 #[.val (.int p0), .val (.int p1), .val (.int p2)] [])) (fun t k => castTop (ef_rm3 m p0 p1 p2) k) ?_
  refine own_go (G := s₁.setTop (mkF m 1 #[.val (.int p0), .val (.int p1), .val (.int p2)] [(.int p0)])) (fun _ k => XS.iloadN X0.here hx rfl (hb hby d3_0) rfl k) ?_
  refine own_go (G := s₁.setTop (mkF m 2 #[.val (.int p0), .val (.int p1), .val (.int p2)] [(.int p1), (.int p0)])) (fun _ k => XS.iloadN X0.here hx rfl (hb hby d3_1) rfl k) ?_
  show own_Goes p e below (own_End s (own_Same (.int (if p0 < p1 then (0 : Int32) else (if p2 < p0 then (0 : Int32) else (1 : Int32)))) h0 n0) 0 0) _
  by_cases hc2 : p0 < p1
  · rw [if_pos hc2]
    refine own_go (G := s₁.setTop (mkF m 14 #[.val (.int p0), .val (.int p1), .val (.int p2)] [])) (fun _ k => XS.icmpYes X0.here hx rfl (pc0 := 2) (pc' := 14) rfl (hb hby d3_2) rfl (tlt hc2).1 (by decide) (by decide) k) ?_
    refine own_go (G := s₁.setTop (mkF m 15 #[.val (.int p0), .val (.int p1), .val (.int p2)] [(.int (0 : Int32))])) (fun _ k => XS.iconst X0.here hx rfl (hb hby d3_14) k) ?_
    exact own_ret0 X0 hx Bd.returns (hb hby d3_15) Bd.notSynchronized (by decide) (by decide) ⟨rfl, N0, e0⟩
  · rw [if_neg hc2]
    refine own_go (G := s₁.setTop (mkF m 5 #[.val (.int p0), .val (.int p1), .val (.int p2)] [])) (fun _ k => XS.icmpNo X0.here hx rfl (hb hby d3_2) rfl (flt hc2).1 k) ?_
    refine own_go (G := s₁.setTop (mkF m 6 #[.val (.int p0), .val (.int p1), .val (.int p2)] [(.int p0)])) (fun _ k => XS.iloadN X0.here hx rfl (hb hby d3_5) rfl k) ?_
    refine own_go (G := s₁.setTop (mkF m 7 #[.val (.int p0), .val (.int p1), .val (.int p2)] [(.int p2), (.int p0)])) (fun _ k => XS.iloadN X0.here hx rfl (hb hby d3_6) rfl k) ?_
    show own_Goes p e below (own_End s (own_Same (.int (if p2 < p0 then (0 : Int32) else (1 : Int32))) h0 n0) 0 0) _
    by_cases hc7 : p2 < p0
    · rw [if_pos hc7]
      refine own_go (G := s₁.setTop (mkF m 14 #[.val (.int p0), .val (.int p1), .val (.int p2)] [])) (fun _ k => XS.icmpYes X0.here hx rfl (pc0 := 7) (pc' := 14) rfl (hb hby d3_7) rfl (tlt hc7).2.2.1 (by decide) (by decide) k) ?_
      refine own_go (G := s₁.setTop (mkF m 15 #[.val (.int p0), .val (.int p1), .val (.int p2)] [(.int (0 : Int32))])) (fun _ k => XS.iconst X0.here hx rfl (hb hby d3_14) k) ?_
      exact own_ret0 X0 hx Bd.returns (hb hby d3_15) Bd.notSynchronized (by decide) (by decide) ⟨rfl, N0, e0⟩
    · rw [if_neg hc7]
      refine own_go (G := s₁.setTop (mkF m 10 #[.val (.int p0), .val (.int p1), .val (.int p2)] [])) (fun _ k => XS.icmpNo X0.here hx rfl (hb hby d3_7) rfl (flt hc7).2.2.1 k) ?_
      refine own_go (G := s₁.setTop (mkF m 11 #[.val (.int p0), .val (.int p1), .val (.int p2)] [(.int (1 : Int32))])) (fun _ k => XS.iconst X0.here hx rfl (hb hby d3_10) k) ?_
      refine own_go (G := s₁.setTop (mkF m 15 #[.val (.int p0), .val (.int p1), .val (.int p2)] [(.int (1 : Int32))])) (fun _ k => XS.goto X0.here hx rfl (pc0 := 11) (pc' := 15) rfl (hb hby d3_11) (by decide) (by decide) k) ?_
      exact own_ret1 X0 hx Bd.returns (hb hby d3_15) Bd.notSynchronized (by decide) (by decide) ⟨rfl, N0, e0⟩
theorem d2_0 : decode method_3_code 0 = .ok (.iload_n 0, 1) := by decide +kernel
theorem d2_1 : decode method_3_code 1 = .ok (.bipush 65, 2) := by decide +kernel
theorem d2_3 : decode method_3_code 3 = .ok (.if_icmp .lt 9, 3) := by decide +kernel
theorem d2_6 : decode method_3_code 6 = .ok (.iload_n 0, 1) := by decide +kernel
theorem d2_7 : decode method_3_code 7 = .ok (.ldc 7, 2) := by decide +kernel
theorem d2_9 : decode method_3_code 9 = .ok (.if_icmp .le 5, 3) := by decide +kernel
theorem d2_12 : decode method_3_code 12 = .ok (.iconst 0, 1) := by decide +kernel
theorem d2_13 : decode method_3_code 13 = .ok (.ireturn, 1) := by decide +kernel
theorem d2_14 : decode method_3_code 14 = .ok (.iload_n 0, 1) := by decide +kernel
theorem d2_15 : decode method_3_code 15 = .ok (.bipush 91, 2) := by decide +kernel
theorem d2_17 : decode method_3_code 17 = .ok (.bipush 94, 2) := by decide +kernel
theorem d2_19 : decode method_3_code 19 = .ok (.invokestatic 8, 3) := by decide +kernel
theorem d2_22 : decode method_3_code 22 = .ok (.ifCond .ne 140, 3) := by decide +kernel
theorem d2_25 : decode method_3_code 25 = .ok (.iload_n 0, 1) := by decide +kernel
theorem d2_26 : decode method_3_code 26 = .ok (.bipush 96, 2) := by decide +kernel
theorem d2_28 : decode method_3_code 28 = .ok (.if_icmp .eq 134, 3) := by decide +kernel
theorem d2_31 : decode method_3_code 31 = .ok (.iload_n 0, 1) := by decide +kernel
theorem d2_32 : decode method_3_code 32 = .ok (.bipush 123, 2) := by decide +kernel
theorem d2_34 : decode method_3_code 34 = .ok (.sipush 191, 3) := by decide +kernel
theorem d2_37 : decode method_3_code 37 = .ok (.invokestatic 8, 3) := by decide +kernel
theorem d2_40 : decode method_3_code 40 = .ok (.ifCond .ne 122, 3) := by decide +kernel
theorem d2_43 : decode method_3_code 43 = .ok (.iload_n 0, 1) := by decide +kernel
theorem d2_44 : decode method_3_code 44 = .ok (.sipush 215, 3) := by decide +kernel
theorem d2_47 : decode method_3_code 47 = .ok (.if_icmp .eq 115, 3) := by decide +kernel
theorem d2_50 : decode method_3_code 50 = .ok (.iload_n 0, 1) := by decide +kernel
theorem d2_51 : decode method_3_code 51 = .ok (.sipush 247, 3) := by decide +kernel
theorem d2_54 : decode method_3_code 54 = .ok (.if_icmp .eq 108, 3) := by decide +kernel
theorem d2_57 : decode method_3_code 57 = .ok (.iload_n 0, 1) := by decide +kernel
theorem d2_58 : decode method_3_code 58 = .ok (.sipush 768, 3) := by decide +kernel
theorem d2_61 : decode method_3_code 61 = .ok (.sipush 879, 3) := by decide +kernel
theorem d2_64 : decode method_3_code 64 = .ok (.invokestatic 8, 3) := by decide +kernel
theorem d2_67 : decode method_3_code 67 = .ok (.ifCond .ne 95, 3) := by decide +kernel
theorem d2_70 : decode method_3_code 70 = .ok (.iload_n 0, 1) := by decide +kernel
theorem d2_71 : decode method_3_code 71 = .ok (.sipush 894, 3) := by decide +kernel
theorem d2_74 : decode method_3_code 74 = .ok (.if_icmp .eq 88, 3) := by decide +kernel
theorem d2_77 : decode method_3_code 77 = .ok (.iload_n 0, 1) := by decide +kernel
theorem d2_78 : decode method_3_code 78 = .ok (.sipush 8192, 3) := by decide +kernel
theorem d2_81 : decode method_3_code 81 = .ok (.sipush 8203, 3) := by decide +kernel
theorem d2_84 : decode method_3_code 84 = .ok (.invokestatic 8, 3) := by decide +kernel
theorem d2_87 : decode method_3_code 87 = .ok (.ifCond .ne 75, 3) := by decide +kernel
theorem d2_90 : decode method_3_code 90 = .ok (.iload_n 0, 1) := by decide +kernel
theorem d2_91 : decode method_3_code 91 = .ok (.sipush 8206, 3) := by decide +kernel
theorem d2_94 : decode method_3_code 94 = .ok (.sipush 8303, 3) := by decide +kernel
theorem d2_97 : decode method_3_code 97 = .ok (.invokestatic 8, 3) := by decide +kernel
theorem d2_100 : decode method_3_code 100 = .ok (.ifCond .ne 62, 3) := by decide +kernel
theorem d2_103 : decode method_3_code 103 = .ok (.iload_n 0, 1) := by decide +kernel
theorem d2_104 : decode method_3_code 104 = .ok (.sipush 8592, 3) := by decide +kernel
theorem d2_107 : decode method_3_code 107 = .ok (.sipush 11263, 3) := by decide +kernel
theorem d2_110 : decode method_3_code 110 = .ok (.invokestatic 8, 3) := by decide +kernel
theorem d2_113 : decode method_3_code 113 = .ok (.ifCond .ne 49, 3) := by decide +kernel
theorem d2_116 : decode method_3_code 116 = .ok (.iload_n 0, 1) := by decide +kernel
theorem d2_117 : decode method_3_code 117 = .ok (.sipush 12272, 3) := by decide +kernel
theorem d2_120 : decode method_3_code 120 = .ok (.sipush 12288, 3) := by decide +kernel
theorem d2_123 : decode method_3_code 123 = .ok (.invokestatic 8, 3) := by decide +kernel
theorem d2_126 : decode method_3_code 126 = .ok (.ifCond .ne 36, 3) := by decide +kernel
theorem d2_129 : decode method_3_code 129 = .ok (.iload_n 0, 1) := by decide +kernel
theorem d2_130 : decode method_3_code 130 = .ok (.ldc 14, 2) := by decide +kernel
theorem d2_132 : decode method_3_code 132 = .ok (.ldc 15, 2) := by decide +kernel
theorem d2_134 : decode method_3_code 134 = .ok (.invokestatic 8, 3) := by decide +kernel
theorem d2_137 : decode method_3_code 137 = .ok (.ifCond .ne 25, 3) := by decide +kernel
theorem d2_140 : decode method_3_code 140 = .ok (.iload_n 0, 1) := by decide +kernel
theorem d2_141 : decode method_3_code 141 = .ok (.ldc 16, 2) := by decide +kernel
theorem d2_143 : decode method_3_code 143 = .ok (.ldc 17, 2) := by decide +kernel
theorem d2_145 : decode method_3_code 145 = .ok (.invokestatic 8, 3) := by decide +kernel
theorem d2_148 : decode method_3_code 148 = .ok (.ifCond .ne 14, 3) := by decide +kernel
theorem d2_151 : decode method_3_code 151 = .ok (.iload_n 0, 1) := by decide +kernel
theorem d2_152 : decode method_3_code 152 = .ok (.ldc 18, 2) := by decide +kernel
theorem d2_154 : decode method_3_code 154 = .ok (.ldc 19, 2) := by decide +kernel
theorem d2_156 : decode method_3_code 156 = .ok (.invokestatic 8, 3) := by decide +kernel
theorem d2_159 : decode method_3_code 159 = .ok (.ifCond .eq 7, 3) := by decide +kernel
theorem d2_162 : decode method_3_code 162 = .ok (.iconst 1, 1) := by decide +kernel
theorem d2_163 : decode method_3_code 163 = .ok (.goto 4, 3) := by decide +kernel
theorem d2_166 : decode method_3_code 166 = .ok (.iconst 0, 1) := by decide +kernel
theorem d2_167 : decode method_3_code 167 = .ok (.istore_n 1, 1) := by decide +kernel
theorem d2_168 : decode method_3_code 168 = .ok (.iload_n 1, 1) := by decide +kernel
theorem d2_169 : decode method_3_code 169 = .ok (.ifCond .ne 7, 3) := by decide +kernel
theorem d2_172 : decode method_3_code 172 = .ok (.iconst 1, 1) := by decide +kernel
theorem d2_173 : decode method_3_code 173 = .ok (.goto 4, 3) := by decide +kernel
theorem d2_176 : decode method_3_code 176 = .ok (.iconst 0, 1) := by decide +kernel
theorem d2_177 : decode method_3_code 177 = .ok (.ireturn, 1) := by decide +kernel
theorem pn2 : plainName "com/example/xrefloom/xrefloom/tree/XmlNamesIsNameStartCharPinLaw" = true := by first | (simp [plainName, overriddenIn]; done) | decide +kernel
theorem pd0 : parseMethodDescriptor "(III)Z" = some ⟨[.int, .int, .int], some .boolean⟩ := by decide +kernel
theorem ef_rm2 (m : MethodId) (p0 : Int32) : entryFrame m #[(.int p0)] 2 = mkF m 0 #[.val (.int p0), .unset] [] := by first | (simp [entryFrame, mkF, argsToLocals, Value.category]; done) | rfl
def F2_167 (p0 : Int32) (s0 : Int32) : Int32 := (if s0 = (0 : Int32) then (1 : Int32) else (0 : Int32))
def F2_162 (p0 : Int32) : Int32 := (F2_167 p0 (1 : Int32))
def F2 (p0 : Int32) : Int32 := (if p0 < (65 : Int32) then (0 : Int32) else (if (983039 : Int32) < p0 then (0 : Int32) else (if (F3 p0 (91 : Int32) (94 : Int32)) = (0 : Int32) then (if p0 = (96 : Int32) then (F2_162 p0) else (if (F3 p0 (123 : Int32) (191 : Int32)) = (0 : Int32) then (if p0 = (215 : Int32) then (F2_162 p0) else (if p0 = (247 : Int32) then (F2_162 p0) else (if (F3 p0 (768 : Int32) (879 : Int32)) = (0 : Int32) then (if p0 = (894 : Int32) then (F2_162 p0) else (if (F3 p0 (8192 : Int32) (8203 : Int32)) = (0 : Int32) then (if (F3 p0 (8206 : Int32) (8303 : Int32)) = (0 : Int32) then (if (F3 p0 (8592 : Int32) (11263 : Int32)) = (0 : Int32) then (if (F3 p0 (12272 : Int32) (12288 : Int32)) = (0 : Int32) then (if (F3 p0 (55296 : Int32) (63743 : Int32)) = (0 : Int32) then (if (F3 p0 (64976 : Int32) (65007 : Int32)) = (0 : Int32) then (if (F3 p0 (65534 : Int32) (65535 : Int32)) = (0 : Int32) then (F2_167 p0 (0 : Int32)) else (F2_162 p0)) else (F2_162 p0)) else (F2_162 p0)) else (F2_162 p0)) else (F2_162 p0)) else (F2_162 p0)) else (F2_162 p0))) else (F2_162 p0)))) else (F2_162 p0))) else (F2_162 p0))))
set_option maxRecDepth 65536 in
set_option maxHeartbeats 40000000 in
theorem rm2 (l : Launch) (Z : State) (a0 : Array Value) (hw : ∀ d ∈ tables_1, d.before a0 Z = true) (ws : List Jvm.Cond) (p0 : Int32) (h0 : Heap) (n0 : Nat) (Z0 : n0 ≤ h0.size) :
    MetFree l (⟨"com/example/xrefloom/xrefloom/tree/XmlNamesIsNameStartCharPinLaw", "reference", "(I)Z"⟩ : MethodName) (head1 (Jvm.Cond.code (⟨"com/example/xrefloom/xrefloom/tree/XmlNamesIsNameStartCharPinLaw", "reference", "(I)Z"⟩ : MethodName) method_3_code 2 (some .boolean) :: ws) ({ frames := 1, cells := 0, slots := 0, locals := 14 } : Room)) (fun a U => a = #[(.int p0)] ∧ Z.Warmed39 U.vm ∧ U.heap = h0) (fun _ _ _ _ _ => True) (fun _ U o U' => ∃ v L, o = .returned v ∧ (own_Same (.int (F2 p0)) h0 n0) v U'.heap L ∧ FrameEnd U o U' L 0 0) := by
  refine MetFree.of_bodySF (plainFor_of_name pn2) hisR ?_
  intro p e s m args below meth c s₁ Bd hml0 hP hK
  obtain ⟨rfl, hZ, hh⟩ := hP
  have hx := Bd.exec
  have hby := Bd.bytes
  have hml : c.maxLocals = 2 := hml0
  have hown : s.vm.findClass "com/example/xrefloom/xrefloom/tree/XmlNamesIsNameStartCharPinLaw" = some m.cls := findClass_of_methodNamed Bd.named
  have hnm := (name_of_methodNamed Bd.named Bd.method).1
  have X0 : Stand p l e ({ frames := 1, cells := 0, slots := 0, locals := 14 } : Room) s m #[(.int p0)] below meth c s₁ [] 0 0 := Stand.of_body Bd
  have e0 : s₁.heap = h0 := by rw [← hh, Bd.state]; rfl
  have N0 := Fr.nil n0
  have j167 : ∀ (s0 : Int32) (T : State) (locs : List Loc) (X : Stand p l e ({ frames := 1, cells := 0, slots := 0, locals := 14 } : Room) s m #[(.int p0)] below meth c T locs 0 0) (eT : T.heap = h0) (N : Fr n0 locs), own_Goes p e below (own_End s (own_Same (.int (F2_167 p0 s0)) h0 n0) 0 0) (T.setTop (mkF m 167 #[.val (.int p0), .unset] [(.int s0)])) := by
    intro s0 T locs X eT N
    refine own_go (G := T.setTop (mkF m 168 #[.val (.int p0), .val (.int s0)] [])) (fun _ k => XS.istoreN X.here hx rfl (hb hby d2_167) rfl (l' := #[.val (.int p0), .val (.int s0)]) rfl k) ?_
    refine own_go (G := T.setTop (mkF m 169 #[.val (.int p0), .val (.int s0)] [(.int s0)])) (fun _ k => XS.iloadN X.here hx rfl (hb hby d2_168) rfl k) ?_
    show own_Goes p e below (own_End s (own_Same (.int (if s0 = (0 : Int32) then (1 : Int32) else (0 : Int32))) h0 n0) 0 0) _
    by_cases hc169 : s0 = (0 : Int32)
    · rw [if_pos hc169]
      refine own_go (G := T.setTop (mkF m 172 #[.val (.int p0), .val (.int s0)] [])) (fun _ k => XS.ifNo X.here hx rfl (hb hby d2_169) rfl ((if0 _ _).trans (teq hc169).2) k) ?_
      refine own_go (G := T.setTop (mkF m 173 #[.val (.int p0), .val (.int s0)] [(.int (1 : Int32))])) (fun _ k => XS.iconst X.here hx rfl (hb hby d2_172) k) ?_
      refine own_go (G := T.setTop (mkF m 177 #[.val (.int p0), .val (.int s0)] [(.int (1 : Int32))])) (fun _ k => XS.goto X.here hx rfl (pc0 := 173) (pc' := 177) rfl (hb hby d2_173) (by decide) (by decide) k) ?_
      exact own_ret1 X hx Bd.returns (hb hby d2_177) Bd.notSynchronized (by decide) (by decide) ⟨rfl, N, eT⟩
    · rw [if_neg hc169]
      refine own_go (G := T.setTop (mkF m 176 #[.val (.int p0), .val (.int s0)] [])) (fun _ k => XS.ifYes X.here hx rfl (pc0 := 169) (pc' := 176) rfl (hb hby d2_169) rfl ((if0 _ _).trans (feq hc169).2) (by decide) (by decide) k) ?_
      refine own_go (G := T.setTop (mkF m 177 #[.val (.int p0), .val (.int s0)] [(.int (0 : Int32))])) (fun _ k => XS.iconst X.here hx rfl (hb hby d2_176) k) ?_
      exact own_ret0 X hx Bd.returns (hb hby d2_177) Bd.notSynchronized (by decide) (by decide) ⟨rfl, N, eT⟩
  have j162 : ∀ (T : State) (locs : List Loc) (X : Stand p l e ({ frames := 1, cells := 0, slots := 0, locals := 14 } : Room) s m #[(.int p0)] below meth c T locs 0 0) (eT : T.heap = h0) (N : Fr n0 locs), own_Goes p e below (own_End s (own_Same (.int (F2_162 p0)) h0 n0) 0 0) (T.setTop (mkF m 162 #[.val (.int p0), .unset] [])) := by
    intro  T locs X eT N
    refine own_go (G := T.setTop (mkF m 163 #[.val (.int p0), .unset] [(.int (1 : Int32))])) (fun _ k => XS.iconst X.here hx rfl (hb hby d2_162) k) ?_
    refine own_go (G := T.setTop (mkF m 167 #[.val (.int p0), .unset] [(.int (1 : Int32))])) (fun _ k => XS.goto X.here hx rfl (pc0 := 163) (pc' := 167) rfl (hb hby d2_163) (by decide) (by decide) k) ?_
    exact j167 (1 : Int32) _ _ X eT N
  show own_Goes p e below (own_End s (own_Same (.int (F2 p0)) h0 n0) 0 0) _
  refine own_go (G := s₁.setTop (mkF m 0 #[.val (.int p0), .unset] [])) (fun t k => castTop (ef_rm2 m p0) k) ?_
  refine own_go (G := s₁.setTop (mkF m 1 #[.val (.int p0), .unset] [(.int p0)])) (fun _ k => XS.iloadN X0.here hx rfl (hb hby d2_0) rfl k) ?_
  refine own_go (G := s₁.setTop (mkF m 3 #[.val (.int p0), .unset] [(.int (65 : Int32)), (.int p0)])) (fun _ k => XS.bipush X0.here hx rfl (hb hby d2_1) k) ?_
  show own_Goes p e below (own_End s (own_Same (.int (if p0 < (65 : Int32) then (0 : Int32) else (if (983039 : Int32) < p0 then (0 : Int32) else (if (F3 p0 (91 : Int32) (94 : Int32)) = (0 : Int32) then (if p0 = (96 : Int32) then (F2_162 p0) else (if (F3 p0 (123 : Int32) (191 : Int32)) = (0 : Int32) then (if p0 = (215 : Int32) then (F2_162 p0) else (if p0 = (247 : Int32) then (F2_162 p0) else (if (F3 p0 (768 : Int32) (879 : Int32)) = (0 : Int32) then (if p0 = (894 : Int32) then (F2_162 p0) else (if (F3 p0 (8192 : Int32) (8203 : Int32)) = (0 : Int32) then (if (F3 p0 (8206 : Int32) (8303 : Int32)) = (0 : Int32) then (if (F3 p0 (8592 : Int32) (11263 : Int32)) = (0 : Int32) then (if (F3 p0 (12272 : Int32) (12288 : Int32)) = (0 : Int32) then (if (F3 p0 (55296 : Int32) (63743 : Int32)) = (0 : Int32) then (if (F3 p0 (64976 : Int32) (65007 : Int32)) = (0 : Int32) then (if (F3 p0 (65534 : Int32) (65535 : Int32)) = (0 : Int32) then (F2_167 p0 (0 : Int32)) else (F2_162 p0)) else (F2_162 p0)) else (F2_162 p0)) else (F2_162 p0)) else (F2_162 p0)) else (F2_162 p0)) else (F2_162 p0))) else (F2_162 p0)))) else (F2_162 p0))) else (F2_162 p0))))) h0 n0) 0 0) _
  by_cases hc3 : p0 < (65 : Int32)
  · rw [if_pos hc3]
    refine own_go (G := s₁.setTop (mkF m 12 #[.val (.int p0), .unset] [])) (fun _ k => XS.icmpYes X0.here hx rfl (pc0 := 3) (pc' := 12) rfl (hb hby d2_3) rfl (tlt hc3).1 (by decide) (by decide) k) ?_
    refine own_go (G := s₁.setTop (mkF m 13 #[.val (.int p0), .unset] [(.int (0 : Int32))])) (fun _ k => XS.iconst X0.here hx rfl (hb hby d2_12) k) ?_
    exact own_ret0 X0 hx Bd.returns (hb hby d2_13) Bd.notSynchronized (by decide) (by decide) ⟨rfl, N0, e0⟩
  · rw [if_neg hc3]
    refine own_go (G := s₁.setTop (mkF m 6 #[.val (.int p0), .unset] [])) (fun _ k => XS.icmpNo X0.here hx rfl (hb hby d2_3) rfl (flt hc3).1 k) ?_
    refine own_go (G := s₁.setTop (mkF m 7 #[.val (.int p0), .unset] [(.int p0)])) (fun _ k => XS.iloadN X0.here hx rfl (hb hby d2_6) rfl k) ?_
    refine own_go (G := s₁.setTop (mkF m 9 #[.val (.int p0), .unset] [(.int (983039 : Int32)), (.int p0)])) (X0.ldcInt hx hown (mvT hZ (hw _ (List.mem_of_getElem? (i := 12) rfl))) (g := (mkF m 7 #[.val (.int p0), .unset] [(.int p0)])) rfl (hb hby d2_7)) ?_
    show own_Goes p e below (own_End s (own_Same (.int (if (983039 : Int32) < p0 then (0 : Int32) else (if (F3 p0 (91 : Int32) (94 : Int32)) = (0 : Int32) then (if p0 = (96 : Int32) then (F2_162 p0) else (if (F3 p0 (123 : Int32) (191 : Int32)) = (0 : Int32) then (if p0 = (215 : Int32) then (F2_162 p0) else (if p0 = (247 : Int32) then (F2_162 p0) else (if (F3 p0 (768 : Int32) (879 : Int32)) = (0 : Int32) then (if p0 = (894 : Int32) then (F2_162 p0) else (if (F3 p0 (8192 : Int32) (8203 : Int32)) = (0 : Int32) then (if (F3 p0 (8206 : Int32) (8303 : Int32)) = (0 : Int32) then (if (F3 p0 (8592 : Int32) (11263 : Int32)) = (0 : Int32) then (if (F3 p0 (12272 : Int32) (12288 : Int32)) = (0 : Int32) then (if (F3 p0 (55296 : Int32) (63743 : Int32)) = (0 : Int32) then (if (F3 p0 (64976 : Int32) (65007 : Int32)) = (0 : Int32) then (if (F3 p0 (65534 : Int32) (65535 : Int32)) = (0 : Int32) then (F2_167 p0 (0 : Int32)) else (F2_162 p0)) else (F2_162 p0)) else (F2_162 p0)) else (F2_162 p0)) else (F2_162 p0)) else (F2_162 p0)) else (F2_162 p0))) else (F2_162 p0)))) else (F2_162 p0))) else (F2_162 p0)))) h0 n0) 0 0) _
    by_cases hc9 : (983039 : Int32) < p0
    · rw [if_pos hc9]
      refine own_go (G := s₁.setTop (mkF m 12 #[.val (.int p0), .unset] [])) (fun _ k => XS.icmpNo X0.here hx rfl (hb hby d2_9) rfl (tlt hc9).2.2.2 k) ?_
      refine own_go (G := s₁.setTop (mkF m 13 #[.val (.int p0), .unset] [(.int (0 : Int32))])) (fun _ k => XS.iconst X0.here hx rfl (hb hby d2_12) k) ?_
      exact own_ret0 X0 hx Bd.returns (hb hby d2_13) Bd.notSynchronized (by decide) (by decide) ⟨rfl, N0, e0⟩
    · rw [if_neg hc9]
      refine own_go (G := s₁.setTop (mkF m 14 #[.val (.int p0), .unset] [])) (fun _ k => XS.icmpYes X0.here hx rfl (pc0 := 9) (pc' := 14) rfl (hb hby d2_9) rfl (flt hc9).2.2.2 (by decide) (by decide) k) ?_
      refine own_go (G := s₁.setTop (mkF m 15 #[.val (.int p0), .unset] [(.int p0)])) (fun _ k => XS.iloadN X0.here hx rfl (hb hby d2_14) rfl k) ?_
      refine own_go (G := s₁.setTop (mkF m 17 #[.val (.int p0), .unset] [(.int (91 : Int32)), (.int p0)])) (fun _ k => XS.bipush X0.here hx rfl (hb hby d2_15) k) ?_
      refine own_go (G := s₁.setTop (mkF m 19 #[.val (.int p0), .unset] [(.int (94 : Int32)), (.int (91 : Int32)), (.int p0)])) (fun _ k => XS.bipush X0.here hx rfl (hb hby d2_17) k) ?_
      obtain ⟨_, _, ⟨T61, L61, k61, n61⟩, -, X61, ⟨Lc61, hQ61, l61, y61, z61⟩, st61⟩ := Jvm.LawKit.callS X0 hx (y := (⟨"com/example/xrefloom/xrefloom/tree/XmlNamesIsNameStartCharPinLaw", "in", "(III)Z"⟩ : MethodName)) hown (mvT hZ (hw _ (List.mem_of_getElem? (i := 13) rfl))) (mvT hZ (hw _ (List.mem_of_getElem? (i := 14) rfl))) (mvT hZ (hw _ (List.mem_of_getElem? (i := 9) rfl))) (mvT hZ (hw _ (List.mem_of_getElem? (i := 15) rfl))) (by decide) (backOf (W := 0) (rm3 l Z a0 hw [] p0 (91 : Int32) (94 : Int32) h0 n0 Z0) hZ (hw _ (List.mem_of_getElem? (i := 15) rfl)) (hw _ (List.mem_of_getElem? (i := 9) rfl)) (by decide) (by decide)) (g := (mkF m 19 #[.val (.int p0), .unset] [(.int (94 : Int32)), (.int (91 : Int32)), (.int p0)])) rfl (by rw [hml]; rfl) (argsL := [(.int p0), (.int (91 : Int32)), (.int (94 : Int32))]) (rest := []) (lenOf pd0 rfl) rfl (by show 2 * 0 + _ ≤ _; exact Nat.le_of_eq rfl) (hb hby d2_19) (fun _ _ => ⟨rfl, e0, (by decide : 0 + 0 ≤ _), (by decide : 0 + 0 ≤ _)⟩)
      dsimp only [Pt.U, Pt.locs, Pt.cells, Pt.slots] at X61 l61 y61 z61 st61 hQ61
      subst l61 y61 z61
      obtain ⟨rfl, Nq61, e61⟩ := hQ61
      have N61 := Fr.app N0 Nq61
      refine own_go (G := T61.setTop (mkF m 22 #[.val (.int p0), .unset] [(.int (F3 p0 (91 : Int32) (94 : Int32)))])) (st61) ?_
      show own_Goes p e below (own_End s (own_Same (.int (if (F3 p0 (91 : Int32) (94 : Int32)) = (0 : Int32) then (if p0 = (96 : Int32) then (F2_162 p0) else (if (F3 p0 (123 : Int32) (191 : Int32)) = (0 : Int32) then (if p0 = (215 : Int32) then (F2_162 p0) else (if p0 = (247 : Int32) then (F2_162 p0) else (if (F3 p0 (768 : Int32) (879 : Int32)) = (0 : Int32) then (if p0 = (894 : Int32) then (F2_162 p0) else (if (F3 p0 (8192 : Int32) (8203 : Int32)) = (0 : Int32) then (if (F3 p0 (8206 : Int32) (8303 : Int32)) = (0 : Int32) then (if (F3 p0 (8592 : Int32) (11263 : Int32)) = (0 : Int32) then (if (F3 p0 (12272 : Int32) (12288 : Int32)) = (0 : Int32) then (if (F3 p0 (55296 : Int32) (63743 : Int32)) = (0 : Int32) then (if (F3 p0 (64976 : Int32) (65007 : Int32)) = (0 : Int32) then (if (F3 p0 (65534 : Int32) (65535 : Int32)) = (0 : Int32) then (F2_167 p0 (0 : Int32)) else (F2_162 p0)) else (F2_162 p0)) else (F2_162 p0)) else (F2_162 p0)) else (F2_162 p0)) else (F2_162 p0)) else (F2_162 p0))) else (F2_162 p0)))) else (F2_162 p0))) else (F2_162 p0))) h0 n0) 0 0) _
      by_cases hc22 : (F3 p0 (91 : Int32) (94 : Int32)) = (0 : Int32)
      · rw [if_pos hc22]
        refine own_go (G := T61.setTop (mkF m 25 #[.val (.int p0), .unset] [])) (fun _ k => XS.ifNo X61.here hx rfl (hb hby d2_22) rfl ((if0 _ _).trans (teq hc22).2) k) ?_
        refine own_go (G := T61.setTop (mkF m 26 #[.val (.int p0), .unset] [(.int p0)])) (fun _ k => XS.iloadN X61.here hx rfl (hb hby d2_25) rfl k) ?_
        refine own_go (G := T61.setTop (mkF m 28 #[.val (.int p0), .unset] [(.int (96 : Int32)), (.int p0)])) (fun _ k => XS.bipush X61.here hx rfl (hb hby d2_26) k) ?_
        show own_Goes p e below (own_End s (own_Same (.int (if p0 = (96 : Int32) then (F2_162 p0) else (if (F3 p0 (123 : Int32) (191 : Int32)) = (0 : Int32) then (if p0 = (215 : Int32) then (F2_162 p0) else (if p0 = (247 : Int32) then (F2_162 p0) else (if (F3 p0 (768 : Int32) (879 : Int32)) = (0 : Int32) then (if p0 = (894 : Int32) then (F2_162 p0) else (if (F3 p0 (8192 : Int32) (8203 : Int32)) = (0 : Int32) then (if (F3 p0 (8206 : Int32) (8303 : Int32)) = (0 : Int32) then (if (F3 p0 (8592 : Int32) (11263 : Int32)) = (0 : Int32) then (if (F3 p0 (12272 : Int32) (12288 : Int32)) = (0 : Int32) then (if (F3 p0 (55296 : Int32) (63743 : Int32)) = (0 : Int32) then (if (F3 p0 (64976 : Int32) (65007 : Int32)) = (0 : Int32) then (if (F3 p0 (65534 : Int32) (65535 : Int32)) = (0 : Int32) then (F2_167 p0 (0 : Int32)) else (F2_162 p0)) else (F2_162 p0)) else (F2_162 p0)) else (F2_162 p0)) else (F2_162 p0)) else (F2_162 p0)) else (F2_162 p0))) else (F2_162 p0)))) else (F2_162 p0)))) h0 n0) 0 0) _
        by_cases hc28 : p0 = (96 : Int32)
        · rw [if_pos hc28]
          refine own_go (G := T61.setTop (mkF m 162 #[.val (.int p0), .unset] [])) (fun _ k => XS.icmpYes X61.here hx rfl (pc0 := 28) (pc' := 162) rfl (hb hby d2_28) rfl (teq hc28).1 (by decide) (by decide) k) ?_
          exact j162  _ _ X61 e61 N61
        · rw [if_neg hc28]
          refine own_go (G := T61.setTop (mkF m 31 #[.val (.int p0), .unset] [])) (fun _ k => XS.icmpNo X61.here hx rfl (hb hby d2_28) rfl (feq hc28).1 k) ?_
          refine own_go (G := T61.setTop (mkF m 32 #[.val (.int p0), .unset] [(.int p0)])) (fun _ k => XS.iloadN X61.here hx rfl (hb hby d2_31) rfl k) ?_
          refine own_go (G := T61.setTop (mkF m 34 #[.val (.int p0), .unset] [(.int (123 : Int32)), (.int p0)])) (fun _ k => XS.bipush X61.here hx rfl (hb hby d2_32) k) ?_
          refine own_go (G := T61.setTop (mkF m 37 #[.val (.int p0), .unset] [(.int (191 : Int32)), (.int (123 : Int32)), (.int p0)])) (fun _ k => XS.sipush X61.here hx rfl (hb hby d2_34) k) ?_
          obtain ⟨_, _, ⟨T80, L80, k80, n80⟩, -, X80, ⟨Lc80, hQ80, l80, y80, z80⟩, st80⟩ := Jvm.LawKit.callS X61 hx (y := (⟨"com/example/xrefloom/xrefloom/tree/XmlNamesIsNameStartCharPinLaw", "in", "(III)Z"⟩ : MethodName)) hown (mvT hZ (hw _ (List.mem_of_getElem? (i := 13) rfl))) (mvT hZ (hw _ (List.mem_of_getElem? (i := 14) rfl))) (mvT hZ (hw _ (List.mem_of_getElem? (i := 9) rfl))) (mvT hZ (hw _ (List.mem_of_getElem? (i := 15) rfl))) (by decide) (backOf (W := 0) (rm3 l Z a0 hw [] p0 (123 : Int32) (191 : Int32) h0 n0 Z0) hZ (hw _ (List.mem_of_getElem? (i := 15) rfl)) (hw _ (List.mem_of_getElem? (i := 9) rfl)) (by decide) (by decide)) (g := (mkF m 37 #[.val (.int p0), .unset] [(.int (191 : Int32)), (.int (123 : Int32)), (.int p0)])) rfl (by rw [hml]; rfl) (argsL := [(.int p0), (.int (123 : Int32)), (.int (191 : Int32))]) (rest := []) (lenOf pd0 rfl) rfl (by show 2 * 0 + _ ≤ _; exact Nat.le_of_eq rfl) (hb hby d2_37) (fun _ _ => ⟨rfl, e61, (by decide : 0 + 0 ≤ _), (by decide : 0 + 0 ≤ _)⟩)
          dsimp only [Pt.U, Pt.locs, Pt.cells, Pt.slots] at X80 l80 y80 z80 st80 hQ80
          subst l80 y80 z80
          obtain ⟨rfl, Nq80, e80⟩ := hQ80
          have N80 := Fr.app N61 Nq80
          refine own_go (G := T80.setTop (mkF m 40 #[.val (.int p0), .unset] [(.int (F3 p0 (123 : Int32) (191 : Int32)))])) (st80) ?_
          show own_Goes p e below (own_End s (own_Same (.int (if (F3 p0 (123 : Int32) (191 : Int32)) = (0 : Int32) then (if p0 = (215 : Int32) then (F2_162 p0) else (if p0 = (247 : Int32) then (F2_162 p0) else (if (F3 p0 (768 : Int32) (879 : Int32)) = (0 : Int32) then (if p0 = (894 : Int32) then (F2_162 p0) else (if (F3 p0 (8192 : Int32) (8203 : Int32)) = (0 : Int32) then (if (F3 p0 (8206 : Int32) (8303 : Int32)) = (0 : Int32) then (if (F3 p0 (8592 : Int32) (11263 : Int32)) = (0 : Int32) then (if (F3 p0 (12272 : Int32) (12288 : Int32)) = (0 : Int32) then (if (F3 p0 (55296 : Int32) (63743 : Int32)) = (0 : Int32) then (if (F3 p0 (64976 : Int32) (65007 : Int32)) = (0 : Int32) then (if (F3 p0 (65534 : Int32) (65535 : Int32)) = (0 : Int32) then (F2_167 p0 (0 : Int32)) else (F2_162 p0)) else (F2_162 p0)) else (F2_162 p0)) else (F2_162 p0)) else (F2_162 p0)) else (F2_162 p0)) else (F2_162 p0))) else (F2_162 p0)))) else (F2_162 p0))) h0 n0) 0 0) _
          by_cases hc40 : (F3 p0 (123 : Int32) (191 : Int32)) = (0 : Int32)
          · rw [if_pos hc40]
            refine own_go (G := T80.setTop (mkF m 43 #[.val (.int p0), .unset] [])) (fun _ k => XS.ifNo X80.here hx rfl (hb hby d2_40) rfl ((if0 _ _).trans (teq hc40).2) k) ?_
            refine own_go (G := T80.setTop (mkF m 44 #[.val (.int p0), .unset] [(.int p0)])) (fun _ k => XS.iloadN X80.here hx rfl (hb hby d2_43) rfl k) ?_
            refine own_go (G := T80.setTop (mkF m 47 #[.val (.int p0), .unset] [(.int (215 : Int32)), (.int p0)])) (fun _ k => XS.sipush X80.here hx rfl (hb hby d2_44) k) ?_
            show own_Goes p e below (own_End s (own_Same (.int (if p0 = (215 : Int32) then (F2_162 p0) else (if p0 = (247 : Int32) then (F2_162 p0) else (if (F3 p0 (768 : Int32) (879 : Int32)) = (0 : Int32) then (if p0 = (894 : Int32) then (F2_162 p0) else (if (F3 p0 (8192 : Int32) (8203 : Int32)) = (0 : Int32) then (if (F3 p0 (8206 : Int32) (8303 : Int32)) = (0 : Int32) then (if (F3 p0 (8592 : Int32) (11263 : Int32)) = (0 : Int32) then (if (F3 p0 (12272 : Int32) (12288 : Int32)) = (0 : Int32) then (if (F3 p0 (55296 : Int32) (63743 : Int32)) = (0 : Int32) then (if (F3 p0 (64976 : Int32) (65007 : Int32)) = (0 : Int32) then (if (F3 p0 (65534 : Int32) (65535 : Int32)) = (0 : Int32) then (F2_167 p0 (0 : Int32)) else (F2_162 p0)) else (F2_162 p0)) else (F2_162 p0)) else (F2_162 p0)) else (F2_162 p0)) else (F2_162 p0)) else (F2_162 p0))) else (F2_162 p0))))) h0 n0) 0 0) _
            by_cases hc47 : p0 = (215 : Int32)
            · rw [if_pos hc47]
              refine own_go (G := T80.setTop (mkF m 162 #[.val (.int p0), .unset] [])) (fun _ k => XS.icmpYes X80.here hx rfl (pc0 := 47) (pc' := 162) rfl (hb hby d2_47) rfl (teq hc47).1 (by decide) (by decide) k) ?_
              exact j162  _ _ X80 e80 N80
            · rw [if_neg hc47]
              refine own_go (G := T80.setTop (mkF m 50 #[.val (.int p0), .unset] [])) (fun _ k => XS.icmpNo X80.here hx rfl (hb hby d2_47) rfl (feq hc47).1 k) ?_
              refine own_go (G := T80.setTop (mkF m 51 #[.val (.int p0), .unset] [(.int p0)])) (fun _ k => XS.iloadN X80.here hx rfl (hb hby d2_50) rfl k) ?_
              refine own_go (G := T80.setTop (mkF m 54 #[.val (.int p0), .unset] [(.int (247 : Int32)), (.int p0)])) (fun _ k => XS.sipush X80.here hx rfl (hb hby d2_51) k) ?_
              show own_Goes p e below (own_End s (own_Same (.int (if p0 = (247 : Int32) then (F2_162 p0) else (if (F3 p0 (768 : Int32) (879 : Int32)) = (0 : Int32) then (if p0 = (894 : Int32) then (F2_162 p0) else (if (F3 p0 (8192 : Int32) (8203 : Int32)) = (0 : Int32) then (if (F3 p0 (8206 : Int32) (8303 : Int32)) = (0 : Int32) then (if (F3 p0 (8592 : Int32) (11263 : Int32)) = (0 : Int32) then (if (F3 p0 (12272 : Int32) (12288 : Int32)) = (0 : Int32) then (if (F3 p0 (55296 : Int32) (63743 : Int32)) = (0 : Int32) then (if (F3 p0 (64976 : Int32) (65007 : Int32)) = (0 : Int32) then (if (F3 p0 (65534 : Int32) (65535 : Int32)) = (0 : Int32) then (F2_167 p0 (0 : Int32)) else (F2_162 p0)) else (F2_162 p0)) else (F2_162 p0)) else (F2_162 p0)) else (F2_162 p0)) else (F2_162 p0)) else (F2_162 p0))) else (F2_162 p0)))) h0 n0) 0 0) _
              by_cases hc54 : p0 = (247 : Int32)
              · rw [if_pos hc54]
                refine own_go (G := T80.setTop (mkF m 162 #[.val (.int p0), .unset] [])) (fun _ k => XS.icmpYes X80.here hx rfl (pc0 := 54) (pc' := 162) rfl (hb hby d2_54) rfl (teq hc54).1 (by decide) (by decide) k) ?_
                exact j162  _ _ X80 e80 N80
              · rw [if_neg hc54]
                refine own_go (G := T80.setTop (mkF m 57 #[.val (.int p0), .unset] [])) (fun _ k => XS.icmpNo X80.here hx rfl (hb hby d2_54) rfl (feq hc54).1 k) ?_
                refine own_go (G := T80.setTop (mkF m 58 #[.val (.int p0), .unset] [(.int p0)])) (fun _ k => XS.iloadN X80.here hx rfl (hb hby d2_57) rfl k) ?_
                refine own_go (G := T80.setTop (mkF m 61 #[.val (.int p0), .unset] [(.int (768 : Int32)), (.int p0)])) (fun _ k => XS.sipush X80.here hx rfl (hb hby d2_58) k) ?_
                refine own_go (G := T80.setTop (mkF m 64 #[.val (.int p0), .unset] [(.int (879 : Int32)), (.int (768 : Int32)), (.int p0)])) (fun _ k => XS.sipush X80.here hx rfl (hb hby d2_61) k) ?_
                obtain ⟨_, _, ⟨T105, L105, k105, n105⟩, -, X105, ⟨Lc105, hQ105, l105, y105, z105⟩, st105⟩ := Jvm.LawKit.callS X80 hx (y := (⟨"com/example/xrefloom/xrefloom/tree/XmlNamesIsNameStartCharPinLaw", "in", "(III)Z"⟩ : MethodName)) hown (mvT hZ (hw _ (List.mem_of_getElem? (i := 13) rfl))) (mvT hZ (hw _ (List.mem_of_getElem? (i := 14) rfl))) (mvT hZ (hw _ (List.mem_of_getElem? (i := 9) rfl))) (mvT hZ (hw _ (List.mem_of_getElem? (i := 15) rfl))) (by decide) (backOf (W := 0) (rm3 l Z a0 hw [] p0 (768 : Int32) (879 : Int32) h0 n0 Z0) hZ (hw _ (List.mem_of_getElem? (i := 15) rfl)) (hw _ (List.mem_of_getElem? (i := 9) rfl)) (by decide) (by decide)) (g := (mkF m 64 #[.val (.int p0), .unset] [(.int (879 : Int32)), (.int (768 : Int32)), (.int p0)])) rfl (by rw [hml]; rfl) (argsL := [(.int p0), (.int (768 : Int32)), (.int (879 : Int32))]) (rest := []) (lenOf pd0 rfl) rfl (by show 2 * 0 + _ ≤ _; exact Nat.le_of_eq rfl) (hb hby d2_64) (fun _ _ => ⟨rfl, e80, (by decide : 0 + 0 ≤ _), (by decide : 0 + 0 ≤ _)⟩)
                dsimp only [Pt.U, Pt.locs, Pt.cells, Pt.slots] at X105 l105 y105 z105 st105 hQ105
                subst l105 y105 z105
                obtain ⟨rfl, Nq105, e105⟩ := hQ105
                have N105 := Fr.app N80 Nq105
                refine own_go (G := T105.setTop (mkF m 67 #[.val (.int p0), .unset] [(.int (F3 p0 (768 : Int32) (879 : Int32)))])) (st105) ?_
                show own_Goes p e below (own_End s (own_Same (.int (if (F3 p0 (768 : Int32) (879 : Int32)) = (0 : Int32) then (if p0 = (894 : Int32) then (F2_162 p0) else (if (F3 p0 (8192 : Int32) (8203 : Int32)) = (0 : Int32) then (if (F3 p0 (8206 : Int32) (8303 : Int32)) = (0 : Int32) then (if (F3 p0 (8592 : Int32) (11263 : Int32)) = (0 : Int32) then (if (F3 p0 (12272 : Int32) (12288 : Int32)) = (0 : Int32) then (if (F3 p0 (55296 : Int32) (63743 : Int32)) = (0 : Int32) then (if (F3 p0 (64976 : Int32) (65007 : Int32)) = (0 : Int32) then (if (F3 p0 (65534 : Int32) (65535 : Int32)) = (0 : Int32) then (F2_167 p0 (0 : Int32)) else (F2_162 p0)) else (F2_162 p0)) else (F2_162 p0)) else (F2_162 p0)) else (F2_162 p0)) else (F2_162 p0)) else (F2_162 p0))) else (F2_162 p0))) h0 n0) 0 0) _
                by_cases hc67 : (F3 p0 (768 : Int32) (879 : Int32)) = (0 : Int32)
                · rw [if_pos hc67]
                  refine own_go (G := T105.setTop (mkF m 70 #[.val (.int p0), .unset] [])) (fun _ k => XS.ifNo X105.here hx rfl (hb hby d2_67) rfl ((if0 _ _).trans (teq hc67).2) k) ?_
                  refine own_go (G := T105.setTop (mkF m 71 #[.val (.int p0), .unset] [(.int p0)])) (fun _ k => XS.iloadN X105.here hx rfl (hb hby d2_70) rfl k) ?_
                  refine own_go (G := T105.setTop (mkF m 74 #[.val (.int p0), .unset] [(.int (894 : Int32)), (.int p0)])) (fun _ k => XS.sipush X105.here hx rfl (hb hby d2_71) k) ?_
                  show own_Goes p e below (own_End s (own_Same (.int (if p0 = (894 : Int32) then (F2_162 p0) else (if (F3 p0 (8192 : Int32) (8203 : Int32)) = (0 : Int32) then (if (F3 p0 (8206 : Int32) (8303 : Int32)) = (0 : Int32) then (if (F3 p0 (8592 : Int32) (11263 : Int32)) = (0 : Int32) then (if (F3 p0 (12272 : Int32) (12288 : Int32)) = (0 : Int32) then (if (F3 p0 (55296 : Int32) (63743 : Int32)) = (0 : Int32) then (if (F3 p0 (64976 : Int32) (65007 : Int32)) = (0 : Int32) then (if (F3 p0 (65534 : Int32) (65535 : Int32)) = (0 : Int32) then (F2_167 p0 (0 : Int32)) else (F2_162 p0)) else (F2_162 p0)) else (F2_162 p0)) else (F2_162 p0)) else (F2_162 p0)) else (F2_162 p0)) else (F2_162 p0)))) h0 n0) 0 0) _
                  by_cases hc74 : p0 = (894 : Int32)
                  · rw [if_pos hc74]
                    refine own_go (G := T105.setTop (mkF m 162 #[.val (.int p0), .unset] [])) (fun _ k => XS.icmpYes X105.here hx rfl (pc0 := 74) (pc' := 162) rfl (hb hby d2_74) rfl (teq hc74).1 (by decide) (by decide) k) ?_
                    exact j162  _ _ X105 e105 N105
                  · rw [if_neg hc74]
                    refine own_go (G := T105.setTop (mkF m 77 #[.val (.int p0), .unset] [])) (fun _ k => XS.icmpNo X105.here hx rfl (hb hby d2_74) rfl (feq hc74).1 k) ?_
                    refine own_go (G := T105.setTop (mkF m 78 #[.val (.int p0), .unset] [(.int p0)])) (fun _ k => XS.iloadN X105.here hx rfl (hb hby d2_77) rfl k) ?_
                    refine own_go (G := T105.setTop (mkF m 81 #[.val (.int p0), .unset] [(.int (8192 : Int32)), (.int p0)])) (fun _ k => XS.sipush X105.here hx rfl (hb hby d2_78) k) ?_
                    refine own_go (G := T105.setTop (mkF m 84 #[.val (.int p0), .unset] [(.int (8203 : Int32)), (.int (8192 : Int32)), (.int p0)])) (fun _ k => XS.sipush X105.here hx rfl (hb hby d2_81) k) ?_
                    obtain ⟨_, _, ⟨T120, L120, k120, n120⟩, -, X120, ⟨Lc120, hQ120, l120, y120, z120⟩, st120⟩ := Jvm.LawKit.callS X105 hx (y := (⟨"com/example/xrefloom/xrefloom/tree/XmlNamesIsNameStartCharPinLaw", "in", "(III)Z"⟩ : MethodName)) hown (mvT hZ (hw _ (List.mem_of_getElem? (i := 13) rfl))) (mvT hZ (hw _ (List.mem_of_getElem? (i := 14) rfl))) (mvT hZ (hw _ (List.mem_of_getElem? (i := 9) rfl))) (mvT hZ (hw _ (List.mem_of_getElem? (i := 15) rfl))) (by decide) (backOf (W := 0) (rm3 l Z a0 hw [] p0 (8192 : Int32) (8203 : Int32) h0 n0 Z0) hZ (hw _ (List.mem_of_getElem? (i := 15) rfl)) (hw _ (List.mem_of_getElem? (i := 9) rfl)) (by decide) (by decide)) (g := (mkF m 84 #[.val (.int p0), .unset] [(.int (8203 : Int32)), (.int (8192 : Int32)), (.int p0)])) rfl (by rw [hml]; rfl) (argsL := [(.int p0), (.int (8192 : Int32)), (.int (8203 : Int32))]) (rest := []) (lenOf pd0 rfl) rfl (by show 2 * 0 + _ ≤ _; exact Nat.le_of_eq rfl) (hb hby d2_84) (fun _ _ => ⟨rfl, e105, (by decide : 0 + 0 ≤ _), (by decide : 0 + 0 ≤ _)⟩)
                    dsimp only [Pt.U, Pt.locs, Pt.cells, Pt.slots] at X120 l120 y120 z120 st120 hQ120
                    subst l120 y120 z120
                    obtain ⟨rfl, Nq120, e120⟩ := hQ120
                    have N120 := Fr.app N105 Nq120
                    refine own_go (G := T120.setTop (mkF m 87 #[.val (.int p0), .unset] [(.int (F3 p0 (8192 : Int32) (8203 : Int32)))])) (st120) ?_
                    show own_Goes p e below (own_End s (own_Same (.int (if (F3 p0 (8192 : Int32) (8203 : Int32)) = (0 : Int32) then (if (F3 p0 (8206 : Int32) (8303 : Int32)) = (0 : Int32) then (if (F3 p0 (8592 : Int32) (11263 : Int32)) = (0 : Int32) then (if (F3 p0 (12272 : Int32) (12288 : Int32)) = (0 : Int32) then (if (F3 p0 (55296 : Int32) (63743 : Int32)) = (0 : Int32) then (if (F3 p0 (64976 : Int32) (65007 : Int32)) = (0 : Int32) then (if (F3 p0 (65534 : Int32) (65535 : Int32)) = (0 : Int32) then (F2_167 p0 (0 : Int32)) else (F2_162 p0)) else (F2_162 p0)) else (F2_162 p0)) else (F2_162 p0)) else (F2_162 p0)) else (F2_162 p0)) else (F2_162 p0))) h0 n0) 0 0) _
                    by_cases hc87 : (F3 p0 (8192 : Int32) (8203 : Int32)) = (0 : Int32)
                    · rw [if_pos hc87]
                      refine own_go (G := T120.setTop (mkF m 90 #[.val (.int p0), .unset] [])) (fun _ k => XS.ifNo X120.here hx rfl (hb hby d2_87) rfl ((if0 _ _).trans (teq hc87).2) k) ?_
                      refine own_go (G := T120.setTop (mkF m 91 #[.val (.int p0), .unset] [(.int p0)])) (fun _ k => XS.iloadN X120.here hx rfl (hb hby d2_90) rfl k) ?_
                      refine own_go (G := T120.setTop (mkF m 94 #[.val (.int p0), .unset] [(.int (8206 : Int32)), (.int p0)])) (fun _ k => XS.sipush X120.here hx rfl (hb hby d2_91) k) ?_
                      refine own_go (G := T120.setTop (mkF m 97 #[.val (.int p0), .unset] [(.int (8303 : Int32)), (.int (8206 : Int32)), (.int p0)])) (fun _ k => XS.sipush X120.here hx rfl (hb hby d2_94) k) ?_
                      obtain ⟨_, _, ⟨T127, L127, k127, n127⟩, -, X127, ⟨Lc127, hQ127, l127, y127, z127⟩, st127⟩ := Jvm.LawKit.callS X120 hx (y := (⟨"com/example/xrefloom/xrefloom/tree/XmlNamesIsNameStartCharPinLaw", "in", "(III)Z"⟩ : MethodName)) hown (mvT hZ (hw _ (List.mem_of_getElem? (i := 13) rfl))) (mvT hZ (hw _ (List.mem_of_getElem? (i := 14) rfl))) (mvT hZ (hw _ (List.mem_of_getElem? (i := 9) rfl))) (mvT hZ (hw _ (List.mem_of_getElem? (i := 15) rfl))) (by decide) (backOf (W := 0) (rm3 l Z a0 hw [] p0 (8206 : Int32) (8303 : Int32) h0 n0 Z0) hZ (hw _ (List.mem_of_getElem? (i := 15) rfl)) (hw _ (List.mem_of_getElem? (i := 9) rfl)) (by decide) (by decide)) (g := (mkF m 97 #[.val (.int p0), .unset] [(.int (8303 : Int32)), (.int (8206 : Int32)), (.int p0)])) rfl (by rw [hml]; rfl) (argsL := [(.int p0), (.int (8206 : Int32)), (.int (8303 : Int32))]) (rest := []) (lenOf pd0 rfl) rfl (by show 2 * 0 + _ ≤ _; exact Nat.le_of_eq rfl) (hb hby d2_97) (fun _ _ => ⟨rfl, e120, (by decide : 0 + 0 ≤ _), (by decide : 0 + 0 ≤ _)⟩)
                      dsimp only [Pt.U, Pt.locs, Pt.cells, Pt.slots] at X127 l127 y127 z127 st127 hQ127
                      subst l127 y127 z127
                      obtain ⟨rfl, Nq127, e127⟩ := hQ127
                      have N127 := Fr.app N120 Nq127
                      refine own_go (G := T127.setTop (mkF m 100 #[.val (.int p0), .unset] [(.int (F3 p0 (8206 : Int32) (8303 : Int32)))])) (st127) ?_
                      show own_Goes p e below (own_End s (own_Same (.int (if (F3 p0 (8206 : Int32) (8303 : Int32)) = (0 : Int32) then (if (F3 p0 (8592 : Int32) (11263 : Int32)) = (0 : Int32) then (if (F3 p0 (12272 : Int32) (12288 : Int32)) = (0 : Int32) then (if (F3 p0 (55296 : Int32) (63743 : Int32)) = (0 : Int32) then (if (F3 p0 (64976 : Int32) (65007 : Int32)) = (0 : Int32) then (if (F3 p0 (65534 : Int32) (65535 : Int32)) = (0 : Int32) then (F2_167 p0 (0 : Int32)) else (F2_162 p0)) else (F2_162 p0)) else (F2_162 p0)) else (F2_162 p0)) else (F2_162 p0)) else (F2_162 p0))) h0 n0) 0 0) _
                      by_cases hc100 : (F3 p0 (8206 : Int32) (8303 : Int32)) = (0 : Int32)
                      · rw [if_pos hc100]
                        refine own_go (G := T127.setTop (mkF m 103 #[.val (.int p0), .unset] [])) (fun _ k => XS.ifNo X127.here hx rfl (hb hby d2_100) rfl ((if0 _ _).trans (teq hc100).2) k) ?_
                        refine own_go (G := T127.setTop (mkF m 104 #[.val (.int p0), .unset] [(.int p0)])) (fun _ k => XS.iloadN X127.here hx rfl (hb hby d2_103) rfl k) ?_
                        refine own_go (G := T127.setTop (mkF m 107 #[.val (.int p0), .unset] [(.int (8592 : Int32)), (.int p0)])) (fun _ k => XS.sipush X127.here hx rfl (hb hby d2_104) k) ?_
                        refine own_go (G := T127.setTop (mkF m 110 #[.val (.int p0), .unset] [(.int (11263 : Int32)), (.int (8592 : Int32)), (.int p0)])) (fun _ k => XS.sipush X127.here hx rfl (hb hby d2_107) k) ?_
                        obtain ⟨_, _, ⟨T133, L133, k133, n133⟩, -, X133, ⟨Lc133, hQ133, l133, y133, z133⟩, st133⟩ := Jvm.LawKit.callS X127 hx (y := (⟨"com/example/xrefloom/xrefloom/tree/XmlNamesIsNameStartCharPinLaw", "in", "(III)Z"⟩ : MethodName)) hown (mvT hZ (hw _ (List.mem_of_getElem? (i := 13) rfl))) (mvT hZ (hw _ (List.mem_of_getElem? (i := 14) rfl))) (mvT hZ (hw _ (List.mem_of_getElem? (i := 9) rfl))) (mvT hZ (hw _ (List.mem_of_getElem? (i := 15) rfl))) (by decide) (backOf (W := 0) (rm3 l Z a0 hw [] p0 (8592 : Int32) (11263 : Int32) h0 n0 Z0) hZ (hw _ (List.mem_of_getElem? (i := 15) rfl)) (hw _ (List.mem_of_getElem? (i := 9) rfl)) (by decide) (by decide)) (g := (mkF m 110 #[.val (.int p0), .unset] [(.int (11263 : Int32)), (.int (8592 : Int32)), (.int p0)])) rfl (by rw [hml]; rfl) (argsL := [(.int p0), (.int (8592 : Int32)), (.int (11263 : Int32))]) (rest := []) (lenOf pd0 rfl) rfl (by show 2 * 0 + _ ≤ _; exact Nat.le_of_eq rfl) (hb hby d2_110) (fun _ _ => ⟨rfl, e127, (by decide : 0 + 0 ≤ _), (by decide : 0 + 0 ≤ _)⟩)
                        dsimp only [Pt.U, Pt.locs, Pt.cells, Pt.slots] at X133 l133 y133 z133 st133 hQ133
                        subst l133 y133 z133
                        obtain ⟨rfl, Nq133, e133⟩ := hQ133
                        have N133 := Fr.app N127 Nq133
                        refine own_go (G := T133.setTop (mkF m 113 #[.val (.int p0), .unset] [(.int (F3 p0 (8592 : Int32) (11263 : Int32)))])) (st133) ?_
                        show own_Goes p e below (own_End s (own_Same (.int (if (F3 p0 (8592 : Int32) (11263 : Int32)) = (0 : Int32) then (if (F3 p0 (12272 : Int32) (12288 : Int32)) = (0 : Int32) then (if (F3 p0 (55296 : Int32) (63743 : Int32)) = (0 : Int32) then (if (F3 p0 (64976 : Int32) (65007 : Int32)) = (0 : Int32) then (if (F3 p0 (65534 : Int32) (65535 : Int32)) = (0 : Int32) then (F2_167 p0 (0 : Int32)) else (F2_162 p0)) else (F2_162 p0)) else (F2_162 p0)) else (F2_162 p0)) else (F2_162 p0))) h0 n0) 0 0) _
                        by_cases hc113 : (F3 p0 (8592 : Int32) (11263 : Int32)) = (0 : Int32)
                        · rw [if_pos hc113]
                          refine own_go (G := T133.setTop (mkF m 116 #[.val (.int p0), .unset] [])) (fun _ k => XS.ifNo X133.here hx rfl (hb hby d2_113) rfl ((if0 _ _).trans (teq hc113).2) k) ?_
                          refine own_go (G := T133.setTop (mkF m 117 #[.val (.int p0), .unset] [(.int p0)])) (fun _ k => XS.iloadN X133.here hx rfl (hb hby d2_116) rfl k) ?_
                          refine own_go (G := T133.setTop (mkF m 120 #[.val (.int p0), .unset] [(.int (12272 : Int32)), (.int p0)])) (fun _ k => XS.sipush X133.here hx rfl (hb hby d2_117) k) ?_
                          refine own_go (G := T133.setTop (mkF m 123 #[.val (.int p0), .unset] [(.int (12288 : Int32)), (.int (12272 : Int32)), (.int p0)])) (fun _ k => XS.sipush X133.here hx rfl (hb hby d2_120) k) ?_
                          obtain ⟨_, _, ⟨T138, L138, k138, n138⟩, -, X138, ⟨Lc138, hQ138, l138, y138, z138⟩, st138⟩ := Jvm.LawKit.callS X133 hx (y := (⟨"com/example/xrefloom/xrefloom/tree/XmlNamesIsNameStartCharPinLaw", "in", "(III)Z"⟩ : MethodName)) hown (mvT hZ (hw _ (List.mem_of_getElem? (i := 13) rfl))) (mvT hZ (hw _ (List.mem_of_getElem? (i := 14) rfl))) (mvT hZ (hw _ (List.mem_of_getElem? (i := 9) rfl))) (mvT hZ (hw _ (List.mem_of_getElem? (i := 15) rfl))) (by decide) (backOf (W := 0) (rm3 l Z a0 hw [] p0 (12272 : Int32) (12288 : Int32) h0 n0 Z0) hZ (hw _ (List.mem_of_getElem? (i := 15) rfl)) (hw _ (List.mem_of_getElem? (i := 9) rfl)) (by decide) (by decide)) (g := (mkF m 123 #[.val (.int p0), .unset] [(.int (12288 : Int32)), (.int (12272 : Int32)), (.int p0)])) rfl (by rw [hml]; rfl) (argsL := [(.int p0), (.int (12272 : Int32)), (.int (12288 : Int32))]) (rest := []) (lenOf pd0 rfl) rfl (by show 2 * 0 + _ ≤ _; exact Nat.le_of_eq rfl) (hb hby d2_123) (fun _ _ => ⟨rfl, e133, (by decide : 0 + 0 ≤ _), (by decide : 0 + 0 ≤ _)⟩)
                          dsimp only [Pt.U, Pt.locs, Pt.cells, Pt.slots] at X138 l138 y138 z138 st138 hQ138
                          subst l138 y138 z138
                          obtain ⟨rfl, Nq138, e138⟩ := hQ138
                          have N138 := Fr.app N133 Nq138
                          refine own_go (G := T138.setTop (mkF m 126 #[.val (.int p0), .unset] [(.int (F3 p0 (12272 : Int32) (12288 : Int32)))])) (st138) ?_
                          show own_Goes p e below (own_End s (own_Same (.int (if (F3 p0 (12272 : Int32) (12288 : Int32)) = (0 : Int32) then (if (F3 p0 (55296 : Int32) (63743 : Int32)) = (0 : Int32) then (if (F3 p0 (64976 : Int32) (65007 : Int32)) = (0 : Int32) then (if (F3 p0 (65534 : Int32) (65535 : Int32)) = (0 : Int32) then (F2_167 p0 (0 : Int32)) else (F2_162 p0)) else (F2_162 p0)) else (F2_162 p0)) else (F2_162 p0))) h0 n0) 0 0) _
                          by_cases hc126 : (F3 p0 (12272 : Int32) (12288 : Int32)) = (0 : Int32)
                          · rw [if_pos hc126]
                            refine own_go (G := T138.setTop (mkF m 129 #[.val (.int p0), .unset] [])) (fun _ k => XS.ifNo X138.here hx rfl (hb hby d2_126) rfl ((if0 _ _).trans (teq hc126).2) k) ?_
                            refine own_go (G := T138.setTop (mkF m 130 #[.val (.int p0), .unset] [(.int p0)])) (fun _ k => XS.iloadN X138.here hx rfl (hb hby d2_129) rfl k) ?_
                            refine own_go (G := T138.setTop (mkF m 132 #[.val (.int p0), .unset] [(.int (55296 : Int32)), (.int p0)])) (X138.ldcInt hx hown (mvT hZ (hw _ (List.mem_of_getElem? (i := 16) rfl))) (g := (mkF m 130 #[.val (.int p0), .unset] [(.int p0)])) rfl (hb hby d2_130)) ?_
                            refine own_go (G := T138.setTop (mkF m 134 #[.val (.int p0), .unset] [(.int (63743 : Int32)), (.int (55296 : Int32)), (.int p0)])) (X138.ldcInt hx hown (mvT hZ (hw _ (List.mem_of_getElem? (i := 17) rfl))) (g := (mkF m 132 #[.val (.int p0), .unset] [(.int (55296 : Int32)), (.int p0)])) rfl (hb hby d2_132)) ?_
                            obtain ⟨_, _, ⟨T142, L142, k142, n142⟩, -, X142, ⟨Lc142, hQ142, l142, y142, z142⟩, st142⟩ := Jvm.LawKit.callS X138 hx (y := (⟨"com/example/xrefloom/xrefloom/tree/XmlNamesIsNameStartCharPinLaw", "in", "(III)Z"⟩ : MethodName)) hown (mvT hZ (hw _ (List.mem_of_getElem? (i := 13) rfl))) (mvT hZ (hw _ (List.mem_of_getElem? (i := 14) rfl))) (mvT hZ (hw _ (List.mem_of_getElem? (i := 9) rfl))) (mvT hZ (hw _ (List.mem_of_getElem? (i := 15) rfl))) (by decide) (backOf (W := 0) (rm3 l Z a0 hw [] p0 (55296 : Int32) (63743 : Int32) h0 n0 Z0) hZ (hw _ (List.mem_of_getElem? (i := 15) rfl)) (hw _ (List.mem_of_getElem? (i := 9) rfl)) (by decide) (by decide)) (g := (mkF m 134 #[.val (.int p0), .unset] [(.int (63743 : Int32)), (.int (55296 : Int32)), (.int p0)])) rfl (by rw [hml]; rfl) (argsL := [(.int p0), (.int (55296 : Int32)), (.int (63743 : Int32))]) (rest := []) (lenOf pd0 rfl) rfl (by show 2 * 0 + _ ≤ _; exact Nat.le_of_eq rfl) (hb hby d2_134) (fun _ _ => ⟨rfl, e138, (by decide : 0 + 0 ≤ _), (by decide : 0 + 0 ≤ _)⟩)
                            dsimp only [Pt.U, Pt.locs, Pt.cells, Pt.slots] at X142 l142 y142 z142 st142 hQ142
                            subst l142 y142 z142
                            obtain ⟨rfl, Nq142, e142⟩ := hQ142
                            have N142 := Fr.app N138 Nq142
                            refine own_go (G := T142.setTop (mkF m 137 #[.val (.int p0), .unset] [(.int (F3 p0 (55296 : Int32) (63743 : Int32)))])) (st142) ?_
                            show own_Goes p e below (own_End s (own_Same (.int (if (F3 p0 (55296 : Int32) (63743 : Int32)) = (0 : Int32) then (if (F3 p0 (64976 : Int32) (65007 : Int32)) = (0 : Int32) then (if (F3 p0 (65534 : Int32) (65535 : Int32)) = (0 : Int32) then (F2_167 p0 (0 : Int32)) else (F2_162 p0)) else (F2_162 p0)) else (F2_162 p0))) h0 n0) 0 0) _
                            by_cases hc137 : (F3 p0 (55296 : Int32) (63743 : Int32)) = (0 : Int32)
                            · rw [if_pos hc137]
                              refine own_go (G := T142.setTop (mkF m 140 #[.val (.int p0), .unset] [])) (fun _ k => XS.ifNo X142.here hx rfl (hb hby d2_137) rfl ((if0 _ _).trans (teq hc137).2) k) ?_
                              refine own_go (G := T142.setTop (mkF m 141 #[.val (.int p0), .unset] [(.int p0)])) (fun _ k => XS.iloadN X142.here hx rfl (hb hby d2_140) rfl k) ?_
                              refine own_go (G := T142.setTop (mkF m 143 #[.val (.int p0), .unset] [(.int (64976 : Int32)), (.int p0)])) (X142.ldcInt hx hown (mvT hZ (hw _ (List.mem_of_getElem? (i := 18) rfl))) (g := (mkF m 141 #[.val (.int p0), .unset] [(.int p0)])) rfl (hb hby d2_141)) ?_
                              refine own_go (G := T142.setTop (mkF m 145 #[.val (.int p0), .unset] [(.int (65007 : Int32)), (.int (64976 : Int32)), (.int p0)])) (X142.ldcInt hx hown (mvT hZ (hw _ (List.mem_of_getElem? (i := 19) rfl))) (g := (mkF m 143 #[.val (.int p0), .unset] [(.int (64976 : Int32)), (.int p0)])) rfl (hb hby d2_143)) ?_
                              obtain ⟨_, _, ⟨T145, L145, k145, n145⟩, -, X145, ⟨Lc145, hQ145, l145, y145, z145⟩, st145⟩ := Jvm.LawKit.callS X142 hx (y := (⟨"com/example/xrefloom/xrefloom/tree/XmlNamesIsNameStartCharPinLaw", "in", "(III)Z"⟩ : MethodName)) hown (mvT hZ (hw _ (List.mem_of_getElem? (i := 13) rfl))) (mvT hZ (hw _ (List.mem_of_getElem? (i := 14) rfl))) (mvT hZ (hw _ (List.mem_of_getElem? (i := 9) rfl))) (mvT hZ (hw _ (List.mem_of_getElem? (i := 15) rfl))) (by decide) (backOf (W := 0) (rm3 l Z a0 hw [] p0 (64976 : Int32) (65007 : Int32) h0 n0 Z0) hZ (hw _ (List.mem_of_getElem? (i := 15) rfl)) (hw _ (List.mem_of_getElem? (i := 9) rfl)) (by decide) (by decide)) (g := (mkF m 145 #[.val (.int p0), .unset] [(.int (65007 : Int32)), (.int (64976 : Int32)), (.int p0)])) rfl (by rw [hml]; rfl) (argsL := [(.int p0), (.int (64976 : Int32)), (.int (65007 : Int32))]) (rest := []) (lenOf pd0 rfl) rfl (by show 2 * 0 + _ ≤ _; exact Nat.le_of_eq rfl) (hb hby d2_145) (fun _ _ => ⟨rfl, e142, (by decide : 0 + 0 ≤ _), (by decide : 0 + 0 ≤ _)⟩)
                              dsimp only [Pt.U, Pt.locs, Pt.cells, Pt.slots] at X145 l145 y145 z145 st145 hQ145
                              subst l145 y145 z145
                              obtain ⟨rfl, Nq145, e145⟩ := hQ145
                              have N145 := Fr.app N142 Nq145
                              refine own_go (G := T145.setTop (mkF m 148 #[.val (.int p0), .unset] [(.int (F3 p0 (64976 : Int32) (65007 : Int32)))])) (st145) ?_
                              show own_Goes p e below (own_End s (own_Same (.int (if (F3 p0 (64976 : Int32) (65007 : Int32)) = (0 : Int32) then (if (F3 p0 (65534 : Int32) (65535 : Int32)) = (0 : Int32) then (F2_167 p0 (0 : Int32)) else (F2_162 p0)) else (F2_162 p0))) h0 n0) 0 0) _
                              by_cases hc148 : (F3 p0 (64976 : Int32) (65007 : Int32)) = (0 : Int32)
                              · rw [if_pos hc148]
                                refine own_go (G := T145.setTop (mkF m 151 #[.val (.int p0), .unset] [])) (fun _ k => XS.ifNo X145.here hx rfl (hb hby d2_148) rfl ((if0 _ _).trans (teq hc148).2) k) ?_
                                refine own_go (G := T145.setTop (mkF m 152 #[.val (.int p0), .unset] [(.int p0)])) (fun _ k => XS.iloadN X145.here hx rfl (hb hby d2_151) rfl k) ?_
                                refine own_go (G := T145.setTop (mkF m 154 #[.val (.int p0), .unset] [(.int (65534 : Int32)), (.int p0)])) (X145.ldcInt hx hown (mvT hZ (hw _ (List.mem_of_getElem? (i := 20) rfl))) (g := (mkF m 152 #[.val (.int p0), .unset] [(.int p0)])) rfl (hb hby d2_152)) ?_
                                refine own_go (G := T145.setTop (mkF m 156 #[.val (.int p0), .unset] [(.int (65535 : Int32)), (.int (65534 : Int32)), (.int p0)])) (X145.ldcInt hx hown (mvT hZ (hw _ (List.mem_of_getElem? (i := 11) rfl))) (g := (mkF m 154 #[.val (.int p0), .unset] [(.int (65534 : Int32)), (.int p0)])) rfl (hb hby d2_154)) ?_
                                obtain ⟨_, _, ⟨T147, L147, k147, n147⟩, -, X147, ⟨Lc147, hQ147, l147, y147, z147⟩, st147⟩ := Jvm.LawKit.callS X145 hx (y := (⟨"com/example/xrefloom/xrefloom/tree/XmlNamesIsNameStartCharPinLaw", "in", "(III)Z"⟩ : MethodName)) hown (mvT hZ (hw _ (List.mem_of_getElem? (i := 13) rfl))) (mvT hZ (hw _ (List.mem_of_getElem? (i := 14) rfl))) (mvT hZ (hw _ (List.mem_of_getElem? (i := 9) rfl))) (mvT hZ (hw _ (List.mem_of_getElem? (i := 15) rfl))) (by decide) (backOf (W := 0) (rm3 l Z a0 hw [] p0 (65534 : Int32) (65535 : Int32) h0 n0 Z0) hZ (hw _ (List.mem_of_getElem? (i := 15) rfl)) (hw _ (List.mem_of_getElem? (i := 9) rfl)) (by decide) (by decide)) (g := (mkF m 156 #[.val (.int p0), .unset] [(.int (65535 : Int32)), (.int (65534 : Int32)), (.int p0)])) rfl (by rw [hml]; rfl) (argsL := [(.int p0), (.int (65534 : Int32)), (.int (65535 : Int32))]) (rest := []) (lenOf pd0 rfl) rfl (by show 2 * 0 + _ ≤ _; exact Nat.le_of_eq rfl) (hb hby d2_156) (fun _ _ => ⟨rfl, e145, (by decide : 0 + 0 ≤ _), (by decide : 0 + 0 ≤ _)⟩)
                                dsimp only [Pt.U, Pt.locs, Pt.cells, Pt.slots] at X147 l147 y147 z147 st147 hQ147
                                subst l147 y147 z147
                                obtain ⟨rfl, Nq147, e147⟩ := hQ147
                                have N147 := Fr.app N145 Nq147
                                refine own_go (G := T147.setTop (mkF m 159 #[.val (.int p0), .unset] [(.int (F3 p0 (65534 : Int32) (65535 : Int32)))])) (st147) ?_
                                show own_Goes p e below (own_End s (own_Same (.int (if (F3 p0 (65534 : Int32) (65535 : Int32)) = (0 : Int32) then (F2_167 p0 (0 : Int32)) else (F2_162 p0))) h0 n0) 0 0) _
                                by_cases hc159 : (F3 p0 (65534 : Int32) (65535 : Int32)) = (0 : Int32)
                                · rw [if_pos hc159]
                                  refine own_go (G := T147.setTop (mkF m 166 #[.val (.int p0), .unset] [])) (fun _ k => XS.ifYes X147.here hx rfl (pc0 := 159) (pc' := 166) rfl (hb hby d2_159) rfl ((if0 _ _).trans (teq hc159).1) (by decide) (by decide) k) ?_
                                  refine own_go (G := T147.setTop (mkF m 167 #[.val (.int p0), .unset] [(.int (0 : Int32))])) (fun _ k => XS.iconst X147.here hx rfl (hb hby d2_166) k) ?_
                                  exact j167 (0 : Int32) _ _ X147 e147 N147
                                · rw [if_neg hc159]
                                  refine own_go (G := T147.setTop (mkF m 162 #[.val (.int p0), .unset] [])) (fun _ k => XS.ifNo X147.here hx rfl (hb hby d2_159) rfl ((if0 _ _).trans (feq hc159).1) k) ?_
                                  exact j162  _ _ X147 e147 N147
                              · rw [if_neg hc148]
                                refine own_go (G := T145.setTop (mkF m 162 #[.val (.int p0), .unset] [])) (fun _ k => XS.ifYes X145.here hx rfl (pc0 := 148) (pc' := 162) rfl (hb hby d2_148) rfl ((if0 _ _).trans (feq hc148).2) (by decide) (by decide) k) ?_
                                exact j162  _ _ X145 e145 N145
                            · rw [if_neg hc137]
                              refine own_go (G := T142.setTop (mkF m 162 #[.val (.int p0), .unset] [])) (fun _ k => XS.ifYes X142.here hx rfl (pc0 := 137) (pc' := 162) rfl (hb hby d2_137) rfl ((if0 _ _).trans (feq hc137).2) (by decide) (by decide) k) ?_
                              exact j162  _ _ X142 e142 N142
                          · rw [if_neg hc126]
                            refine own_go (G := T138.setTop (mkF m 162 #[.val (.int p0), .unset] [])) (fun _ k => XS.ifYes X138.here hx rfl (pc0 := 126) (pc' := 162) rfl (hb hby d2_126) rfl ((if0 _ _).trans (feq hc126).2) (by decide) (by decide) k) ?_
                            exact j162  _ _ X138 e138 N138
                        · rw [if_neg hc113]
                          refine own_go (G := T133.setTop (mkF m 162 #[.val (.int p0), .unset] [])) (fun _ k => XS.ifYes X133.here hx rfl (pc0 := 113) (pc' := 162) rfl (hb hby d2_113) rfl ((if0 _ _).trans (feq hc113).2) (by decide) (by decide) k) ?_
                          exact j162  _ _ X133 e133 N133
                      · rw [if_neg hc100]
                        refine own_go (G := T127.setTop (mkF m 162 #[.val (.int p0), .unset] [])) (fun _ k => XS.ifYes X127.here hx rfl (pc0 := 100) (pc' := 162) rfl (hb hby d2_100) rfl ((if0 _ _).trans (feq hc100).2) (by decide) (by decide) k) ?_
                        exact j162  _ _ X127 e127 N127
                    · rw [if_neg hc87]
                      refine own_go (G := T120.setTop (mkF m 162 #[.val (.int p0), .unset] [])) (fun _ k => XS.ifYes X120.here hx rfl (pc0 := 87) (pc' := 162) rfl (hb hby d2_87) rfl ((if0 _ _).trans (feq hc87).2) (by decide) (by decide) k) ?_
                      exact j162  _ _ X120 e120 N120
                · rw [if_neg hc67]
                  refine own_go (G := T105.setTop (mkF m 162 #[.val (.int p0), .unset] [])) (fun _ k => XS.ifYes X105.here hx rfl (pc0 := 67) (pc' := 162) rfl (hb hby d2_67) rfl ((if0 _ _).trans (feq hc67).2) (by decide) (by decide) k) ?_
                  exact j162  _ _ X105 e105 N105
          · rw [if_neg hc40]
            refine own_go (G := T80.setTop (mkF m 162 #[.val (.int p0), .unset] [])) (fun _ k => XS.ifYes X80.here hx rfl (pc0 := 40) (pc' := 162) rfl (hb hby d2_40) rfl ((if0 _ _).trans (feq hc40).2) (by decide) (by decide) k) ?_
            exact j162  _ _ X80 e80 N80
      · rw [if_neg hc22]
        refine own_go (G := T61.setTop (mkF m 162 #[.val (.int p0), .unset] [])) (fun _ k => XS.ifYes X61.here hx rfl (pc0 := 22) (pc' := 162) rfl (hb hby d2_22) rfl ((if0 _ _).trans (feq hc22).2) (by decide) (by decide) k) ?_
        exact j162  _ _ X61 e61 N61
theorem own_c179 (p0 : Int32) : F1_179 p0 = if (65536 ≤ p0.toInt ∧ p0.toInt ≤ 983039) then 1 else 0 := by
  simp only [F1_179, own_ie, Int32.lt_iff_toInt_lt, Int32.reduceToInt]
  generalize p0.toInt = z
  repeat' split
  all_goals first | rfl | omega
theorem own_c167 (p0 : Int32) : F1_167 p0 = if (65536 ≤ p0.toInt ∧ p0.toInt ≤ 983039) ∨ (65008 ≤ p0.toInt ∧ p0.toInt ≤ 65533) then 1 else 0 := by
  simp only [F1_167, own_c179, own_ie, Int32.lt_iff_toInt_lt, Int32.reduceToInt]
  generalize p0.toInt = z
  repeat' split
  all_goals first | rfl | omega
theorem own_c155 (p0 : Int32) : F1_155 p0 = if (65536 ≤ p0.toInt ∧ p0.toInt ≤ 983039) ∨ (65008 ≤ p0.toInt ∧ p0.toInt ≤ 65533) ∨ (63744 ≤ p0.toInt ∧ p0.toInt ≤ 64975) then 1 else 0 := by
  simp only [F1_155, own_c167, own_ie, Int32.lt_iff_toInt_lt, Int32.reduceToInt]
  generalize p0.toInt = z
  repeat' split
  all_goals first | rfl | omega
theorem own_c142 (p0 : Int32) : F1_142 p0 = if (65536 ≤ p0.toInt ∧ p0.toInt ≤ 983039) ∨ (65008 ≤ p0.toInt ∧ p0.toInt ≤ 65533) ∨ (63744 ≤ p0.toInt ∧ p0.toInt ≤ 64975) ∨ (12289 ≤ p0.toInt ∧ p0.toInt ≤ 55295) then 1 else 0 := by
  simp only [F1_142, own_c155, own_ie, Int32.lt_iff_toInt_lt, Int32.reduceToInt]
  generalize p0.toInt = z
  repeat' split
  all_goals first | rfl | omega
theorem own_c128 (p0 : Int32) : F1_128 p0 = if (65536 ≤ p0.toInt ∧ p0.toInt ≤ 983039) ∨ (65008 ≤ p0.toInt ∧ p0.toInt ≤ 65533) ∨ (63744 ≤ p0.toInt ∧ p0.toInt ≤ 64975) ∨ (12289 ≤ p0.toInt ∧ p0.toInt ≤ 55295) ∨ (11264 ≤ p0.toInt ∧ p0.toInt ≤ 12271) then 1 else 0 := by
  simp only [F1_128, own_c142, own_ie, Int32.lt_iff_toInt_lt, Int32.reduceToInt]
  generalize p0.toInt = z
  repeat' split
  all_goals first | rfl | omega
theorem own_c114 (p0 : Int32) : F1_114 p0 = if (65536 ≤ p0.toInt ∧ p0.toInt ≤ 983039) ∨ (65008 ≤ p0.toInt ∧ p0.toInt ≤ 65533) ∨ (63744 ≤ p0.toInt ∧ p0.toInt ≤ 64975) ∨ (12289 ≤ p0.toInt ∧ p0.toInt ≤ 55295) ∨ (11264 ≤ p0.toInt ∧ p0.toInt ≤ 12271) ∨ (8304 ≤ p0.toInt ∧ p0.toInt ≤ 8591) then 1 else 0 := by
  simp only [F1_114, own_c128, own_ie, Int32.lt_iff_toInt_lt, Int32.reduceToInt]
  generalize p0.toInt = z
  repeat' split
  all_goals first | rfl | omega
theorem own_c100 (p0 : Int32) : F1_100 p0 = if (65536 ≤ p0.toInt ∧ p0.toInt ≤ 983039) ∨ (65008 ≤ p0.toInt ∧ p0.toInt ≤ 65533) ∨ (63744 ≤ p0.toInt ∧ p0.toInt ≤ 64975) ∨ (12289 ≤ p0.toInt ∧ p0.toInt ≤ 55295) ∨ (11264 ≤ p0.toInt ∧ p0.toInt ≤ 12271) ∨ (8304 ≤ p0.toInt ∧ p0.toInt ≤ 8591) ∨ (8204 ≤ p0.toInt ∧ p0.toInt ≤ 8205) then 1 else 0 := by
  simp only [F1_100, own_c114, own_ie, Int32.lt_iff_toInt_lt, Int32.reduceToInt]
  generalize p0.toInt = z
  repeat' split
  all_goals first | rfl | omega
theorem own_c86 (p0 : Int32) : F1_86 p0 = if (65536 ≤ p0.toInt ∧ p0.toInt ≤ 983039) ∨ (65008 ≤ p0.toInt ∧ p0.toInt ≤ 65533) ∨ (63744 ≤ p0.toInt ∧ p0.toInt ≤ 64975) ∨ (12289 ≤ p0.toInt ∧ p0.toInt ≤ 55295) ∨ (11264 ≤ p0.toInt ∧ p0.toInt ≤ 12271) ∨ (8304 ≤ p0.toInt ∧ p0.toInt ≤ 8591) ∨ (8204 ≤ p0.toInt ∧ p0.toInt ≤ 8205) ∨ (895 ≤ p0.toInt ∧ p0.toInt ≤ 8191) then 1 else 0 := by
  simp only [F1_86, own_c100, own_ie, Int32.lt_iff_toInt_lt, Int32.reduceToInt]
  generalize p0.toInt = z
  repeat' split
  all_goals first | rfl | omega
theorem own_c72 (p0 : Int32) : F1_72 p0 = if (65536 ≤ p0.toInt ∧ p0.toInt ≤ 983039) ∨ (65008 ≤ p0.toInt ∧ p0.toInt ≤ 65533) ∨ (63744 ≤ p0.toInt ∧ p0.toInt ≤ 64975) ∨ (12289 ≤ p0.toInt ∧ p0.toInt ≤ 55295) ∨ (11264 ≤ p0.toInt ∧ p0.toInt ≤ 12271) ∨ (8304 ≤ p0.toInt ∧ p0.toInt ≤ 8591) ∨ (8204 ≤ p0.toInt ∧ p0.toInt ≤ 8205) ∨ (895 ≤ p0.toInt ∧ p0.toInt ≤ 8191) ∨ (880 ≤ p0.toInt ∧ p0.toInt ≤ 893) then 1 else 0 := by
  simp only [F1_72, own_c86, own_ie, Int32.lt_iff_toInt_lt, Int32.reduceToInt]
  generalize p0.toInt = z
  repeat' split
  all_goals first | rfl | omega
theorem own_c58 (p0 : Int32) : F1_58 p0 = if (65536 ≤ p0.toInt ∧ p0.toInt ≤ 983039) ∨ (65008 ≤ p0.toInt ∧ p0.toInt ≤ 65533) ∨ (63744 ≤ p0.toInt ∧ p0.toInt ≤ 64975) ∨ (12289 ≤ p0.toInt ∧ p0.toInt ≤ 55295) ∨ (11264 ≤ p0.toInt ∧ p0.toInt ≤ 12271) ∨ (8304 ≤ p0.toInt ∧ p0.toInt ≤ 8591) ∨ (8204 ≤ p0.toInt ∧ p0.toInt ≤ 8205) ∨ (895 ≤ p0.toInt ∧ p0.toInt ≤ 8191) ∨ (880 ≤ p0.toInt ∧ p0.toInt ≤ 893) ∨ (248 ≤ p0.toInt ∧ p0.toInt ≤ 767) then 1 else 0 := by
  simp only [F1_58, own_c72, own_ie, Int32.lt_iff_toInt_lt, Int32.reduceToInt]
  generalize p0.toInt = z
  repeat' split
  all_goals first | rfl | omega
theorem own_c44 (p0 : Int32) : F1_44 p0 = if (65536 ≤ p0.toInt ∧ p0.toInt ≤ 983039) ∨ (65008 ≤ p0.toInt ∧ p0.toInt ≤ 65533) ∨ (63744 ≤ p0.toInt ∧ p0.toInt ≤ 64975) ∨ (12289 ≤ p0.toInt ∧ p0.toInt ≤ 55295) ∨ (11264 ≤ p0.toInt ∧ p0.toInt ≤ 12271) ∨ (8304 ≤ p0.toInt ∧ p0.toInt ≤ 8591) ∨ (8204 ≤ p0.toInt ∧ p0.toInt ≤ 8205) ∨ (895 ≤ p0.toInt ∧ p0.toInt ≤ 8191) ∨ (880 ≤ p0.toInt ∧ p0.toInt ≤ 893) ∨ (248 ≤ p0.toInt ∧ p0.toInt ≤ 767) ∨ (216 ≤ p0.toInt ∧ p0.toInt ≤ 246) then 1 else 0 := by
  simp only [F1_44, own_c58, own_ie, Int32.lt_iff_toInt_lt, Int32.reduceToInt]
  generalize p0.toInt = z
  repeat' split
  all_goals first | rfl | omega
theorem own_c24 (p0 : Int32) : F1_24 p0 = if (65536 ≤ p0.toInt ∧ p0.toInt ≤ 983039) ∨ (65008 ≤ p0.toInt ∧ p0.toInt ≤ 65533) ∨ (63744 ≤ p0.toInt ∧ p0.toInt ≤ 64975) ∨ (12289 ≤ p0.toInt ∧ p0.toInt ≤ 55295) ∨ (11264 ≤ p0.toInt ∧ p0.toInt ≤ 12271) ∨ (8304 ≤ p0.toInt ∧ p0.toInt ≤ 8591) ∨ (8204 ≤ p0.toInt ∧ p0.toInt ≤ 8205) ∨ (895 ≤ p0.toInt ∧ p0.toInt ≤ 8191) ∨ (880 ≤ p0.toInt ∧ p0.toInt ≤ 893) ∨ (248 ≤ p0.toInt ∧ p0.toInt ≤ 767) ∨ (216 ≤ p0.toInt ∧ p0.toInt ≤ 246) ∨ (192 ≤ p0.toInt ∧ p0.toInt ≤ 214) ∨ (95 ≤ p0.toInt ∧ p0.toInt ≤ 95) then 1 else 0 := by
  simp only [F1_24, own_c44, own_ie, Int32.lt_iff_toInt_lt, Int32.reduceToInt]
  generalize p0.toInt = z
  repeat' split
  all_goals first | rfl | omega
theorem own_c12 (p0 : Int32) : F1_12 p0 = if (65536 ≤ p0.toInt ∧ p0.toInt ≤ 983039) ∨ (65008 ≤ p0.toInt ∧ p0.toInt ≤ 65533) ∨ (63744 ≤ p0.toInt ∧ p0.toInt ≤ 64975) ∨ (12289 ≤ p0.toInt ∧ p0.toInt ≤ 55295) ∨ (11264 ≤ p0.toInt ∧ p0.toInt ≤ 12271) ∨ (8304 ≤ p0.toInt ∧ p0.toInt ≤ 8591) ∨ (8204 ≤ p0.toInt ∧ p0.toInt ≤ 8205) ∨ (895 ≤ p0.toInt ∧ p0.toInt ≤ 8191) ∨ (880 ≤ p0.toInt ∧ p0.toInt ≤ 893) ∨ (248 ≤ p0.toInt ∧ p0.toInt ≤ 767) ∨ (216 ≤ p0.toInt ∧ p0.toInt ≤ 246) ∨ (192 ≤ p0.toInt ∧ p0.toInt ≤ 214) ∨ (95 ≤ p0.toInt ∧ p0.toInt ≤ 95) ∨ (65 ≤ p0.toInt ∧ p0.toInt ≤ 90) then 1 else 0 := by
  simp only [F1_12, own_c24, own_ie, Int32.lt_iff_toInt_lt, Int32.reduceToInt]
  generalize p0.toInt = z
  repeat' split
  all_goals first | rfl | omega
theorem own_c0 (p0 : Int32) : F1 p0 = if (65536 ≤ p0.toInt ∧ p0.toInt ≤ 983039) ∨ (65008 ≤ p0.toInt ∧ p0.toInt ≤ 65533) ∨ (63744 ≤ p0.toInt ∧ p0.toInt ≤ 64975) ∨ (12289 ≤ p0.toInt ∧ p0.toInt ≤ 55295) ∨ (11264 ≤ p0.toInt ∧ p0.toInt ≤ 12271) ∨ (8304 ≤ p0.toInt ∧ p0.toInt ≤ 8591) ∨ (8204 ≤ p0.toInt ∧ p0.toInt ≤ 8205) ∨ (895 ≤ p0.toInt ∧ p0.toInt ≤ 8191) ∨ (880 ≤ p0.toInt ∧ p0.toInt ≤ 893) ∨ (248 ≤ p0.toInt ∧ p0.toInt ≤ 767) ∨ (216 ≤ p0.toInt ∧ p0.toInt ≤ 246) ∨ (192 ≤ p0.toInt ∧ p0.toInt ≤ 214) ∨ (95 ≤ p0.toInt ∧ p0.toInt ≤ 95) ∨ (65 ≤ p0.toInt ∧ p0.toInt ≤ 90) ∨ (97 ≤ p0.toInt ∧ p0.toInt ≤ 122) then 1 else 0 := by
  simp only [F1, own_c12, own_ie, Int32.lt_iff_toInt_lt, Int32.reduceToInt]
  generalize p0.toInt = z
  repeat' split
  all_goals first | rfl | omega
theorem own_c3 (p0 a b : Int32) : F3 p0 a b = (0 : Int32) ↔ ¬ (a.toInt ≤ p0.toInt ∧ p0.toInt ≤ b.toInt) := by
  simp only [F3, Int32.lt_iff_toInt_lt]
  repeat' split
  · exact ⟨fun _ => by omega, fun _ => rfl⟩
  · exact ⟨fun _ => by omega, fun _ => rfl⟩
  · exact ⟨fun q => absurd q (by decide), fun q => absurd (show a.toInt ≤ p0.toInt ∧ p0.toInt ≤ b.toInt by omega) q⟩
theorem own_162 (p0 : Int32) : F2_162 p0 = 0 := rfl
theorem own_167 (p0 : Int32) : F2_167 p0 0 = 1 := rfl
theorem own_z (z : Int) : (if (65536 ≤ z ∧ z ≤ 983039) ∨ (65008 ≤ z ∧ z ≤ 65533) ∨ (63744 ≤ z ∧ z ≤ 64975) ∨ (12289 ≤ z ∧ z ≤ 55295) ∨ (11264 ≤ z ∧ z ≤ 12271) ∨ (8304 ≤ z ∧ z ≤ 8591) ∨ (8204 ≤ z ∧ z ≤ 8205) ∨ (895 ≤ z ∧ z ≤ 8191) ∨ (880 ≤ z ∧ z ≤ 893) ∨ (248 ≤ z ∧ z ≤ 767) ∨ (216 ≤ z ∧ z ≤ 246) ∨ (192 ≤ z ∧ z ≤ 214) ∨ (95 ≤ z ∧ z ≤ 95) ∨ (65 ≤ z ∧ z ≤ 90) ∨ (97 ≤ z ∧ z ≤ 122) then (1 : Int32) else (0 : Int32)) = (if z < 65 then (0 : Int32) else (if 983039 < z then (0 : Int32) else (if ¬ (91 ≤ z ∧ z ≤ 94) then (if z = 96 then (0 : Int32) else (if ¬ (123 ≤ z ∧ z ≤ 191) then (if z = 215 then (0 : Int32) else (if z = 247 then (0 : Int32) else (if ¬ (768 ≤ z ∧ z ≤ 879) then (if z = 894 then (0 : Int32) else (if ¬ (8192 ≤ z ∧ z ≤ 8203) then (if ¬ (8206 ≤ z ∧ z ≤ 8303) then (if ¬ (8592 ≤ z ∧ z ≤ 11263) then (if ¬ (12272 ≤ z ∧ z ≤ 12288) then (if ¬ (55296 ≤ z ∧ z ≤ 63743) then (if ¬ (64976 ≤ z ∧ z ≤ 65007) then (if ¬ (65534 ≤ z ∧ z ≤ 65535) then (1 : Int32) else (0 : Int32)) else (0 : Int32)) else (0 : Int32)) else (0 : Int32)) else (0 : Int32)) else (0 : Int32)) else (0 : Int32))) else (0 : Int32)))) else (0 : Int32))) else (0 : Int32)))) := by
  by_cases k0 : z < 65
  · rw [if_pos k0, if_neg (show ¬ ((65536 ≤ z ∧ z ≤ 983039) ∨ (65008 ≤ z ∧ z ≤ 65533) ∨ (63744 ≤ z ∧ z ≤ 64975) ∨ (12289 ≤ z ∧ z ≤ 55295) ∨ (11264 ≤ z ∧ z ≤ 12271) ∨ (8304 ≤ z ∧ z ≤ 8591) ∨ (8204 ≤ z ∧ z ≤ 8205) ∨ (895 ≤ z ∧ z ≤ 8191) ∨ (880 ≤ z ∧ z ≤ 893) ∨ (248 ≤ z ∧ z ≤ 767) ∨ (216 ≤ z ∧ z ≤ 246) ∨ (192 ≤ z ∧ z ≤ 214) ∨ (95 ≤ z ∧ z ≤ 95) ∨ (65 ≤ z ∧ z ≤ 90) ∨ (97 ≤ z ∧ z ≤ 122)) by omega)]
  rw [if_neg k0]
  by_cases k1 : 983039 < z
  · rw [if_pos k1, if_neg (show ¬ ((65536 ≤ z ∧ z ≤ 983039) ∨ (65008 ≤ z ∧ z ≤ 65533) ∨ (63744 ≤ z ∧ z ≤ 64975) ∨ (12289 ≤ z ∧ z ≤ 55295) ∨ (11264 ≤ z ∧ z ≤ 12271) ∨ (8304 ≤ z ∧ z ≤ 8591) ∨ (8204 ≤ z ∧ z ≤ 8205) ∨ (895 ≤ z ∧ z ≤ 8191) ∨ (880 ≤ z ∧ z ≤ 893) ∨ (248 ≤ z ∧ z ≤ 767) ∨ (216 ≤ z ∧ z ≤ 246) ∨ (192 ≤ z ∧ z ≤ 214) ∨ (95 ≤ z ∧ z ≤ 95) ∨ (65 ≤ z ∧ z ≤ 90) ∨ (97 ≤ z ∧ z ≤ 122)) by omega)]
  rw [if_neg k1]
  by_cases k2 : ¬ (91 ≤ z ∧ z ≤ 94)
  rotate_left
  · rw [if_neg k2, if_neg (show ¬ ((65536 ≤ z ∧ z ≤ 983039) ∨ (65008 ≤ z ∧ z ≤ 65533) ∨ (63744 ≤ z ∧ z ≤ 64975) ∨ (12289 ≤ z ∧ z ≤ 55295) ∨ (11264 ≤ z ∧ z ≤ 12271) ∨ (8304 ≤ z ∧ z ≤ 8591) ∨ (8204 ≤ z ∧ z ≤ 8205) ∨ (895 ≤ z ∧ z ≤ 8191) ∨ (880 ≤ z ∧ z ≤ 893) ∨ (248 ≤ z ∧ z ≤ 767) ∨ (216 ≤ z ∧ z ≤ 246) ∨ (192 ≤ z ∧ z ≤ 214) ∨ (95 ≤ z ∧ z ≤ 95) ∨ (65 ≤ z ∧ z ≤ 90) ∨ (97 ≤ z ∧ z ≤ 122)) by omega)]
  rw [if_pos k2]
  by_cases k3 : z = 96
  · rw [if_pos k3, if_neg (show ¬ ((65536 ≤ z ∧ z ≤ 983039) ∨ (65008 ≤ z ∧ z ≤ 65533) ∨ (63744 ≤ z ∧ z ≤ 64975) ∨ (12289 ≤ z ∧ z ≤ 55295) ∨ (11264 ≤ z ∧ z ≤ 12271) ∨ (8304 ≤ z ∧ z ≤ 8591) ∨ (8204 ≤ z ∧ z ≤ 8205) ∨ (895 ≤ z ∧ z ≤ 8191) ∨ (880 ≤ z ∧ z ≤ 893) ∨ (248 ≤ z ∧ z ≤ 767) ∨ (216 ≤ z ∧ z ≤ 246) ∨ (192 ≤ z ∧ z ≤ 214) ∨ (95 ≤ z ∧ z ≤ 95) ∨ (65 ≤ z ∧ z ≤ 90) ∨ (97 ≤ z ∧ z ≤ 122)) by omega)]
  rw [if_neg k3]
  by_cases k4 : ¬ (123 ≤ z ∧ z ≤ 191)
  rotate_left
  · rw [if_neg k4, if_neg (show ¬ ((65536 ≤ z ∧ z ≤ 983039) ∨ (65008 ≤ z ∧ z ≤ 65533) ∨ (63744 ≤ z ∧ z ≤ 64975) ∨ (12289 ≤ z ∧ z ≤ 55295) ∨ (11264 ≤ z ∧ z ≤ 12271) ∨ (8304 ≤ z ∧ z ≤ 8591) ∨ (8204 ≤ z ∧ z ≤ 8205) ∨ (895 ≤ z ∧ z ≤ 8191) ∨ (880 ≤ z ∧ z ≤ 893) ∨ (248 ≤ z ∧ z ≤ 767) ∨ (216 ≤ z ∧ z ≤ 246) ∨ (192 ≤ z ∧ z ≤ 214) ∨ (95 ≤ z ∧ z ≤ 95) ∨ (65 ≤ z ∧ z ≤ 90) ∨ (97 ≤ z ∧ z ≤ 122)) by omega)]
  rw [if_pos k4]
  by_cases k5 : z = 215
  · rw [if_pos k5, if_neg (show ¬ ((65536 ≤ z ∧ z ≤ 983039) ∨ (65008 ≤ z ∧ z ≤ 65533) ∨ (63744 ≤ z ∧ z ≤ 64975) ∨ (12289 ≤ z ∧ z ≤ 55295) ∨ (11264 ≤ z ∧ z ≤ 12271) ∨ (8304 ≤ z ∧ z ≤ 8591) ∨ (8204 ≤ z ∧ z ≤ 8205) ∨ (895 ≤ z ∧ z ≤ 8191) ∨ (880 ≤ z ∧ z ≤ 893) ∨ (248 ≤ z ∧ z ≤ 767) ∨ (216 ≤ z ∧ z ≤ 246) ∨ (192 ≤ z ∧ z ≤ 214) ∨ (95 ≤ z ∧ z ≤ 95) ∨ (65 ≤ z ∧ z ≤ 90) ∨ (97 ≤ z ∧ z ≤ 122)) by omega)]
  rw [if_neg k5]
  by_cases k6 : z = 247
  · rw [if_pos k6, if_neg (show ¬ ((65536 ≤ z ∧ z ≤ 983039) ∨ (65008 ≤ z ∧ z ≤ 65533) ∨ (63744 ≤ z ∧ z ≤ 64975) ∨ (12289 ≤ z ∧ z ≤ 55295) ∨ (11264 ≤ z ∧ z ≤ 12271) ∨ (8304 ≤ z ∧ z ≤ 8591) ∨ (8204 ≤ z ∧ z ≤ 8205) ∨ (895 ≤ z ∧ z ≤ 8191) ∨ (880 ≤ z ∧ z ≤ 893) ∨ (248 ≤ z ∧ z ≤ 767) ∨ (216 ≤ z ∧ z ≤ 246) ∨ (192 ≤ z ∧ z ≤ 214) ∨ (95 ≤ z ∧ z ≤ 95) ∨ (65 ≤ z ∧ z ≤ 90) ∨ (97 ≤ z ∧ z ≤ 122)) by omega)]
  rw [if_neg k6]
  by_cases k7 : ¬ (768 ≤ z ∧ z ≤ 879)
  rotate_left
  · rw [if_neg k7, if_neg (show ¬ ((65536 ≤ z ∧ z ≤ 983039) ∨ (65008 ≤ z ∧ z ≤ 65533) ∨ (63744 ≤ z ∧ z ≤ 64975) ∨ (12289 ≤ z ∧ z ≤ 55295) ∨ (11264 ≤ z ∧ z ≤ 12271) ∨ (8304 ≤ z ∧ z ≤ 8591) ∨ (8204 ≤ z ∧ z ≤ 8205) ∨ (895 ≤ z ∧ z ≤ 8191) ∨ (880 ≤ z ∧ z ≤ 893) ∨ (248 ≤ z ∧ z ≤ 767) ∨ (216 ≤ z ∧ z ≤ 246) ∨ (192 ≤ z ∧ z ≤ 214) ∨ (95 ≤ z ∧ z ≤ 95) ∨ (65 ≤ z ∧ z ≤ 90) ∨ (97 ≤ z ∧ z ≤ 122)) by omega)]
  rw [if_pos k7]
  by_cases k8 : z = 894
  · rw [if_pos k8, if_neg (show ¬ ((65536 ≤ z ∧ z ≤ 983039) ∨ (65008 ≤ z ∧ z ≤ 65533) ∨ (63744 ≤ z ∧ z ≤ 64975) ∨ (12289 ≤ z ∧ z ≤ 55295) ∨ (11264 ≤ z ∧ z ≤ 12271) ∨ (8304 ≤ z ∧ z ≤ 8591) ∨ (8204 ≤ z ∧ z ≤ 8205) ∨ (895 ≤ z ∧ z ≤ 8191) ∨ (880 ≤ z ∧ z ≤ 893) ∨ (248 ≤ z ∧ z ≤ 767) ∨ (216 ≤ z ∧ z ≤ 246) ∨ (192 ≤ z ∧ z ≤ 214) ∨ (95 ≤ z ∧ z ≤ 95) ∨ (65 ≤ z ∧ z ≤ 90) ∨ (97 ≤ z ∧ z ≤ 122)) by omega)]
  rw [if_neg k8]
  by_cases k9 : ¬ (8192 ≤ z ∧ z ≤ 8203)
  rotate_left
  · rw [if_neg k9, if_neg (show ¬ ((65536 ≤ z ∧ z ≤ 983039) ∨ (65008 ≤ z ∧ z ≤ 65533) ∨ (63744 ≤ z ∧ z ≤ 64975) ∨ (12289 ≤ z ∧ z ≤ 55295) ∨ (11264 ≤ z ∧ z ≤ 12271) ∨ (8304 ≤ z ∧ z ≤ 8591) ∨ (8204 ≤ z ∧ z ≤ 8205) ∨ (895 ≤ z ∧ z ≤ 8191) ∨ (880 ≤ z ∧ z ≤ 893) ∨ (248 ≤ z ∧ z ≤ 767) ∨ (216 ≤ z ∧ z ≤ 246) ∨ (192 ≤ z ∧ z ≤ 214) ∨ (95 ≤ z ∧ z ≤ 95) ∨ (65 ≤ z ∧ z ≤ 90) ∨ (97 ≤ z ∧ z ≤ 122)) by omega)]
  rw [if_pos k9]
  by_cases k10 : ¬ (8206 ≤ z ∧ z ≤ 8303)
  rotate_left
  · rw [if_neg k10, if_neg (show ¬ ((65536 ≤ z ∧ z ≤ 983039) ∨ (65008 ≤ z ∧ z ≤ 65533) ∨ (63744 ≤ z ∧ z ≤ 64975) ∨ (12289 ≤ z ∧ z ≤ 55295) ∨ (11264 ≤ z ∧ z ≤ 12271) ∨ (8304 ≤ z ∧ z ≤ 8591) ∨ (8204 ≤ z ∧ z ≤ 8205) ∨ (895 ≤ z ∧ z ≤ 8191) ∨ (880 ≤ z ∧ z ≤ 893) ∨ (248 ≤ z ∧ z ≤ 767) ∨ (216 ≤ z ∧ z ≤ 246) ∨ (192 ≤ z ∧ z ≤ 214) ∨ (95 ≤ z ∧ z ≤ 95) ∨ (65 ≤ z ∧ z ≤ 90) ∨ (97 ≤ z ∧ z ≤ 122)) by omega)]
  rw [if_pos k10]
  by_cases k11 : ¬ (8592 ≤ z ∧ z ≤ 11263)
  rotate_left
  · rw [if_neg k11, if_neg (show ¬ ((65536 ≤ z ∧ z ≤ 983039) ∨ (65008 ≤ z ∧ z ≤ 65533) ∨ (63744 ≤ z ∧ z ≤ 64975) ∨ (12289 ≤ z ∧ z ≤ 55295) ∨ (11264 ≤ z ∧ z ≤ 12271) ∨ (8304 ≤ z ∧ z ≤ 8591) ∨ (8204 ≤ z ∧ z ≤ 8205) ∨ (895 ≤ z ∧ z ≤ 8191) ∨ (880 ≤ z ∧ z ≤ 893) ∨ (248 ≤ z ∧ z ≤ 767) ∨ (216 ≤ z ∧ z ≤ 246) ∨ (192 ≤ z ∧ z ≤ 214) ∨ (95 ≤ z ∧ z ≤ 95) ∨ (65 ≤ z ∧ z ≤ 90) ∨ (97 ≤ z ∧ z ≤ 122)) by omega)]
  rw [if_pos k11]
  by_cases k12 : ¬ (12272 ≤ z ∧ z ≤ 12288)
  rotate_left
  · rw [if_neg k12, if_neg (show ¬ ((65536 ≤ z ∧ z ≤ 983039) ∨ (65008 ≤ z ∧ z ≤ 65533) ∨ (63744 ≤ z ∧ z ≤ 64975) ∨ (12289 ≤ z ∧ z ≤ 55295) ∨ (11264 ≤ z ∧ z ≤ 12271) ∨ (8304 ≤ z ∧ z ≤ 8591) ∨ (8204 ≤ z ∧ z ≤ 8205) ∨ (895 ≤ z ∧ z ≤ 8191) ∨ (880 ≤ z ∧ z ≤ 893) ∨ (248 ≤ z ∧ z ≤ 767) ∨ (216 ≤ z ∧ z ≤ 246) ∨ (192 ≤ z ∧ z ≤ 214) ∨ (95 ≤ z ∧ z ≤ 95) ∨ (65 ≤ z ∧ z ≤ 90) ∨ (97 ≤ z ∧ z ≤ 122)) by omega)]
  rw [if_pos k12]
  by_cases k13 : ¬ (55296 ≤ z ∧ z ≤ 63743)
  rotate_left
  · rw [if_neg k13, if_neg (show ¬ ((65536 ≤ z ∧ z ≤ 983039) ∨ (65008 ≤ z ∧ z ≤ 65533) ∨ (63744 ≤ z ∧ z ≤ 64975) ∨ (12289 ≤ z ∧ z ≤ 55295) ∨ (11264 ≤ z ∧ z ≤ 12271) ∨ (8304 ≤ z ∧ z ≤ 8591) ∨ (8204 ≤ z ∧ z ≤ 8205) ∨ (895 ≤ z ∧ z ≤ 8191) ∨ (880 ≤ z ∧ z ≤ 893) ∨ (248 ≤ z ∧ z ≤ 767) ∨ (216 ≤ z ∧ z ≤ 246) ∨ (192 ≤ z ∧ z ≤ 214) ∨ (95 ≤ z ∧ z ≤ 95) ∨ (65 ≤ z ∧ z ≤ 90) ∨ (97 ≤ z ∧ z ≤ 122)) by omega)]
  rw [if_pos k13]
  by_cases k14 : ¬ (64976 ≤ z ∧ z ≤ 65007)
  rotate_left
  · rw [if_neg k14, if_neg (show ¬ ((65536 ≤ z ∧ z ≤ 983039) ∨ (65008 ≤ z ∧ z ≤ 65533) ∨ (63744 ≤ z ∧ z ≤ 64975) ∨ (12289 ≤ z ∧ z ≤ 55295) ∨ (11264 ≤ z ∧ z ≤ 12271) ∨ (8304 ≤ z ∧ z ≤ 8591) ∨ (8204 ≤ z ∧ z ≤ 8205) ∨ (895 ≤ z ∧ z ≤ 8191) ∨ (880 ≤ z ∧ z ≤ 893) ∨ (248 ≤ z ∧ z ≤ 767) ∨ (216 ≤ z ∧ z ≤ 246) ∨ (192 ≤ z ∧ z ≤ 214) ∨ (95 ≤ z ∧ z ≤ 95) ∨ (65 ≤ z ∧ z ≤ 90) ∨ (97 ≤ z ∧ z ≤ 122)) by omega)]
  rw [if_pos k14]
  by_cases k15 : ¬ (65534 ≤ z ∧ z ≤ 65535)
  rotate_left
  · rw [if_neg k15, if_neg (show ¬ ((65536 ≤ z ∧ z ≤ 983039) ∨ (65008 ≤ z ∧ z ≤ 65533) ∨ (63744 ≤ z ∧ z ≤ 64975) ∨ (12289 ≤ z ∧ z ≤ 55295) ∨ (11264 ≤ z ∧ z ≤ 12271) ∨ (8304 ≤ z ∧ z ≤ 8591) ∨ (8204 ≤ z ∧ z ≤ 8205) ∨ (895 ≤ z ∧ z ≤ 8191) ∨ (880 ≤ z ∧ z ≤ 893) ∨ (248 ≤ z ∧ z ≤ 767) ∨ (216 ≤ z ∧ z ≤ 246) ∨ (192 ≤ z ∧ z ≤ 214) ∨ (95 ≤ z ∧ z ≤ 95) ∨ (65 ≤ z ∧ z ≤ 90) ∨ (97 ≤ z ∧ z ≤ 122)) by omega)]
  rw [if_pos k15]
  rw [if_pos (show (65536 ≤ z ∧ z ≤ 983039) ∨ (65008 ≤ z ∧ z ≤ 65533) ∨ (63744 ≤ z ∧ z ≤ 64975) ∨ (12289 ≤ z ∧ z ≤ 55295) ∨ (11264 ≤ z ∧ z ≤ 12271) ∨ (8304 ≤ z ∧ z ≤ 8591) ∨ (8204 ≤ z ∧ z ≤ 8205) ∨ (895 ≤ z ∧ z ≤ 8191) ∨ (880 ≤ z ∧ z ≤ 893) ∨ (248 ≤ z ∧ z ≤ 767) ∨ (216 ≤ z ∧ z ≤ 246) ∨ (192 ≤ z ∧ z ≤ 214) ∨ (95 ≤ z ∧ z ≤ 95) ∨ (65 ≤ z ∧ z ≤ 90) ∨ (97 ≤ z ∧ z ≤ 122) by omega)]
theorem own_law (p0 : Int32) : F1 p0 = F2 p0 := by
  rw [own_c0]
  unfold F2
  simp only [own_162, own_167]
  simp only [own_c3, own_ie p0, Int32.lt_iff_toInt_lt, Int32.reduceToInt]
  exact own_z _
theorem pn0 : plainName "com/example/xrefloom/xrefloom/tree/XmlNamesIsNameStartCharPinLaw" = true := by first | (simp [plainName, overriddenIn]; done) | decide +kernel
theorem pd1 : parseMethodDescriptor "(I)Z" = some ⟨[.int], some .boolean⟩ := by decide +kernel
theorem ef_rm0 (m : MethodId) (p0 : Int32) (p1 : Int32) : entryFrame m #[(.int p0), (.int p1)] maxLocals = mkF m 0 #[.val (.int p0), .val (.int p1), .unset, .unset] [] := by first | (simp [entryFrame, mkF, argsToLocals, Value.category, maxLocals]; done) | rfl
set_option maxRecDepth 65536 in
set_option maxHeartbeats 40000000 in
theorem rm0 (l : Launch) (Z : State) (a0 : Array Value) (hw : ∀ d ∈ tables_1, d.before a0 Z = true) (ws : List Jvm.Cond) (p0 : Int32) (p1 : Int32) (h0 : Heap) (n0 : Nat) (Z0 : n0 ≤ h0.size) :
    MetFree l x (head1 (Jvm.Cond.code x code maxLocals ret :: ws) room_1) (fun a U => a = #[(.int p0), (.int p1)] ∧ Z.Warmed39 U.vm ∧ U.heap = h0) (fun _ _ _ _ _ => True) (fun _ U o U' => ∃ v L, o = .returned v ∧ (own_True n0) v U'.heap L ∧ FrameEnd U o U' L 0 0) := by
  refine MetFree.of_bodySF (plainFor_of_name pn0) hisR ?_
  intro p e s m args below meth c s₁ Bd hml0 hP hK
  obtain ⟨rfl, hZ, hh⟩ := hP
  have hx := Bd.exec
  have hby := Bd.bytes
  have hml : c.maxLocals = 4 := hml0
  have hown : s.vm.findClass "com/example/xrefloom/xrefloom/tree/XmlNamesIsNameStartCharPinLaw" = some m.cls := findClass_of_methodNamed Bd.named
  have hnm := (name_of_methodNamed Bd.named Bd.method).1
  have X0 : Stand p l e room_1 s m #[(.int p0), (.int p1)] below meth c s₁ [] 0 0 := Stand.of_body Bd
  have e0 : s₁.heap = h0 := by rw [← hh, Bd.state]; rfl
  have N0 := Fr.nil n0
  show own_Goes p e below (own_End s (own_True n0) 0 0) _
  refine own_go (G := s₁.setTop (mkF m 0 #[.val (.int p0), .val (.int p1), .unset, .unset] [])) (fun t k => castTop (ef_rm0 m p0 p1) k) ?_
  refine own_go (G := s₁.setTop (mkF m 1 #[.val (.int p0), .val (.int p1), .unset, .unset] [(.int p1)])) (fun _ k => XS.iloadN X0.here hx rfl (hb hby at_0) rfl k) ?_
  refine own_go (G := s₁.setTop (mkF m 2 #[.val (.int p0), .val (.int p1), .unset, .unset] [(.int (3 : Int32)), (.int p1)])) (fun _ k => XS.iconst X0.here hx rfl (hb hby at_1) k) ?_
  refine own_go (G := s₁.setTop (mkF m 3 #[.val (.int p0), .val (.int p1), .unset, .unset] [(.int (p1 &&& (3 : Int32)))])) (fun _ k => XS.iand X0.here hx rfl (hb hby at_2) rfl k) ?_
  generalize hv1 : (p1 &&& (3 : Int32)) = v1
  refine own_go (G := s₁.setTop (mkF m 4 #[.val (.int p0), .val (.int p1), .val (.int v1), .unset] [])) (fun _ k => XS.istoreN X0.here hx rfl (hb hby at_3) rfl (l' := #[.val (.int p0), .val (.int p1), .val (.int v1), .unset]) rfl k) ?_
  refine own_go (G := s₁.setTop (mkF m 5 #[.val (.int p0), .val (.int p1), .val (.int v1), .unset] [(.int v1)])) (fun _ k => XS.iloadN X0.here hx rfl (hb hby at_4) rfl k) ?_
  refine own_go (G := s₁.setTop (mkF m 6 #[.val (.int p0), .val (.int p1), .val (.int v1), .unset] [(.int (1 : Int32)), (.int v1)])) (fun _ k => XS.iconst X0.here hx rfl (hb hby at_5) k) ?_
  by_cases hc6 : v1 = (1 : Int32)
  · skip
    refine own_go (G := s₁.setTop (mkF m 9 #[.val (.int p0), .val (.int p1), .val (.int v1), .unset] [])) (fun _ k => XS.icmpNo X0.here hx rfl (hb hby at_6) rfl (teq hc6).2 k) ?_
    refine own_go (G := s₁.setTop (mkF m 10 #[.val (.int p0), .val (.int p1), .val (.int v1), .unset] [(.int p0)])) (fun _ k => XS.iloadN X0.here hx rfl (hb hby at_9) rfl k) ?_
    refine own_go (G := s₁.setTop (mkF m 12 #[.val (.int p0), .val (.int p1), .val (.int v1), .unset] [(.int (65535 : Int32)), (.int p0)])) (X0.ldcInt hx hown (mvT hZ (hw _ (List.mem_of_getElem? (i := 11) rfl))) (g := (mkF m 10 #[.val (.int p0), .val (.int p1), .val (.int v1), .unset] [(.int p0)])) rfl (hb hby at_10)) ?_
    refine own_go (G := s₁.setTop (mkF m 13 #[.val (.int p0), .val (.int p1), .val (.int v1), .unset] [(.int (p0 &&& (65535 : Int32)))])) (fun _ k => XS.iand X0.here hx rfl (hb hby at_12) rfl k) ?_
    generalize hv2 : (p0 &&& (65535 : Int32)) = v2
    refine own_go (G := s₁.setTop (mkF m 14 #[.val (.int p0), .val (.int p1), .val (.int v1), .val (.int v2)] [])) (fun _ k => XS.istoreN X0.here hx rfl (hb hby at_13) rfl (l' := #[.val (.int p0), .val (.int p1), .val (.int v1), .val (.int v2)]) rfl k) ?_
    refine own_go (G := s₁.setTop (mkF m 33 #[.val (.int p0), .val (.int p1), .val (.int v1), .val (.int v2)] [])) (fun _ k => XS.goto X0.here hx rfl (pc0 := 14) (pc' := 33) rfl (hb hby at_14) (by decide) (by decide) k) ?_
    refine own_go (G := s₁.setTop (mkF m 34 #[.val (.int p0), .val (.int p1), .val (.int v1), .val (.int v2)] [(.int v2)])) (fun _ k => XS.iloadN X0.here hx rfl (hb hby at_33) rfl k) ?_
    obtain ⟨_, _, ⟨T3, L3, k3, n3⟩, -, X3, ⟨Lc3, hQ3, l3, y3, z3⟩, st3⟩ := Jvm.LawKit.callS X0 hx (y := (⟨"com/example/xrefloom/xrefloom/tree/XmlNames", "isNameStartChar", "(I)Z"⟩ : MethodName)) hown (mvT hZ (hw _ (List.mem_of_getElem? (i := 0) rfl))) (mvT hZ (hw _ (List.mem_of_getElem? (i := 1) rfl))) (mvT hZ (hw _ (List.mem_of_getElem? (i := 2) rfl))) (mvT hZ (hw _ (List.mem_of_getElem? (i := 3) rfl))) (by decide) (backOf (W := 0) (rm1 l Z a0 hw [] v2 h0 n0 Z0) hZ (hw _ (List.mem_of_getElem? (i := 3) rfl)) (hw _ (List.mem_of_getElem? (i := 2) rfl)) (by decide) (by decide)) (g := (mkF m 34 #[.val (.int p0), .val (.int p1), .val (.int v1), .val (.int v2)] [(.int v2)])) rfl (by rw [hml]; rfl) (argsL := [(.int v2)]) (rest := []) (lenOf pd1 rfl) rfl (by show 2 * 0 + _ ≤ _; exact Nat.le_of_eq rfl) (hb hby at_34) (fun _ _ => ⟨rfl, e0, (by decide : 0 + 0 ≤ _), (by decide : 0 + 0 ≤ _)⟩)
    dsimp only [Pt.U, Pt.locs, Pt.cells, Pt.slots] at X3 l3 y3 z3 st3 hQ3
    subst l3 y3 z3
    obtain ⟨rfl, Nq3, e3⟩ := hQ3
    have N3 := Fr.app N0 Nq3
    refine own_go (G := T3.setTop (mkF m 37 #[.val (.int p0), .val (.int p1), .val (.int v1), .val (.int v2)] [(.int (F1 v2))])) (st3) ?_
    refine own_go (G := T3.setTop (mkF m 38 #[.val (.int p0), .val (.int p1), .val (.int v1), .val (.int v2)] [(.int v2), (.int (F1 v2))])) (fun _ k => XS.iloadN X3.here hx rfl (hb hby at_37) rfl k) ?_
    obtain ⟨_, _, ⟨T4, L4, k4, n4⟩, -, X4, ⟨Lc4, hQ4, l4, y4, z4⟩, st4⟩ := Jvm.LawKit.callS X3 hx (y := (⟨"com/example/xrefloom/xrefloom/tree/XmlNamesIsNameStartCharPinLaw", "reference", "(I)Z"⟩ : MethodName)) hown (mvT hZ (hw _ (List.mem_of_getElem? (i := 7) rfl))) (mvT hZ (hw _ (List.mem_of_getElem? (i := 8) rfl))) (mvT hZ (hw _ (List.mem_of_getElem? (i := 9) rfl))) (mvT hZ (hw _ (List.mem_of_getElem? (i := 10) rfl))) (by decide) (backOf (W := 1) (rm2 l Z a0 hw [] v2 h0 n0 Z0) hZ (hw _ (List.mem_of_getElem? (i := 10) rfl)) (hw _ (List.mem_of_getElem? (i := 9) rfl)) (by decide) (by decide)) (g := (mkF m 38 #[.val (.int p0), .val (.int p1), .val (.int v1), .val (.int v2)] [(.int v2), (.int (F1 v2))])) rfl (by rw [hml]; rfl) (argsL := [(.int v2)]) (rest := [(.int (F1 v2))]) (lenOf pd1 rfl) rfl (by show 2 * 0 + _ ≤ _; exact Nat.le_of_eq rfl) (hb hby at_38) (fun _ _ => ⟨rfl, e3, (by decide : 0 + 0 ≤ _), (by decide : 0 + 0 ≤ _)⟩)
    dsimp only [Pt.U, Pt.locs, Pt.cells, Pt.slots] at X4 l4 y4 z4 st4 hQ4
    subst l4 y4 z4
    obtain ⟨rfl, Nq4, e4⟩ := hQ4
    have N4 := Fr.app N3 Nq4
    refine own_go (G := T4.setTop (mkF m 41 #[.val (.int p0), .val (.int p1), .val (.int v1), .val (.int v2)] [(.int (F2 v2)), (.int (F1 v2))])) (st4) ?_
    refine own_go (G := T4.setTop (mkF m 44 #[.val (.int p0), .val (.int p1), .val (.int v1), .val (.int v2)] [])) (fun _ k => XS.icmpNo X4.here hx rfl (hb hby at_41) rfl (teq (own_law _ : (F1 v2) = (F2 v2))).2 k) ?_
    refine own_go (G := T4.setTop (mkF m 45 #[.val (.int p0), .val (.int p1), .val (.int v1), .val (.int v2)] [(.int (1 : Int32))])) (fun _ k => XS.iconst X4.here hx rfl (hb hby at_44) k) ?_
    refine own_go (G := T4.setTop (mkF m 49 #[.val (.int p0), .val (.int p1), .val (.int v1), .val (.int v2)] [(.int (1 : Int32))])) (fun _ k => XS.goto X4.here hx rfl (pc0 := 45) (pc' := 49) rfl (hb hby at_45) (by decide) (by decide) k) ?_
    exact own_ret1 X4 hx Bd.returns (hb hby at_49) Bd.notSynchronized (by decide) (by decide) ⟨rfl, N4⟩
  · skip
    refine own_go (G := s₁.setTop (mkF m 17 #[.val (.int p0), .val (.int p1), .val (.int v1), .unset] [])) (fun _ k => XS.icmpYes X0.here hx rfl (pc0 := 6) (pc' := 17) rfl (hb hby at_6) rfl (feq hc6).2 (by decide) (by decide) k) ?_
    refine own_go (G := s₁.setTop (mkF m 18 #[.val (.int p0), .val (.int p1), .val (.int v1), .unset] [(.int v1)])) (fun _ k => XS.iloadN X0.here hx rfl (hb hby at_17) rfl k) ?_
    refine own_go (G := s₁.setTop (mkF m 19 #[.val (.int p0), .val (.int p1), .val (.int v1), .unset] [(.int (2 : Int32)), (.int v1)])) (fun _ k => XS.iconst X0.here hx rfl (hb hby at_18) k) ?_
    by_cases hc19 : v1 = (2 : Int32)
    · skip
      refine own_go (G := s₁.setTop (mkF m 22 #[.val (.int p0), .val (.int p1), .val (.int v1), .unset] [])) (fun _ k => XS.icmpNo X0.here hx rfl (hb hby at_19) rfl (teq hc19).2 k) ?_
      refine own_go (G := s₁.setTop (mkF m 23 #[.val (.int p0), .val (.int p1), .val (.int v1), .unset] [(.int p0)])) (fun _ k => XS.iloadN X0.here hx rfl (hb hby at_22) rfl k) ?_
      refine own_go (G := s₁.setTop (mkF m 26 #[.val (.int p0), .val (.int p1), .val (.int v1), .unset] [(.int (1023 : Int32)), (.int p0)])) (fun _ k => XS.sipush X0.here hx rfl (hb hby at_23) k) ?_
      refine own_go (G := s₁.setTop (mkF m 27 #[.val (.int p0), .val (.int p1), .val (.int v1), .unset] [(.int (p0 &&& (1023 : Int32)))])) (fun _ k => XS.iand X0.here hx rfl (hb hby at_26) rfl k) ?_
      generalize hv5 : (p0 &&& (1023 : Int32)) = v5
      refine own_go (G := s₁.setTop (mkF m 28 #[.val (.int p0), .val (.int p1), .val (.int v1), .val (.int v5)] [])) (fun _ k => XS.istoreN X0.here hx rfl (hb hby at_27) rfl (l' := #[.val (.int p0), .val (.int p1), .val (.int v1), .val (.int v5)]) rfl k) ?_
      refine own_go (G := s₁.setTop (mkF m 33 #[.val (.int p0), .val (.int p1), .val (.int v1), .val (.int v5)] [])) (fun _ k => XS.goto X0.here hx rfl (pc0 := 28) (pc' := 33) rfl (hb hby at_28) (by decide) (by decide) k) ?_
      refine own_go (G := s₁.setTop (mkF m 34 #[.val (.int p0), .val (.int p1), .val (.int v1), .val (.int v5)] [(.int v5)])) (fun _ k => XS.iloadN X0.here hx rfl (hb hby at_33) rfl k) ?_
      obtain ⟨_, _, ⟨T6, L6, k6, n6⟩, -, X6, ⟨Lc6, hQ6, l6, y6, z6⟩, st6⟩ := Jvm.LawKit.callS X0 hx (y := (⟨"com/example/xrefloom/xrefloom/tree/XmlNames", "isNameStartChar", "(I)Z"⟩ : MethodName)) hown (mvT hZ (hw _ (List.mem_of_getElem? (i := 0) rfl))) (mvT hZ (hw _ (List.mem_of_getElem? (i := 1) rfl))) (mvT hZ (hw _ (List.mem_of_getElem? (i := 2) rfl))) (mvT hZ (hw _ (List.mem_of_getElem? (i := 3) rfl))) (by decide) (backOf (W := 0) (rm1 l Z a0 hw [] v5 h0 n0 Z0) hZ (hw _ (List.mem_of_getElem? (i := 3) rfl)) (hw _ (List.mem_of_getElem? (i := 2) rfl)) (by decide) (by decide)) (g := (mkF m 34 #[.val (.int p0), .val (.int p1), .val (.int v1), .val (.int v5)] [(.int v5)])) rfl (by rw [hml]; rfl) (argsL := [(.int v5)]) (rest := []) (lenOf pd1 rfl) rfl (by show 2 * 0 + _ ≤ _; exact Nat.le_of_eq rfl) (hb hby at_34) (fun _ _ => ⟨rfl, e0, (by decide : 0 + 0 ≤ _), (by decide : 0 + 0 ≤ _)⟩)
      dsimp only [Pt.U, Pt.locs, Pt.cells, Pt.slots] at X6 l6 y6 z6 st6 hQ6
      subst l6 y6 z6
      obtain ⟨rfl, Nq6, e6⟩ := hQ6
      have N6 := Fr.app N0 Nq6
      refine own_go (G := T6.setTop (mkF m 37 #[.val (.int p0), .val (.int p1), .val (.int v1), .val (.int v5)] [(.int (F1 v5))])) (st6) ?_
      refine own_go (G := T6.setTop (mkF m 38 #[.val (.int p0), .val (.int p1), .val (.int v1), .val (.int v5)] [(.int v5), (.int (F1 v5))])) (fun _ k => XS.iloadN X6.here hx rfl (hb hby at_37) rfl k) ?_
      obtain ⟨_, _, ⟨T7, L7, k7, n7⟩, -, X7, ⟨Lc7, hQ7, l7, y7, z7⟩, st7⟩ := Jvm.LawKit.callS X6 hx (y := (⟨"com/example/xrefloom/xrefloom/tree/XmlNamesIsNameStartCharPinLaw", "reference", "(I)Z"⟩ : MethodName)) hown (mvT hZ (hw _ (List.mem_of_getElem? (i := 7) rfl))) (mvT hZ (hw _ (List.mem_of_getElem? (i := 8) rfl))) (mvT hZ (hw _ (List.mem_of_getElem? (i := 9) rfl))) (mvT hZ (hw _ (List.mem_of_getElem? (i := 10) rfl))) (by decide) (backOf (W := 1) (rm2 l Z a0 hw [] v5 h0 n0 Z0) hZ (hw _ (List.mem_of_getElem? (i := 10) rfl)) (hw _ (List.mem_of_getElem? (i := 9) rfl)) (by decide) (by decide)) (g := (mkF m 38 #[.val (.int p0), .val (.int p1), .val (.int v1), .val (.int v5)] [(.int v5), (.int (F1 v5))])) rfl (by rw [hml]; rfl) (argsL := [(.int v5)]) (rest := [(.int (F1 v5))]) (lenOf pd1 rfl) rfl (by show 2 * 0 + _ ≤ _; exact Nat.le_of_eq rfl) (hb hby at_38) (fun _ _ => ⟨rfl, e6, (by decide : 0 + 0 ≤ _), (by decide : 0 + 0 ≤ _)⟩)
      dsimp only [Pt.U, Pt.locs, Pt.cells, Pt.slots] at X7 l7 y7 z7 st7 hQ7
      subst l7 y7 z7
      obtain ⟨rfl, Nq7, e7⟩ := hQ7
      have N7 := Fr.app N6 Nq7
      refine own_go (G := T7.setTop (mkF m 41 #[.val (.int p0), .val (.int p1), .val (.int v1), .val (.int v5)] [(.int (F2 v5)), (.int (F1 v5))])) (st7) ?_
      refine own_go (G := T7.setTop (mkF m 44 #[.val (.int p0), .val (.int p1), .val (.int v1), .val (.int v5)] [])) (fun _ k => XS.icmpNo X7.here hx rfl (hb hby at_41) rfl (teq (own_law _ : (F1 v5) = (F2 v5))).2 k) ?_
      refine own_go (G := T7.setTop (mkF m 45 #[.val (.int p0), .val (.int p1), .val (.int v1), .val (.int v5)] [(.int (1 : Int32))])) (fun _ k => XS.iconst X7.here hx rfl (hb hby at_44) k) ?_
      refine own_go (G := T7.setTop (mkF m 49 #[.val (.int p0), .val (.int p1), .val (.int v1), .val (.int v5)] [(.int (1 : Int32))])) (fun _ k => XS.goto X7.here hx rfl (pc0 := 45) (pc' := 49) rfl (hb hby at_45) (by decide) (by decide) k) ?_
      exact own_ret1 X7 hx Bd.returns (hb hby at_49) Bd.notSynchronized (by decide) (by decide) ⟨rfl, N7⟩
    · skip
      refine own_go (G := s₁.setTop (mkF m 31 #[.val (.int p0), .val (.int p1), .val (.int v1), .unset] [])) (fun _ k => XS.icmpYes X0.here hx rfl (pc0 := 19) (pc' := 31) rfl (hb hby at_19) rfl (feq hc19).2 (by decide) (by decide) k) ?_
      refine own_go (G := s₁.setTop (mkF m 32 #[.val (.int p0), .val (.int p1), .val (.int v1), .unset] [(.int p0)])) (fun _ k => XS.iloadN X0.here hx rfl (hb hby at_31) rfl k) ?_
      refine own_go (G := s₁.setTop (mkF m 33 #[.val (.int p0), .val (.int p1), .val (.int v1), .val (.int p0)] [])) (fun _ k => XS.istoreN X0.here hx rfl (hb hby at_32) rfl (l' := #[.val (.int p0), .val (.int p1), .val (.int v1), .val (.int p0)]) rfl k) ?_
      refine own_go (G := s₁.setTop (mkF m 34 #[.val (.int p0), .val (.int p1), .val (.int v1), .val (.int p0)] [(.int p0)])) (fun _ k => XS.iloadN X0.here hx rfl (hb hby at_33) rfl k) ?_
      obtain ⟨_, _, ⟨T8, L8, k8, n8⟩, -, X8, ⟨Lc8, hQ8, l8, y8, z8⟩, st8⟩ := Jvm.LawKit.callS X0 hx (y := (⟨"com/example/xrefloom/xrefloom/tree/XmlNames", "isNameStartChar", "(I)Z"⟩ : MethodName)) hown (mvT hZ (hw _ (List.mem_of_getElem? (i := 0) rfl))) (mvT hZ (hw _ (List.mem_of_getElem? (i := 1) rfl))) (mvT hZ (hw _ (List.mem_of_getElem? (i := 2) rfl))) (mvT hZ (hw _ (List.mem_of_getElem? (i := 3) rfl))) (by decide) (backOf (W := 0) (rm1 l Z a0 hw [] p0 h0 n0 Z0) hZ (hw _ (List.mem_of_getElem? (i := 3) rfl)) (hw _ (List.mem_of_getElem? (i := 2) rfl)) (by decide) (by decide)) (g := (mkF m 34 #[.val (.int p0), .val (.int p1), .val (.int v1), .val (.int p0)] [(.int p0)])) rfl (by rw [hml]; rfl) (argsL := [(.int p0)]) (rest := []) (lenOf pd1 rfl) rfl (by show 2 * 0 + _ ≤ _; exact Nat.le_of_eq rfl) (hb hby at_34) (fun _ _ => ⟨rfl, e0, (by decide : 0 + 0 ≤ _), (by decide : 0 + 0 ≤ _)⟩)
      dsimp only [Pt.U, Pt.locs, Pt.cells, Pt.slots] at X8 l8 y8 z8 st8 hQ8
      subst l8 y8 z8
      obtain ⟨rfl, Nq8, e8⟩ := hQ8
      have N8 := Fr.app N0 Nq8
      refine own_go (G := T8.setTop (mkF m 37 #[.val (.int p0), .val (.int p1), .val (.int v1), .val (.int p0)] [(.int (F1 p0))])) (st8) ?_
      refine own_go (G := T8.setTop (mkF m 38 #[.val (.int p0), .val (.int p1), .val (.int v1), .val (.int p0)] [(.int p0), (.int (F1 p0))])) (fun _ k => XS.iloadN X8.here hx rfl (hb hby at_37) rfl k) ?_
      obtain ⟨_, _, ⟨T9, L9, k9, n9⟩, -, X9, ⟨Lc9, hQ9, l9, y9, z9⟩, st9⟩ := Jvm.LawKit.callS X8 hx (y := (⟨"com/example/xrefloom/xrefloom/tree/XmlNamesIsNameStartCharPinLaw", "reference", "(I)Z"⟩ : MethodName)) hown (mvT hZ (hw _ (List.mem_of_getElem? (i := 7) rfl))) (mvT hZ (hw _ (List.mem_of_getElem? (i := 8) rfl))) (mvT hZ (hw _ (List.mem_of_getElem? (i := 9) rfl))) (mvT hZ (hw _ (List.mem_of_getElem? (i := 10) rfl))) (by decide) (backOf (W := 1) (rm2 l Z a0 hw [] p0 h0 n0 Z0) hZ (hw _ (List.mem_of_getElem? (i := 10) rfl)) (hw _ (List.mem_of_getElem? (i := 9) rfl)) (by decide) (by decide)) (g := (mkF m 38 #[.val (.int p0), .val (.int p1), .val (.int v1), .val (.int p0)] [(.int p0), (.int (F1 p0))])) rfl (by rw [hml]; rfl) (argsL := [(.int p0)]) (rest := [(.int (F1 p0))]) (lenOf pd1 rfl) rfl (by show 2 * 0 + _ ≤ _; exact Nat.le_of_eq rfl) (hb hby at_38) (fun _ _ => ⟨rfl, e8, (by decide : 0 + 0 ≤ _), (by decide : 0 + 0 ≤ _)⟩)
      dsimp only [Pt.U, Pt.locs, Pt.cells, Pt.slots] at X9 l9 y9 z9 st9 hQ9
      subst l9 y9 z9
      obtain ⟨rfl, Nq9, e9⟩ := hQ9
      have N9 := Fr.app N8 Nq9
      refine own_go (G := T9.setTop (mkF m 41 #[.val (.int p0), .val (.int p1), .val (.int v1), .val (.int p0)] [(.int (F2 p0)), (.int (F1 p0))])) (st9) ?_
      refine own_go (G := T9.setTop (mkF m 44 #[.val (.int p0), .val (.int p1), .val (.int v1), .val (.int p0)] [])) (fun _ k => XS.icmpNo X9.here hx rfl (hb hby at_41) rfl (teq (own_law _ : (F1 p0) = (F2 p0))).2 k) ?_
      refine own_go (G := T9.setTop (mkF m 45 #[.val (.int p0), .val (.int p1), .val (.int v1), .val (.int p0)] [(.int (1 : Int32))])) (fun _ k => XS.iconst X9.here hx rfl (hb hby at_44) k) ?_
      refine own_go (G := T9.setTop (mkF m 49 #[.val (.int p0), .val (.int p1), .val (.int v1), .val (.int p0)] [(.int (1 : Int32))])) (fun _ k => XS.goto X9.here hx rfl (pc0 := 45) (pc' := 49) rfl (hb hby at_45) (by decide) (by decide) k) ?_
      exact own_ret1 X9 hx Bd.returns (hb hby at_49) Bd.notSynchronized (by decide) (by decide) ⟨rfl, N9⟩
set_option maxRecDepth 65536 in
set_option maxHeartbeats 40000000 in
theorem comes_1 {Post : Tables → Env → Array Value → State → Outcome → State → Prop} (hpost : ∀ tb e args s v u, (limb_1_1.after args s (.returned v) u = true ∧ limb_1_2.after args s (.returned v) u = true ∧ True) → FrameEnd s (.returned v) u (Jvm.fieldLocs frame_1_writes args s ++ Jvm.arrayLocs frame_1_arrays args s ++ Jvm.staticLocs frame_1_statics s) 0 0 → Post tb e args s (.returned v) u) :
    ArmFor flags0 classFile x code maxLocals ret World_1 tables_1 room_1 Calls_1 rest_1 Pre_1 Post := by
  intro l hfl _ _ p e ha hc hk s m args below hf hA hF happ hP
  obtain ⟨hcalls, hrest, hpre⟩ := hP
  obtain ⟨-, -, -, hnamed, -, -, -, hat⟩ := (Spec.applies_iff hf).mp happ
  obtain ⟨hg, hn⟩ := and_e (Cond.before_iff.mp (show (Jvm.Cond.and given_1 narrow_1).before args s = true from hpre))
  obtain ⟨gc, g0⟩ := and_e hg
  obtain ⟨ga0, g1⟩ := and_e g0
  obtain ⟨w0, w1, rfl⟩ : ∃ w0 w1 : Value, args = #[w0, w1] := by
    have hs : args.size = 2 := by simpa [Cond.value, given_1] using gc
    obtain ⟨L⟩ := args
    match L, hs with
    | [w0, w1], _ => exact ⟨w0, w1, rfl⟩
  have hw := fun d (hd : d ∈ tables_1) => atoms_spec (ws := Jvm.Cond.code x code maxLocals ret :: tables_1) hat d (List.mem_cons_of_mem _ hd)
  obtain ⟨i0, ei0⟩ := is_v ga0
  obtain rfl : w0 = (.int i0) := Option.some.inj ei0
  obtain ⟨i1, ei1⟩ := is_v g1
  obtain rfl : w1 = (.int i1) := Option.some.inj ei1
  obtain ⟨n, o, h1, h2, h3, _, L, rfl, ⟨rfl, N⟩, hq⟩ := rm0 l s _ hw tables_1 i0 i1 s.heap s.heap.size (Nat.le_refl _) p e ha hc hk s m _ below hf ((Spec.applies_iff_loose hf).mp happ).1 ⟨rfl, State.Warmed39.refl s, rfl⟩ trivial
  refine ⟨n, _, h1, h2, h3, hpost _ _ _ _ _ _ ⟨Cond.after_iff.mpr rfl, Cond.after_iff.mpr (eq_i res_at (Term.int_eval (1)) rfl), trivial⟩ ⟨hq.1, hq.2.1, (hq.2.2.sift fun y hy => Or.inr (N y hy)).mono (by decide) (by decide)⟩⟩
theorem main_1_1 : Claimed_1_1 := comes_1 fun _ _ _ _ _ _ h hF => ⟨h.1, hF⟩
theorem main_1_2 : Claimed_1_2 := comes_1 fun _ _ _ _ _ _ h hF => ⟨h.2.1, hF⟩
end Jvm.Pilot.@@N@@
namespace Jvm.Pilot.@@N@@
open Jvm Jvm.ClassFile Sem Op Lib Jvm.Free Jvm.Stand Jvm.Pilot.@@N@@.Jvm.D
/-! MADE BY PROGRAM (witnessworld.py) out of the Statement's table words and the real class files: 9 classes; the members and pool entries that the words name. The judged class is class 1, her method 3. -/
namespace start1
open Jvm.ClassFile
def u (s : String) : CpInfo := .utf8 (stringToUtf16 s)
/-- a pool by its gaps: so many unusable entries, then the entry; so many at the end -/
def gap : Nat → List CpInfo → List CpInfo
  | 0, r => r
  | n + 1, r => .unusable :: gap n r
def poolList (es : List (Nat × CpInfo)) (last : Nat) : List CpInfo := es.foldr (fun e r => gap e.1 (e.2 :: r)) (gap last [])
def pool (es : List (Nat × CpInfo)) (last : Nat) : Array CpInfo := ⟨poolList es last⟩
def fileOf (pool : Array CpInfo) (this : Nat) (attrs : Array Attribute := #[]) (ms : Array MethodInfo := #[]) (fl : Nat := 33) (sup : Nat := 0) (ifs : Array Nat := #[]) (fds : Array FieldInfo := #[]) : ClassFile where
  minorVersion := 0
  majorVersion := 65
  constantPool := pool
  accessFlags := fl
  thisClass := this
  superClass := sup
  interfaces := ifs
  fields := fds
  methods := ms
  attributes := attrs
def plain (name : String) (sup : Option ClassId) : Class where
  name := name
  kind := .ordinary
  loader := none
  accessFlags := 33
  super := sup
  interfaces := #[]
  cf := none
  fields := #[]
  methods := #[]
  instanceTypes := #[]
  staticTypes := #[]
  resolved := #[]
  callSites := []
  init := .initialized
  statics := none
  mirror := none

def pool0 : Array CpInfo := pool [(5, u "<init>"), (0, u "()V"), (1, .class_ 10), (1, u "java/lang/Object")] 113

def k0m0 : Method := { name := "<init>", desc := "()V", sig := { parameters := [], returnType := none }, accessFlags := 1, code := none }
/-- java/lang/Object -/
def k0 : Class := { plain "java/lang/Object" none with
  accessFlags := 33
  interfaces := #[]
  cf := some (fileOf pool0 8 #[] #[{ accessFlags := 1, nameIndex := 5, descriptorIndex := 6, attributes := #[] }] 33 0 #[] #[])
  fields := #[]
  methods := #[k0m0]
  instanceTypes := #[]
  staticTypes := #[]
  resolved := Array.replicate 124 none
  statics := none }

def pool1 : Array CpInfo := pool [(2, .class_ 4), (1, u "java/lang/Object"), (0, u "<init>"), (0, u "()V"), (0, .integer 983039), (0, .methodref 9 10), (0, .class_ 11), (0, .nameAndType 12 13), (0, u "com/example/xrefloom/xrefloom/tree/XmlNamesIsNameStartCharPinLaw"), (0, u "in"), (0, u "(III)Z"), (0, .integer 55296), (0, .integer 63743), (0, .integer 64976), (0, .integer 65007), (0, .integer 65534), (0, .integer 65535), (0, .methodref 21 22), (0, .class_ 23), (0, .nameAndType 24 25), (0, u "com/example/xrefloom/xrefloom/tree/XmlNames"), (0, u "isNameStartChar"), (0, u "(I)Z"), (0, .methodref 9 27), (0, .nameAndType 28 25), (0, u "reference"), (3, u "law"), (0, u "(II)Z")] 2

def k1m0 : Method := { name := "<init>", desc := "()V", sig := { parameters := [], returnType := none }, accessFlags := 2, code := none }
def k1c1 : Code := { maxStack := 2, maxLocals := 3, code := method_2_code, exceptionTable := #[], attributes := #[] }
def k1m1 : Method := { name := "in", desc := "(III)Z", sig := { parameters := [.int, .int, .int], returnType := some .boolean }, accessFlags := 10, code := some k1c1 }
def k1c2 : Code := { maxStack := 3, maxLocals := 2, code := method_3_code, exceptionTable := #[], attributes := #[] }
def k1m2 : Method := { name := "reference", desc := "(I)Z", sig := { parameters := [.int], returnType := some .boolean }, accessFlags := 10, code := some k1c2 }
def k1c3 : Code := { maxStack := 2, maxLocals := 4, code := code, exceptionTable := #[], attributes := #[] }
def k1m3 : Method := { name := "law", desc := "(II)Z", sig := { parameters := [.int, .int], returnType := some .boolean }, accessFlags := 9, code := some k1c3 }
/-- com/example/xrefloom/xrefloom/tree/XmlNamesIsNameStartCharPinLaw -/
def k1 : Class := { plain "com/example/xrefloom/xrefloom/tree/XmlNamesIsNameStartCharPinLaw" (some 0) with
  accessFlags := 49
  interfaces := #[]
  cf := some (fileOf pool1 9 #[] #[{ accessFlags := 2, nameIndex := 5, descriptorIndex := 6, attributes := #[] }, { accessFlags := 10, nameIndex := 12, descriptorIndex := 13, attributes := #[] }, { accessFlags := 10, nameIndex := 28, descriptorIndex := 25, attributes := #[] }, { accessFlags := 9, nameIndex := 32, descriptorIndex := 33, attributes := #[] }] 49 2 #[] #[])
  fields := #[]
  methods := #[k1m0, k1m1, k1m2, k1m3]
  instanceTypes := #[]
  staticTypes := #[]
  resolved := Array.replicate 36 none
  statics := none }

def pool2 : Array CpInfo := pool [(2, .class_ 4), (1, u "java/lang/Object"), (0, u "<init>"), (0, u "()V"), (0, .integer 55295), (0, .integer 63744), (0, .integer 64975), (0, .integer 65008), (0, .integer 65533), (0, .integer 65536), (0, .integer 983039), (1, .class_ 17), (1, u "com/example/xrefloom/xrefloom/tree/XmlNames"), (0, u "isNameStartChar"), (0, u "(I)Z")] 64

def k2m0 : Method := { name := "<init>", desc := "()V", sig := { parameters := [], returnType := none }, accessFlags := 2, code := none }
def k2c1 : Code := { maxStack := 2, maxLocals := 1, code := prog_41_method_2_code, exceptionTable := #[], attributes := #[] }
def k2m1 : Method := { name := "isNameStartChar", desc := "(I)Z", sig := { parameters := [.int], returnType := some .boolean }, accessFlags := 9, code := some k2c1 }
/-- com/example/xrefloom/xrefloom/tree/XmlNames -/
def k2 : Class := { plain "com/example/xrefloom/xrefloom/tree/XmlNames" (some 0) with
  accessFlags := 49
  interfaces := #[]
  cf := some (fileOf pool2 15 #[] #[{ accessFlags := 2, nameIndex := 5, descriptorIndex := 6, attributes := #[] }, { accessFlags := 9, nameIndex := 18, descriptorIndex := 19, attributes := #[] }] 49 2 #[] #[])
  fields := #[]
  methods := #[k2m0, k2m1]
  instanceTypes := #[]
  staticTypes := #[]
  resolved := Array.replicate 84 none
  statics := none }

def pool3 : Array CpInfo := pool [(1, u "java/lang/Cloneable"), (0, .class_ 1), (0, u "java/lang/Object"), (0, .class_ 3)] 3

/-- java/lang/Cloneable -/
def k3 : Class := { plain "java/lang/Cloneable" (some 0) with
  accessFlags := 1537
  interfaces := #[]
  cf := some (fileOf pool3 2 #[] #[] 1537 4 #[] #[])
  fields := #[]
  methods := #[]
  instanceTypes := #[]
  staticTypes := #[]
  resolved := Array.replicate 8 none
  statics := none }

def pool4 : Array CpInfo := pool [(1, u "java/io/Serializable"), (0, .class_ 1), (0, u "java/lang/Object"), (0, .class_ 3)] 3

/-- java/io/Serializable -/
def k4 : Class := { plain "java/io/Serializable" (some 0) with
  accessFlags := 1537
  interfaces := #[]
  cf := some (fileOf pool4 2 #[] #[] 1537 4 #[] #[])
  fields := #[]
  methods := #[]
  instanceTypes := #[]
  staticTypes := #[]
  resolved := Array.replicate 8 none
  statics := none }

/-- the primitive byte -/
def k5 : Class := { plain "byte" none with kind := .primitive 'B', accessFlags := 0x411 }
/-- [B -/
def k6 : Class := { plain "[B" (some 0) with kind := .array 5 .byte, interfaces := #[3, 4], accessFlags := 1041 }

/-- the primitive int -/
def k7 : Class := { plain "int" none with kind := .primitive 'I', accessFlags := 0x411 }
/-- [I -/
def k8 : Class := { plain "[I" (some 0) with kind := .array 7 .int, interfaces := #[3, 4], accessFlags := 1041 }

def heap : Heap := #[]
def classes : Array Class := #[k0, k1, k2, k3, k4, k5, k6, k7, k8]
def interned : List (Array UInt16 × Addr) := []
def slotsUsed : Nat := 0
def theMethod : MethodId := ⟨1, 3⟩
def args0 : Array Value := #[.int 5, .int 5]
def aboutOver (below : List Frame) : State where
  vm := { classes := classes, interned := interned.toArray }
  heap := heap
  slotsUsed := slotsUsed
  threads := #[{ frames := .invoking theMethod args0 :: below }]
def below0 : List Frame := [.native { method := ⟨0, 0⟩, args := #[] }]
def about1 : State := aboutOver below0
def p0 : Program := .bare "" "" ""
def e0 : Env := launch0.env 0 0 0
theorem w_frames : about1.frames = Frame.invoking theMethod args0 :: below0 := rfl
set_option maxRecDepth 65536 in
theorem w_args : argsFit about1.vm theMethod args0 = true := by decide +kernel
set_option maxRecDepth 65536 in
theorem w_heap : heapFits about1 = true := by decide +kernel
set_option maxRecDepth 65536 in
theorem w_runnable : about1.curStatus? = some .runnable := by decide +kernel
set_option maxRecDepth 65536 in
theorem w_alone : about1.alone = true := by decide +kernel
set_option maxRecDepth 65536 in
theorem w_named : about1.methodNamed? x = some theMethod := by decide +kernel
set_option maxRecDepth 65536 in
theorem w_hears : about1.hears theMethod below0 = true := by decide +kernel
set_option maxRecDepth 65536 in
theorem w_ripe : about1.ripe theMethod args0 below0 = true := by decide +kernel
theorem w_running : about1.status = .running := rfl
set_option maxRecDepth 65536 in
theorem w_room : about1.hasRoom e0.platform room_1 = true :=
  launch0.hasRoom_least _ room_1 (by decide +kernel) (by decide +kernel) (by decide +kernel) (by decide +kernel) (by decide +kernel) (by decide +kernel)
theorem allAtoms_all (ts : List Jvm.Cond) (a : Array Jvm.Value) (st : Jvm.State) : (allAtoms ts).before a st = ts.all (fun c => c.before a st) := by
  induction ts with
  | nil => rfl
  | cons c t ih =>
    show (Jvm.Cond.and c (allAtoms t)).before a st = _
    rw [Jvm.Cond.before_and, ih, List.all_cons]
def words1 : List Jvm.Cond := Jvm.Cond.code x code maxLocals ret :: tables_1
/-- a 'code' word, met by the world's own term for the bytes: nothing is compared byte by byte -/
theorem code_word {y : MethodName} {bytes : ByteArray} {mx : Nat} {rt : Option FieldType} {a : Array Value} {s : State} {m : MethodId} {meth : Method} {c : Code} (h1 : s.methodNamed? y = some m) (h2 : s.vm.method? m = some meth) (h3 : meth.code = some c) (h4 : c.code = bytes)
    (h5 : (c.maxLocals == mx && c.exceptionTable.isEmpty && decide (c.maxStack ≤ mostOperands) && decide (meth.sig.returnType = rt) && !meth.locks && decide (parseMethodDescriptor y.desc = some meth.sig)) = true) : (Jvm.Cond.code y bytes mx rt).before a s = true := by
  simp only [Bool.and_eq_true, beq_iff_eq, Bool.not_eq_true', decide_eq_true_eq] at h5
  obtain ⟨⟨⟨⟨⟨g1, g2⟩, g3⟩, g4⟩, g5⟩, g6⟩ := h5
  simp [Cond.before, Cond.holds, Cond.value, h1, h2, h3, h4, g1, g2, g3, g4, g5, g6]
def isCode : Jvm.Cond → Bool
  | .code _ _ _ _ => true
  | _ => false
theorem all_split {L : List Jvm.Cond} {P : Jvm.Cond → Bool} (h1 : L.all (fun c => isCode c || P c) = true) (h2 : ∀ c ∈ L.filter isCode, P c = true) : L.all P = true := by
  refine List.all_eq_true.mpr fun c hc => ?_
  have h := List.all_eq_true.mp h1 c hc
  rcases Bool.eq_false_or_eq_true (isCode c) with hi | hi
  · exact h2 c (List.mem_filter.mpr ⟨hc, hi⟩)
  · simpa [hi] using h
set_option maxRecDepth 65536 in
theorem w_c0 : (Jvm.Cond.code x code maxLocals ret).before args0 about1 = true := code_word (m := ⟨1, 3⟩) (meth := k1m3) (c := k1c3) (by decide +kernel) rfl rfl rfl (by decide +kernel)
set_option maxRecDepth 65536 in
theorem w_c1 : (Jvm.Cond.code ({ cls := "com/example/xrefloom/xrefloom/tree/XmlNames", name := "isNameStartChar", desc := "(I)Z" } : Jvm.MethodName) prog_41_method_2_code (1 : Nat) (Option.some Jvm.ClassFile.FieldType.boolean)).before args0 about1 = true := code_word (m := ⟨2, 1⟩) (meth := k2m1) (c := k2c1) (by decide +kernel) rfl rfl rfl (by decide +kernel)
set_option maxRecDepth 65536 in
theorem w_c2 : (Jvm.Cond.code ({ cls := "com/example/xrefloom/xrefloom/tree/XmlNamesIsNameStartCharPinLaw", name := "reference", desc := "(I)Z" } : Jvm.MethodName) method_3_code (2 : Nat) (Option.some Jvm.ClassFile.FieldType.boolean)).before args0 about1 = true := code_word (m := ⟨1, 2⟩) (meth := k1m2) (c := k1c2) (by decide +kernel) rfl rfl rfl (by decide +kernel)
set_option maxRecDepth 65536 in
theorem w_c3 : (Jvm.Cond.code ({ cls := "com/example/xrefloom/xrefloom/tree/XmlNamesIsNameStartCharPinLaw", name := "in", desc := "(III)Z" } : Jvm.MethodName) method_2_code (3 : Nat) (Option.some Jvm.ClassFile.FieldType.boolean)).before args0 about1 = true := code_word (m := ⟨1, 1⟩) (meth := k1m1) (c := k1c1) (by decide +kernel) rfl rfl rfl (by decide +kernel)
def codes1 : List Jvm.Cond := [Jvm.Cond.code x code maxLocals ret, Jvm.Cond.code ({ cls := "com/example/xrefloom/xrefloom/tree/XmlNames", name := "isNameStartChar", desc := "(I)Z" } : Jvm.MethodName) prog_41_method_2_code (1 : Nat) (Option.some Jvm.ClassFile.FieldType.boolean), Jvm.Cond.code ({ cls := "com/example/xrefloom/xrefloom/tree/XmlNamesIsNameStartCharPinLaw", name := "reference", desc := "(I)Z" } : Jvm.MethodName) method_3_code (2 : Nat) (Option.some Jvm.ClassFile.FieldType.boolean), Jvm.Cond.code ({ cls := "com/example/xrefloom/xrefloom/tree/XmlNamesIsNameStartCharPinLaw", name := "in", desc := "(III)Z" } : Jvm.MethodName) method_2_code (3 : Nat) (Option.some Jvm.ClassFile.FieldType.boolean)]
set_option maxRecDepth 65536 in
theorem codes_eq : words1.filter isCode = codes1 := rfl
theorem w_codes : ∀ c ∈ words1.filter isCode, c.before args0 about1 = true := by
  rw [codes_eq]
  intro c hc
  simp only [codes1, List.mem_cons, List.not_mem_nil, or_false] at hc
  rcases hc with rfl | rfl | rfl | rfl
  · exact w_c0
  · exact w_c1
  · exact w_c2
  · exact w_c3
set_option maxRecDepth 65536 in
theorem w_t1 : (words1.take 24).all (fun c => isCode c || c.before args0 about1) = true := by decide +kernel
set_option maxRecDepth 65536 in
theorem w_t2 : (words1.drop 24).all (fun c => isCode c || c.before args0 about1) = true := by decide +kernel
theorem w_tables : (allAtoms (Jvm.Cond.code x code maxLocals ret :: tables_1)).before args0 about1 = true := by
  rw [allAtoms_all]
  show words1.all (fun c => c.before args0 about1) = true
  refine all_split ?_ w_codes
  rw [← List.take_append_drop 24 words1, List.all_append, w_t1, w_t2]
  rfl
set_option maxRecDepth 65536 in
theorem w_case : (Jvm.Cond.and given_1 narrow_1).before args0 about1 = true := by decide +kernel
theorem w_applies : (headSpec (Jvm.Cond.code x code maxLocals ret :: tables_1) room_1).applies x e0.platform about1 = true :=
  (Spec.applies_iff w_frames).mpr ⟨w_running, w_runnable, w_alone, w_named, w_hears, w_ripe, w_room, w_tables⟩
theorem atStart : AtStart classFile x code maxLocals ret World_1 tables_1 room_1 Calls_1 rest_1 Pre_1 launch0 p0 e0 about1 theMethod args0 below0 :=
  ⟨lists_1, trivial, launch0.admits_env _ _ _, launch0.least_env, fairChoices_fair.cas, fairChoices_fair.clock, w_frames, w_args, w_heap, w_applies, trivial, trivial, w_case⟩
end start1
theorem witness_1 : WitnessClaimed_1 := ⟨start1.p0, start1.e0, start1.about1, start1.theMethod, start1.args0, start1.below0, start1.atStart⟩
end Jvm.Pilot.@@N@@
