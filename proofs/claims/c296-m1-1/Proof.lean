import JvmDerived
import JvmDerived.Pilot.@@N@@Statement
import JvmDerived.Pilot.@@N@@Code
set_option linter.unusedVariables false
set_option linter.unusedSimpArgs false
namespace Jvm.Pilot.@@N@@
open Jvm Jvm.ClassFile Sem Op Lib Jvm.Free Jvm.Stand Jvm.LawKit Jvm.RoadKit Bundle Jvm.Pilot.@@N@@.Jvm.D
/-- the run from F ends, with an outcome and a state that Φ takes -/
def own_Goes (p : Program) (e : Env) (below : List Frame) (Φ : Outcome → State → Prop) (F : State) : Prop :=
  ∃ s₂ o, Steps p.tables e below F s₂ ∧ s₂.status = .running ∧ Ended s₂ below o ∧ Φ o s₂
theorem own_go {p : Program} {e : Env} {below : List Frame} {Φ : Outcome → State → Prop} {F G : State}
    (k : ∀ t, Steps p.tables e below G t → Steps p.tables e below F t) (h : own_Goes p e below Φ G) : own_Goes p e below Φ F := by
  obtain ⟨s₂, o, h1, h2⟩ := h
  exact ⟨s₂, o, k _ h1, h2⟩
/-- what a contract says of the end -/
def own_End (s : State) (Q : Option Value → Heap → List Loc → Prop) (k n : Nat) (o : Outcome) (U' : State) : Prop :=
  ∃ v L, o = .returned v ∧ Q v U'.heap L ∧ FrameEnd s o U' L k n
/-- a value is returned, the heap is as it was -/
def own_Same (w : Value) (h0 : Heap) (n0 : Nat) (v : Option Value) (h : Heap) (L : List Loc) : Prop := v = some w ∧ Fr n0 L ∧ h = h0
/-- nothing is returned, the heap is as it was -/
def own_SameV (h0 : Heap) (n0 : Nat) (v : Option Value) (h : Heap) (L : List Loc) : Prop := v = none ∧ Fr n0 L ∧ h = h0
section Own
variable {p : Program} {l : Launch} {e : Env} {R : Room} {s : State} {m : MethodId} {args : Array Value} {below : List Frame} {meth : Method} {c : Code} {T : State} {locs : List Loc} {cells slots : Nat}
theorem own_ret (X : Stand p l e R s m args below meth c T locs cells slots) (hx : p.tables.exec = Jvm.exec) {pc : Nat} {Ls : Array Slot} {w : Value} {t : FieldType} {i : Instr} {rest : List Value} (hret : meth.sig.returnType = some t) (hn : narrow t w = w)
    (hi : (i = .ireturn ∧ (t = .int ∨ t = .boolean ∨ t = .byte ∨ t = .char ∨ t = .short) ∧ ∃ z, w = .int z) ∨ (i = .lreturn ∧ t = .long ∧ ∃ z, w = .long z) ∨ (i = .dreturn ∧ t = .double ∧ ∃ z, w = .double z) ∨ (i = .freturn ∧ t = .float ∧ ∃ z, w = .float z) ∨ (i = .areturn ∧ t.isReference = true ∧ w.isRef = true))
    (hd : decode c.code pc = .ok (i, 1)) (hlk : meth.locks = false) {Q : Option Value → Heap → List Loc → Prop} {k n : Nat} (h1 : cells ≤ k) (h2 : slots ≤ n) (hQ : Q (some w) T.heap locs) :
    own_Goes p e below (own_End s Q k n) (T.setTop (mkF m pc Ls (w :: rest))) := by
  obtain ⟨fs, hr, hrun, hended, hW, hsame⟩ := X.leave (v := some w) (fun h => by rw [hret] at h; cases h) hlk
  exact ⟨_, _, retOut X hx hret hn hi hd hr, hrun, hended, _, _, rfl, hQ, ⟨_, rfl⟩, hW, hsame.mono h1 h2⟩
theorem own_retI (X : Stand p l e R s m args below meth c T locs cells slots) (hx : p.tables.exec = Jvm.exec) {pc : Nat} {Ls : Array Slot} {z : Int32} {rest : List Value} (hret : meth.sig.returnType = some .int)
    (hd : decode c.code pc = .ok (.ireturn, 1)) (hlk : meth.locks = false) {Q : Option Value → Heap → List Loc → Prop} {k n : Nat} (h1 : cells ≤ k) (h2 : slots ≤ n) (hQ : Q (some (.int z)) T.heap locs) :
    own_Goes p e below (own_End s Q k n) (T.setTop (mkF m pc Ls (.int z :: rest))) := own_ret X hx hret rfl (Or.inl ⟨rfl, Or.inl rfl, z, rfl⟩) hd hlk h1 h2 hQ
theorem own_retJ (X : Stand p l e R s m args below meth c T locs cells slots) (hx : p.tables.exec = Jvm.exec) {pc : Nat} {Ls : Array Slot} {z : Int64} {rest : List Value} (hret : meth.sig.returnType = some .long)
    (hd : decode c.code pc = .ok (.lreturn, 1)) (hlk : meth.locks = false) {Q : Option Value → Heap → List Loc → Prop} {k n : Nat} (h1 : cells ≤ k) (h2 : slots ≤ n) (hQ : Q (some (.long z)) T.heap locs) :
    own_Goes p e below (own_End s Q k n) (T.setTop (mkF m pc Ls (.long z :: rest))) := own_ret X hx hret rfl (Or.inr (Or.inl ⟨rfl, rfl, z, rfl⟩)) hd hlk h1 h2 hQ
theorem own_retB (X : Stand p l e R s m args below meth c T locs cells slots) (hx : p.tables.exec = Jvm.exec) {pc : Nat} {Ls : Array Slot} {z : Int32} {rest : List Value} (hret : meth.sig.returnType = some .boolean) (hz : z = 0 ∨ z = 1)
    (hd : decode c.code pc = .ok (.ireturn, 1)) (hlk : meth.locks = false) {Q : Option Value → Heap → List Loc → Prop} {k n : Nat} (h1 : cells ≤ k) (h2 : slots ≤ n) (hQ : Q (some (.int z)) T.heap locs) :
    own_Goes p e below (own_End s Q k n) (T.setTop (mkF m pc Ls (.int z :: rest))) := own_ret X hx hret (by rcases hz with rfl | rfl <;> rfl) (Or.inl ⟨rfl, Or.inr (Or.inl rfl), z, rfl⟩) hd hlk h1 h2 hQ
theorem own_ret1 (X : Stand p l e R s m args below meth c T locs cells slots) (hx : p.tables.exec = Jvm.exec) {pc : Nat} {Ls : Array Slot} {rest : List Value} (hret : meth.sig.returnType = some .boolean)
    (hd : decode c.code pc = .ok (.ireturn, 1)) (hlk : meth.locks = false) {Q : Option Value → Heap → List Loc → Prop} {k n : Nat} (h1 : cells ≤ k) (h2 : slots ≤ n) (hQ : Q (some (.int 1)) T.heap locs) :
    own_Goes p e below (own_End s Q k n) (T.setTop (mkF m pc Ls (.int 1 :: rest))) := own_retB X hx hret (Or.inr rfl) hd hlk h1 h2 hQ
theorem own_ret0 (X : Stand p l e R s m args below meth c T locs cells slots) (hx : p.tables.exec = Jvm.exec) {pc : Nat} {Ls : Array Slot} {rest : List Value} (hret : meth.sig.returnType = some .boolean)
    (hd : decode c.code pc = .ok (.ireturn, 1)) (hlk : meth.locks = false) {Q : Option Value → Heap → List Loc → Prop} {k n : Nat} (h1 : cells ≤ k) (h2 : slots ≤ n) (hQ : Q (some (.int 0)) T.heap locs) :
    own_Goes p e below (own_End s Q k n) (T.setTop (mkF m pc Ls (.int 0 :: rest))) := own_retB X hx hret (Or.inl rfl) hd hlk h1 h2 hQ
theorem own_retN (X : Stand p l e R s m args below meth c T locs cells slots) (hx : p.tables.exec = Jvm.exec) {pc : Nat} {Ls : Array Slot} {z : Int32} {t : FieldType} {rest : List Value} (hret : meth.sig.returnType = some t) (ht : t = .boolean ∨ t = .byte ∨ t = .char ∨ t = .short)
    (hd : decode c.code pc = .ok (.ireturn, 1)) (hlk : meth.locks = false) {Q : Option Value → Heap → List Loc → Prop} {k n : Nat} (h1 : cells ≤ k) (h2 : slots ≤ n) (hQ : Q (some (.int (nar t z))) T.heap locs) :
    own_Goes p e below (own_End s Q k n) (T.setTop (mkF m pc Ls (.int z :: rest))) := by
  obtain ⟨fs, hr, hrun, hended, hW, hsame⟩ := X.leave (v := some (.int (nar t z))) (fun h => by rw [hret] at h; cases h) hlk
  exact ⟨_, _, retN X hx hret ht hd hr, hrun, hended, _, _, rfl, hQ, ⟨_, rfl⟩, hW, hsame.mono h1 h2⟩
theorem own_retA (X : Stand p l e R s m args below meth c T locs cells slots) (hx : p.tables.exec = Jvm.exec) {pc : Nat} {Ls : Array Slot} {w : Value} {t : FieldType} {rest : List Value} (hret : meth.sig.returnType = some t) (ht : t.isReference = true) (hw : w.isRef = true)
    (hd : decode c.code pc = .ok (.areturn, 1)) (hlk : meth.locks = false) {Q : Option Value → Heap → List Loc → Prop} {k n : Nat} (h1 : cells ≤ k) (h2 : slots ≤ n) (hQ : Q (some w) T.heap locs) :
    own_Goes p e below (own_End s Q k n) (T.setTop (mkF m pc Ls (w :: rest))) := own_ret X hx hret (by cases t <;> first | rfl | cases ht) (Or.inr (Or.inr (Or.inr (Or.inr ⟨rfl, ht, hw⟩)))) hd hlk h1 h2 hQ
theorem own_retV (X : Stand p l e R s m args below meth c T locs cells slots) (hx : p.tables.exec = Jvm.exec) {pc : Nat} {Ls : Array Slot} (hret : meth.sig.returnType = none)
    (hd : decode c.code pc = .ok (.return_, 1)) (hlk : meth.locks = false) {Q : Option Value → Heap → List Loc → Prop} {k n : Nat} (h1 : cells ≤ k) (h2 : slots ≤ n) (hQ : Q none T.heap locs) :
    own_Goes p e below (own_End s Q k n) (T.setTop (mkF m pc Ls [])) := by
  obtain ⟨fs, hr, hrun, hended, hW, hsame⟩ := X.leave (v := none) (fun _ => rfl) hlk
  exact ⟨_, _, X.returnOut hx hret hd hr, hrun, hended, _, _, rfl, hQ, ⟨_, rfl⟩, hW, hsame.mono h1 h2⟩
end Own
/-- the law says true; nothing old is written -/
def own_True (n0 : Nat) (v : Option Value) (h : Heap) (L : List Loc) : Prop := v = some (.int 1) ∧ Fr n0 L
theorem own_i (x y : Int32) : (x = y ↔ x.toInt = y.toInt) ∧ (x < y ↔ x.toInt < y.toInt) ∧ (x ≤ y ↔ x.toInt ≤ y.toInt) := ⟨Int32.toInt_inj.symm, Int32.lt_iff_toInt_lt, Int32.le_iff_toInt_le⟩
theorem own_ie (x y : Int32) : x = y ↔ x.toInt = y.toInt := Int32.toInt_inj.symm
theorem own_le (x y : Int64) : x = y ↔ x.toInt = y.toInt := Int64.toInt_inj.symm
/-- an array of which the kind and the length alone are told -/
def own_A (Z : State) (h : Heap) (a : Addr) (ty : FieldType) (n : Int32) : Prop := ∃ c : Cell, Arr Z h a c ty ∧ c.slots.size = n.toNatClampNeg ∧ ¬ n < 0
section OwnA
variable {Z : State} {h h' : Heap} {a b : Addr} {ty : FieldType} {n : Int32} {sl : Nat} {v : Value} {ws : List Addr}
theorem own_A.lt (F : own_A Z h a ty n) : a < h.size := by obtain ⟨c, A, -⟩ := F; exact A.lt
theorem own_A.ext (F : own_A Z h a ty n) (E : Ext h h') : own_A Z h' a ty n := by obtain ⟨c, A, r⟩ := F; exact ⟨c, A.ext E, r⟩
theorem own_A.other (F : own_A Z h b ty n) (W : Wr h h' a sl v) (q : b ≠ a) : own_A Z h' b ty n := by obtain ⟨c, A, r⟩ := F; exact ⟨c, A.other W q, r⟩
theorem own_A.same (F : own_A Z h a ty n) (W : Wr h h' a sl v) : own_A Z h' a ty n := by
  obtain ⟨c, A, r1, r2⟩ := F
  exact ⟨_, A.same W, by rw [← r1]; simp [Cell.setSlot], r2⟩
theorem own_A.keep (F : own_A Z h a ty n) (K : Keep h h' ws) (q : a ∉ ws) : own_A Z h' a ty n := by obtain ⟨c, A, r⟩ := F; exact ⟨c, ⟨K.2.1 a c A.1 q, A.2⟩, r⟩
theorem own_A.of {k : ClassId} {vs : List Value} {d : Value} (F : Arv Z h a k ty n vs d) : own_A Z h a ty n := by obtain ⟨c, A, -, r1, r2, -⟩ := F; exact ⟨c, A, r1, r2⟩
end OwnA
theorem own_staKeep {Z : State} {h h' : Heap} {C n d : String} {v : Value} (F : Sta Z h C n d v) (K : Keep h h' []) : Sta Z h' C n d v := by
  obtain ⟨cf, i, k, f, st, cell, h1, h2, h3, h4, h5, r⟩ := F
  exact ⟨cf, i, k, f, st, cell, h1, h2, h3, h4, K.2.1 _ _ h5 nin0, r⟩
/-- what a contract says of the end, where String constants may have been loaded: the booked Strings still say their texts -/
def own_EndW (s : State) (Z : State) (EL : List (String × Nat)) (Q : Option Value → Heap → List Loc → Prop) (k n : Nat) (o : Outcome) (U' : State) : Prop :=
  ∃ v L, o = .returned v ∧ Q v U'.heap L ∧ CHr Z EL s.vm s.heap U'.vm U'.heap ∧ ReturnedEndW s o U' L k n
section OwnW
variable {p : Program} {l : Launch} {e : Env} {R : Room} {s : State} {m : MethodId} {args : Array Value} {below : List Frame} {meth : Method} {c : Code} {T : State} {locs : List Loc} {cells slots : Nat} {vm : Vm} {k0 : Nat} {Z : State} {a0 : Array Value} {EL : List (String × Nat)}
theorem own_retW (X : Stand p l e R (s.setVm vm) m args below meth c T locs cells slots) (hx : p.tables.exec = Jvm.exec) {pc : Nat} {Ls : Array Slot} {w : Value} {t : FieldType} {i : Instr} {rest : List Value} (hret : meth.sig.returnType = some t) (hn : narrow t w = w)
    (hi : (i = .ireturn ∧ (t = .int ∨ t = .boolean ∨ t = .byte ∨ t = .char ∨ t = .short) ∧ ∃ z, w = .int z) ∨ (i = .lreturn ∧ t = .long ∧ ∃ z, w = .long z) ∨ (i = .dreturn ∧ t = .double ∧ ∃ z, w = .double z) ∨ (i = .freturn ∧ t = .float ∧ ∃ z, w = .float z) ∨ (i = .areturn ∧ t.isReference = true ∧ w.isRef = true))
    (hd : decode c.code pc = .ok (i, 1)) (hlk : meth.locks = false) (hS : s.Since vm k0) (hk : k0 ≤ T.heap.size) (hZ : Z.Warmed39 vm) (hEL : EW Z a0 EL) (hC : CHr Z EL s.vm s.heap vm T.heap) {Q : Option Value → Heap → List Loc → Prop} {k n : Nat} (h1 : cells ≤ k) (h2 : slots ≤ n) (hQ : Q (some w) T.heap locs) :
    own_Goes p e below (own_EndW s Z EL Q k n) (T.setTop (mkF m pc Ls (w :: rest))) := by
  obtain ⟨fs, hr, hrun, hended, e1, e2, e3, e4⟩ := X.leaveW hS hk (v := some w) (fun h => by rw [hret] at h; cases h) hlk
  have hA : CHr Z EL vm T.heap T.vm T.heap := CHv.at X hZ hEL hC.1
  have hB : CHr Z EL s.vm s.heap T.vm T.heap := hC.trans hA
  exact ⟨_, _, retOut X hx hret hn hi hd hr, hrun, hended, _, _, rfl, hQ, hB, e1, e2, e3, e4.mono h1 h2⟩
theorem own_retBW (X : Stand p l e R (s.setVm vm) m args below meth c T locs cells slots) (hx : p.tables.exec = Jvm.exec) {pc : Nat} {Ls : Array Slot} {z : Int32} {rest : List Value} (hret : meth.sig.returnType = some .boolean) (hz : z = 0 ∨ z = 1)
    (hd : decode c.code pc = .ok (.ireturn, 1)) (hlk : meth.locks = false) (hS : s.Since vm k0) (hk : k0 ≤ T.heap.size) (hZ : Z.Warmed39 vm) (hEL : EW Z a0 EL) (hC : CHr Z EL s.vm s.heap vm T.heap) {Q : Option Value → Heap → List Loc → Prop} {k n : Nat} (h1 : cells ≤ k) (h2 : slots ≤ n) (hQ : Q (some (.int z)) T.heap locs) :
    own_Goes p e below (own_EndW s Z EL Q k n) (T.setTop (mkF m pc Ls (.int z :: rest))) := own_retW X hx hret (by rcases hz with rfl | rfl <;> rfl) (Or.inl ⟨rfl, Or.inr (Or.inl rfl), z, rfl⟩) hd hlk hS hk hZ hEL hC h1 h2 hQ
theorem own_retIW (X : Stand p l e R (s.setVm vm) m args below meth c T locs cells slots) (hx : p.tables.exec = Jvm.exec) {pc : Nat} {Ls : Array Slot} {z : Int32} {rest : List Value} (hret : meth.sig.returnType = some .int)
    (hd : decode c.code pc = .ok (.ireturn, 1)) (hlk : meth.locks = false) (hS : s.Since vm k0) (hk : k0 ≤ T.heap.size) (hZ : Z.Warmed39 vm) (hEL : EW Z a0 EL) (hC : CHr Z EL s.vm s.heap vm T.heap) {Q : Option Value → Heap → List Loc → Prop} {k n : Nat} (h1 : cells ≤ k) (h2 : slots ≤ n) (hQ : Q (some (.int z)) T.heap locs) :
    own_Goes p e below (own_EndW s Z EL Q k n) (T.setTop (mkF m pc Ls (.int z :: rest))) := own_retW X hx hret rfl (Or.inl ⟨rfl, Or.inl rfl, z, rfl⟩) hd hlk hS hk hZ hEL hC h1 h2 hQ
end OwnW

def own_fs : List (String × String) := [("state", "Lcom/example/corridor/corridor/iso20022/MarkupScanner$State;"), ("textBegins", "Z"), ("pieceIndex", "I"), ("pieceLine", "J"), ("line", "J"), ("units", "[C"), ("from", "I"), ("offset", "J"), ("fromOffset", "J"), ("encoding", "Lcom/example/corridor/corridor/iso20022/MarkupScanner$Encoding;"), ("width", "I"), ("cutReady", "Z"), ("limited", "Z"), ("opened", "I"), ("marks", "I"), ("cdataOffset", "J"), ("previous", "C"), ("pieceOffset", "J"), ("nameIndex", "I"), ("nameContinued", "I"), ("quote", "C"), ("inTarget", "Z"), ("depth", "I")]
theorem own_fsw : ∀ p ∈ own_fs, Jvm.Cond.lays "com/example/corridor/corridor/iso20022/MarkupScanner" "com/example/corridor/corridor/iso20022/MarkupScanner" p.1 p.2 ∈ tables_1 := by
  intro p hp
  simp only [own_fs, List.mem_cons, List.not_mem_nil, or_false] at hp
  rcases hp with rfl | rfl | rfl | rfl | rfl | rfl | rfl | rfl | rfl | rfl | rfl | rfl | rfl | rfl | rfl | rfl | rfl | rfl | rfl | rfl | rfl | rfl | rfl
  · exact List.mem_of_getElem? (i := 18) rfl
  · exact List.mem_of_getElem? (i := 20) rfl
  · exact List.mem_of_getElem? (i := 22) rfl
  · exact List.mem_of_getElem? (i := 24) rfl
  · exact List.mem_of_getElem? (i := 26) rfl
  · exact List.mem_of_getElem? (i := 33) rfl
  · exact List.mem_of_getElem? (i := 35) rfl
  · exact List.mem_of_getElem? (i := 37) rfl
  · exact List.mem_of_getElem? (i := 39) rfl
  · exact List.mem_of_getElem? (i := 41) rfl
  · exact List.mem_of_getElem? (i := 45) rfl
  · exact List.mem_of_getElem? (i := 55) rfl
  · exact List.mem_of_getElem? (i := 74) rfl
  · exact List.mem_of_getElem? (i := 84) rfl
  · exact List.mem_of_getElem? (i := 135) rfl
  · exact List.mem_of_getElem? (i := 141) rfl
  · exact List.mem_of_getElem? (i := 161) rfl
  · exact List.mem_of_getElem? (i := 163) rfl
  · exact List.mem_of_getElem? (i := 210) rfl
  · exact List.mem_of_getElem? (i := 212) rfl
  · exact List.mem_of_getElem? (i := 215) rfl
  · exact List.mem_of_getElem? (i := 217) rfl
  · exact List.mem_of_getElem? (i := 219) rfl
theorem own_fst : ∀ p ∈ own_fs, (parseFieldDescriptor p.2).isSome = true := by decide +kernel
theorem own_fsn : ∀ i j : Fin 23, i ≠ j → (own_fs.getD i.val ("", "")).1 ≠ (own_fs.getD j.val ("", "")).1 := by decide +kernel
def own_G (Z : State) (h : Heap) (g : Addr) (vs : List Value) : Prop := Exa Z h g "com/example/corridor/corridor/iso20022/MarkupScanner" ∧ ∀ (i : Nat) (p : String × String), own_fs[i]? = some p → Fld Z h g "com/example/corridor/corridor/iso20022/MarkupScanner" p.1 p.2 (vs.getD i .null)
def own_ss : List (Nat × String × Int32) := [(0, "TEXT", (0 : Int32)), (1, "OPEN", (1 : Int32)), (2, "TAG", (2 : Int32)), (3, "BANG", (3 : Int32)), (5, "CDATA_OPEN", (5 : Int32)), (7, "PROCESSING_INSTRUCTION", (7 : Int32)), (9, "CDATA", (9 : Int32))]
def own_us (c : Int32) : List Int32 := [60, 33, 91, 67, 68, 65, 84, 65, 91, c]
def own_u (c : Int32) (n : Nat) : Int32 := (own_us c).getD n 0
def own_vs (c : Int32) : List Value := [(.int (60 : Int32)), (.int (33 : Int32)), (.int (91 : Int32)), (.int (67 : Int32)), (.int (68 : Int32)), (.int (65 : Int32)), (.int (84 : Int32)), (.int (65 : Int32)), (.int (91 : Int32)), (.int c)]
def own_I (Z : State) (h : Heap) (g u : Addr) (ku : ClassId) (c : Int32) (en : Addr) (EC : String) (w : Int32) (sa : Nat → Addr) : Prop := (∀ (i : Nat) (q : Nat × String × Int32), own_ss[i]? = some q → Sta Z h "com/example/corridor/corridor/iso20022/MarkupScanner$State" q.2.1 "Lcom/example/corridor/corridor/iso20022/MarkupScanner$State;" (.ref (sa q.1)) ∧ Exa Z h (sa q.1) "com/example/corridor/corridor/iso20022/MarkupScanner$State" ∧ Fld Z h (sa q.1) "java/lang/Enum" "ordinal" "I" (.int q.2.2) ∧ sa q.1 ≠ g) ∧ Exa Z h en EC ∧ Fld Z h en "com/example/corridor/corridor/iso20022/MarkupScanner$Encoding" "width" "I" (.int w) ∧ en ≠ g ∧ Arv Z h u ku .char (16394 : Int32) (own_vs c) (.int (0 : Int32)) ∧ u ≠ g
section OwnG
variable {Z : State} {h h' : Heap} {g u en : Addr} {ku : ClassId} {c w : Int32} {EC : String} {sa : Nat → Addr} {vs : List Value} {a0 : Array Value}
theorem own_G.put (hw : ∀ d ∈ tables_1, d.before a0 Z = true) (G : own_G Z h g vs) (i : Nat) {p : String × String} (hp : own_fs[i]? = some p) (hi : i < vs.length) {v : Value} (W : Wr h h' g (Jvm.RoadKit.slotOf Z "com/example/corridor/corridor/iso20022/MarkupScanner" p.1 p.2) v) : own_G Z h' g (vs.set i v) := by
  refine ⟨G.1.wr W, fun j q hq => ?_⟩
  by_cases hij : i = j
  · subst hij
    rw [hp] at hq
    cases hq
    have e : (vs.set i v).getD i .null = v := by simp [List.getD, hi]
    rw [e]
    exact (G.2 i p hp).same W
  · have e : (vs.set i v).getD j .null = vs.getD j .null := by simp [List.getD, List.getElem?_set, hij]
    rw [e]
    have mp : p ∈ own_fs := List.mem_of_getElem? hp
    have mq : q ∈ own_fs := List.mem_of_getElem? hq
    have tp := own_fst p mp
    have tq := own_fst q mq
    obtain ⟨t1, e1⟩ := Option.isSome_iff_exists.mp tp
    obtain ⟨t2, e2⟩ := Option.isSome_iff_exists.mp tq
    have li : i < 23 := by have := (List.getElem?_eq_some_iff.mp hp).1; exact this
    have lj : j < 23 := by have := (List.getElem?_eq_some_iff.mp hq).1; exact this
    have nn := own_fsn ⟨j, lj⟩ ⟨i, li⟩ (fun z => hij (congrArg Fin.val z).symm)
    have n1 : own_fs.getD j ("", "") = q := by simp [List.getD, hq]
    have n2 : own_fs.getD i ("", "") = p := by simp [List.getD, hp]
    simp only [n1, n2] at nn
    exact (G.2 j q hq).other W (Or.inr (slot_ne (Or.inl (hw _ (own_fsw q mq))) (Or.inl (hw _ (own_fsw p mp))) nn e2 e1))
theorem own_stk {C n d : String} {v : Value} (F : Sta Z h C n d v) (K : Keep h h' [g]) (E : Exa Z h g "com/example/corridor/corridor/iso20022/MarkupScanner") : Sta Z h' C n d v := by
  obtain ⟨cf, i, k, f, st, cell, h1, h2, h3, h4, h5, h6, h7⟩ := F
  refine ⟨cf, i, k, f, st, cell, h1, h2, h3, h4, K.2.1 _ _ h5 (fun hm => ?_), h6, h7⟩
  obtain ⟨c', kk, e1, -, -, e4, -⟩ := E
  rw [List.mem_singleton.mp hm, e1] at h5
  cases h5
  rw [e4] at h6
  cases h6
theorem own_I.keep (I : own_I Z h g u ku c en EC w sa) (K : Keep h h' [g]) (E : Exa Z h g "com/example/corridor/corridor/iso20022/MarkupScanner") : own_I Z h' g u ku c en EC w sa := by
  obtain ⟨a, b, d, e, f, k⟩ := I
  refine ⟨fun i q hq => ?_, b.keep K, d.keep K (ninS e nin0), e, f.keep K (ninS k nin0), k⟩
  obtain ⟨a1, a2, a3, a4⟩ := a i q hq
  exact ⟨own_stk a1 K E, a2.keep K, a3.keep K (ninS a4 nin0), a4⟩
theorem own_I.wr (I : own_I Z h g u ku c en EC w sa) {sl : Nat} {v : Value} (W : Wr h h' g sl v) (E : Exa Z h g "com/example/corridor/corridor/iso20022/MarkupScanner") : own_I Z h' g u ku c en EC w sa := I.keep (Keep.of_wr W) E
theorem own_I.ext (I : own_I Z h g u ku c en EC w sa) (E : Ext h h') : own_I Z h' g u ku c en EC w sa := by
  obtain ⟨a, b, d, e, f, k⟩ := I
  refine ⟨fun i q hq => ?_, b.ext E, d.ext E, e, f.ext E, k⟩
  obtain ⟨a1, a2, a3, a4⟩ := a i q hq
  exact ⟨a1.ext E, a2.ext E, a3.ext E, a4⟩
theorem own_G.ext (G : own_G Z h g vs) (E : Ext h h') : own_G Z h' g vs := ⟨G.1.ext E, fun i p hp => (G.2 i p hp).ext E⟩
theorem own_I.ne (I : own_I Z h g u ku c en EC w sa) (i j : Nat) {p q : Nat × String × Int32} (hp : own_ss[i]? = some p) (hq : own_ss[j]? = some q) (hne : p.2.2 ≠ q.2.2) : sa p.1 ≠ sa q.1 := Fld.ne (I.1 i p hp).2.2.1 (I.1 j q hq).2.2.1 (fun e => hne (by simpa using e))
theorem own_vs_at (n : Nat) : (own_vs c).getD n (.int 0) = .int (own_u c n) := by
  unfold own_u own_us own_vs
  match n with
  | 0 | 1 | 2 | 3 | 4 | 5 | 6 | 7 | 8 | 9 => rfl
  | (k + 10) => rfl
theorem own_u0 {n : Nat} (h : 10 ≤ n) : own_u c n = 0 := by
  obtain ⟨k, rfl⟩ : ∃ k, n = k + 10 := ⟨n - 10, by omega⟩
  rfl
theorem own_clamp {j : Int32} (h0 : 0 ≤ j.toInt) : (j.toNatClampNeg : Int) = j.toInt := by simp only [Int32.toNatClampNeg]; omega
theorem own_I.at (I : own_I Z h g u ku c en EC w sa) (j : Int32) (h0 : 0 ≤ j.toInt) (h1 : j.toInt < 16394) : ∃ cl : Cell, Arr Z h u cl .char ∧ (¬ (j < 0 ∨ cl.slots.size ≤ j.toNatClampNeg)) ∧ cl.slots[j.toNatClampNeg]? = some (.int (own_u c j.toNatClampNeg)) := by
  obtain ⟨-, -, -, -, ⟨cl, Ar, q, S, N, H, F⟩, -⟩ := I
  have hin : ¬ (j < 0 ∨ cl.slots.size ≤ j.toNatClampNeg) := inb_of S ⟨by rw [Int32.lt_iff_toInt_lt, show (0 : Int32).toInt = 0 from rfl]; omega, by rw [Int32.lt_iff_toInt_lt, show (16394 : Int32).toInt = 16394 from rfl]; omega⟩
  exact ⟨cl, Ar, hin, H.at hin (own_vs_at _)⟩
theorem own_I.at0 (I : own_I Z h g u ku c en EC w sa) (j : Int32) (h0 : 10 ≤ j.toInt) (h1 : j.toInt < 16394) : ∃ cl : Cell, Arr Z h u cl .char ∧ (¬ (j < 0 ∨ cl.slots.size ≤ j.toNatClampNeg)) ∧ cl.slots[j.toNatClampNeg]? = some (.int (0 : Int32)) := by
  obtain ⟨cl, a, b, d⟩ := I.at j (by omega) h1
  rw [own_u0 (by have := own_clamp (j := j) (by omega); omega)] at d
  exact ⟨cl, a, b, d⟩
end OwnG
def own_J (Z : State) (h : Heap) (b : Nat) (en : Addr) (EC : String) (w : Int32) (sa : Nat → Addr) : Prop := (∀ (i : Nat) (q : Nat × String × Int32), own_ss[i]? = some q → Sta Z h "com/example/corridor/corridor/iso20022/MarkupScanner$State" q.2.1 "Lcom/example/corridor/corridor/iso20022/MarkupScanner$State;" (.ref (sa q.1)) ∧ Exa Z h (sa q.1) "com/example/corridor/corridor/iso20022/MarkupScanner$State" ∧ Fld Z h (sa q.1) "java/lang/Enum" "ordinal" "I" (.int q.2.2) ∧ sa q.1 < b) ∧ Exa Z h en EC ∧ Fld Z h en "com/example/corridor/corridor/iso20022/MarkupScanner$Encoding" "width" "I" (.int w) ∧ en < b
section OwnJ
variable {Z : State} {h h' : Heap} {g u en : Addr} {b : Nat} {ku : ClassId} {c w : Int32} {EC : String} {sa : Nat → Addr}
theorem own_J.ext (J : own_J Z h b en EC w sa) (E : Ext h h') : own_J Z h' b en EC w sa := by
  obtain ⟨a, d, e, f⟩ := J
  refine ⟨fun i q hq => ?_, d.ext E, e.ext E, f⟩
  obtain ⟨a1, a2, a3, a4⟩ := a i q hq
  exact ⟨a1.ext E, a2.ext E, a3.ext E, a4⟩
theorem own_J.wr (J : own_J Z h b en EC w sa) {sl : Nat} {v : Value} (W : Wr h h' g sl v) (hg : b ≤ g) : own_J Z h' b en EC w sa := by
  obtain ⟨a, d, e, f⟩ := J
  refine ⟨fun i q hq => ?_, d.wr W, e.other W (Or.inl (Nat.ne_of_lt (Nat.lt_of_lt_of_le f hg))), f⟩
  obtain ⟨a1, a2, a3, a4⟩ := a i q hq
  exact ⟨a1.wr W, a2.wr W, a3.other W (Or.inl (Nat.ne_of_lt (Nat.lt_of_lt_of_le a4 hg))), a4⟩
theorem own_J.I (J : own_J Z h b en EC w sa) (hg : b ≤ g) (V : Arv Z h u ku .char (16394 : Int32) (own_vs c) (.int (0 : Int32))) (hu : u ≠ g) : own_I Z h g u ku c en EC w sa := by
  obtain ⟨a, d, e, f⟩ := J
  refine ⟨fun i q hq => ?_, d, e, Nat.ne_of_lt (Nat.lt_of_lt_of_le f hg), V, hu⟩
  obtain ⟨a1, a2, a3, a4⟩ := a i q hq
  exact ⟨a1, a2, a3, Nat.ne_of_lt (Nat.lt_of_lt_of_le a4 hg)⟩
end OwnJ
theorem own_G.of {Z : State} {h : Heap} {g : Addr} {v0 v1 v2 v3 v4 v5 v6 v7 v8 v9 v10 v11 v12 v13 v14 v15 v16 v17 v18 v19 v20 v21 v22 : Value} (E : Exa Z h g "com/example/corridor/corridor/iso20022/MarkupScanner") (f0 : Fld Z h g "com/example/corridor/corridor/iso20022/MarkupScanner" "state" "Lcom/example/corridor/corridor/iso20022/MarkupScanner$State;" v0) (f1 : Fld Z h g "com/example/corridor/corridor/iso20022/MarkupScanner" "textBegins" "Z" v1) (f2 : Fld Z h g "com/example/corridor/corridor/iso20022/MarkupScanner" "pieceIndex" "I" v2) (f3 : Fld Z h g "com/example/corridor/corridor/iso20022/MarkupScanner" "pieceLine" "J" v3) (f4 : Fld Z h g "com/example/corridor/corridor/iso20022/MarkupScanner" "line" "J" v4) (f5 : Fld Z h g "com/example/corridor/corridor/iso20022/MarkupScanner" "units" "[C" v5) (f6 : Fld Z h g "com/example/corridor/corridor/iso20022/MarkupScanner" "from" "I" v6) (f7 : Fld Z h g "com/example/corridor/corridor/iso20022/MarkupScanner" "offset" "J" v7) (f8 : Fld Z h g "com/example/corridor/corridor/iso20022/MarkupScanner" "fromOffset" "J" v8) (f9 : Fld Z h g "com/example/corridor/corridor/iso20022/MarkupScanner" "encoding" "Lcom/example/corridor/corridor/iso20022/MarkupScanner$Encoding;" v9) (f10 : Fld Z h g "com/example/corridor/corridor/iso20022/MarkupScanner" "width" "I" v10) (f11 : Fld Z h g "com/example/corridor/corridor/iso20022/MarkupScanner" "cutReady" "Z" v11) (f12 : Fld Z h g "com/example/corridor/corridor/iso20022/MarkupScanner" "limited" "Z" v12) (f13 : Fld Z h g "com/example/corridor/corridor/iso20022/MarkupScanner" "opened" "I" v13) (f14 : Fld Z h g "com/example/corridor/corridor/iso20022/MarkupScanner" "marks" "I" v14) (f15 : Fld Z h g "com/example/corridor/corridor/iso20022/MarkupScanner" "cdataOffset" "J" v15) (f16 : Fld Z h g "com/example/corridor/corridor/iso20022/MarkupScanner" "previous" "C" v16) (f17 : Fld Z h g "com/example/corridor/corridor/iso20022/MarkupScanner" "pieceOffset" "J" v17) (f18 : Fld Z h g "com/example/corridor/corridor/iso20022/MarkupScanner" "nameIndex" "I" v18) (f19 : Fld Z h g "com/example/corridor/corridor/iso20022/MarkupScanner" "nameContinued" "I" v19) (f20 : Fld Z h g "com/example/corridor/corridor/iso20022/MarkupScanner" "quote" "C" v20) (f21 : Fld Z h g "com/example/corridor/corridor/iso20022/MarkupScanner" "inTarget" "Z" v21) (f22 : Fld Z h g "com/example/corridor/corridor/iso20022/MarkupScanner" "depth" "I" v22) : own_G Z h g [v0, v1, v2, v3, v4, v5, v6, v7, v8, v9, v10, v11, v12, v13, v14, v15, v16, v17, v18, v19, v20, v21, v22] := by
  refine ⟨E, fun i p hp => ?_⟩
  match i, hp with
  | 0, hp => cases hp; exact f0
  | 1, hp => cases hp; exact f1
  | 2, hp => cases hp; exact f2
  | 3, hp => cases hp; exact f3
  | 4, hp => cases hp; exact f4
  | 5, hp => cases hp; exact f5
  | 6, hp => cases hp; exact f6
  | 7, hp => cases hp; exact f7
  | 8, hp => cases hp; exact f8
  | 9, hp => cases hp; exact f9
  | 10, hp => cases hp; exact f10
  | 11, hp => cases hp; exact f11
  | 12, hp => cases hp; exact f12
  | 13, hp => cases hp; exact f13
  | 14, hp => cases hp; exact f14
  | 15, hp => cases hp; exact f15
  | 16, hp => cases hp; exact f16
  | 17, hp => cases hp; exact f17
  | 18, hp => cases hp; exact f18
  | 19, hp => cases hp; exact f19
  | 20, hp => cases hp; exact f20
  | 21, hp => cases hp; exact f21
  | 22, hp => cases hp; exact f22
  | (k + 23), hp => exact absurd hp (by simp [own_fs])
theorem own_w {a0 : Array Value} {Z : State} (hw : ∀ d ∈ tables_1, d.before a0 Z = true) (i : Nat) {d : Jvm.Cond} (h : tables_1[i]? = some d) : d.before a0 Z = true := hw d (List.mem_of_getElem? h)
theorem own_g {p : Program} {e : Env} {below : List Frame} {Φ : Outcome → State → Prop} {F : State} (G : State) (k : ∀ t, Steps p.tables e below G t → Steps p.tables e below F t) (h : own_Goes p e below Φ G) : own_Goes p e below Φ F := own_go k h
theorem own_Gf {Z : State} {h : Heap} {g : Addr} {vs : List Value} (G : own_G Z h g vs) (i : Nat) {f d : String} {v : Value} (hp : own_fs[i]? = some (f, d)) (hv : vs[i]? = some v) : Fld Z h g "com/example/corridor/corridor/iso20022/MarkupScanner" f d v := by
  have q := G.2 i _ hp
  rw [show vs.getD i .null = v by simp [List.getD, hv]] at q
  exact q
theorem own_ilt {i j : Int32} (h : i.toInt < j.toInt) : i < j := Int32.lt_iff_toInt_lt.mpr h
theorem own_nilt {i j : Int32} (h : j.toInt ≤ i.toInt) : ¬ (i < j) := fun q => by rw [Int32.lt_iff_toInt_lt] at q; omega
theorem own_inc {i : Int32} (h0 : 0 ≤ i.toInt) (h : i.toInt < 20000) : (i + (1 : Int32)).toInt = i.toInt + 1 := by
  have a := c_iadd i 1
  have r := rng32 (i + 1)
  rw [show (1 : Int32).toInt = 1 from rfl] at a
  omega
theorem own_sub {i j : Int32} (h0 : 0 ≤ i.toInt) (h : i.toInt < 20000) (g0 : 0 ≤ j.toInt) (g : j.toInt < 20000) : (i - j).toInt = i.toInt - j.toInt := by
  have a := c_isub i j
  have r := rng32 (i - j)
  omega
theorem own_add {i j : Int32} (h0 : 0 ≤ i.toInt) (h : i.toInt < 20000) (g0 : 0 ≤ j.toInt) (g : j.toInt < 20000) : (i + j).toInt = i.toInt + j.toInt := by
  have a := c_iadd i j
  have r := rng32 (i + j)
  omega
theorem own_mulw (x : Int32) {w : Int32} (hw : w.toInt = 1 ∨ w.toInt = 2) : (x.toInt64 * w.toInt64).toInt = x.toInt * w.toInt := by
  have e := c_lmul x.toInt64 w.toInt64
  rw [c_i2l, c_i2l] at e
  have r := rng64 (x.toInt64 * w.toInt64)
  have rx := rng32 x
  rcases hw with q | q
  · rw [q] at e ⊢; omega
  · rw [q] at e ⊢; omega
theorem own_offset {fo : Int64} {fr w i : Int32} (hw : w.toInt = 1 ∨ w.toInt = 2) (f0 : 0 ≤ fo.toInt) (f1 : fo.toInt ≤ 1000000) (h0 : 0 ≤ fr.toInt) (h1 : fr.toInt ≤ i.toInt) (h2 : i.toInt ≤ 16394) : (fo + (((i - fr).toInt64) * (w.toInt64))).toInt = fo.toInt + (i.toInt - fr.toInt) * w.toInt := by
  have a := own_mulw (i - fr) hw
  rw [own_sub (by omega) (by omega) h0 (by omega)] at a
  have b := c_ladd fo ((i - fr).toInt64 * w.toInt64)
  have r := rng64 (fo + ((i - fr).toInt64 * w.toInt64))
  rw [a] at b
  rcases hw with q | q
  · rw [q] at b ⊢; omega
  · rw [q] at b ⊢; omega
/-- the unit qi is the first one that lies 8192 bytes behind the last cut -/
def own_C (fo co : Int64) (fr w qi : Int32) : Prop := (w.toInt = 1 ∨ w.toInt = 2) ∧ 10 ≤ fr.toInt ∧ fr.toInt ≤ qi.toInt ∧ qi.toInt < 16394 ∧ 0 ≤ fo.toInt ∧ fo.toInt ≤ 1000000 ∧ 0 ≤ co.toInt ∧ co.toInt ≤ 1000000 ∧ co.toInt + 8192 = fo.toInt + (qi.toInt - fr.toInt) * w.toInt
theorem own_dif {fo co : Int64} {fr w qi i : Int32} (H : own_C fo co fr w qi) (h1 : fr.toInt ≤ i.toInt) (h2 : i.toInt ≤ 16394) : ((fo + (((i - fr).toInt64) * (w.toInt64))) - co).toInt = 8192 + (i.toInt - qi.toInt) * w.toInt := by
  obtain ⟨a1, a2, a3, a4, a5, a6, a7, a8, a9⟩ := H
  have a := own_offset (fo := fo) (fr := fr) (i := i) a1 a5 a6 (by omega) h1 h2
  have b := c_lsub (fo + (((i - fr).toInt64) * (w.toInt64))) co
  have r := rng64 ((fo + (((i - fr).toInt64) * (w.toInt64))) - co)
  rw [a] at b
  rcases a1 with q | q
  · rw [q] at b a9 ⊢; omega
  · rw [q] at b a9 ⊢; omega
theorem own_before {fo co : Int64} {fr w qi i : Int32} (H : own_C fo co fr w qi) (h1 : fr.toInt ≤ i.toInt) (h2 : i.toInt < qi.toInt) : lcmpW ((fo + (((i - fr).toInt64) * (w.toInt64))) - co) (8192 : Int64) < (0 : Int32) := by
  rw [lw_lt, Int64.lt_iff_toInt_lt, show (8192 : Int64).toInt = 8192 from rfl, own_dif H h1 (by have := H.2.2.2.1; omega)]
  rcases H.1 with q | q
  · rw [q]; omega
  · rw [q]; omega
theorem own_there {fo co : Int64} {fr w qi : Int32} (H : own_C fo co fr w qi) : ¬ (lcmpW ((fo + (((qi - fr).toInt64) * (w.toInt64))) - co) (8192 : Int64) < (0 : Int32)) := by
  rw [lw_lt, Int64.lt_iff_toInt_lt, show (8192 : Int64).toInt = 8192 from rfl, own_dif H H.2.2.1 (by have := H.2.2.2.1; omega)]
  rw [Int.sub_self, Int.zero_mul]
  omega
theorem own_lz (x : Int64) : lcmpW (x - x) (8192 : Int64) < (0 : Int32) := by
  rw [lw_lt, Int64.sub_self]; decide
theorem own_not13 {p : Prop} {v : Int32} (h : p) (a : p → v = 0) : ¬ (v = (13 : Int32)) := by rw [a h]; decide
def own_QG (Z : State) (r0 : Addr) (n0 : Nat) (h0 : Heap) (w : Option Value) (vs : List Value) (v : Option Value) (h : Heap) (L : List Loc) : Prop := v = w ∧ Fr n0 L ∧ Keep h0 h [r0] ∧ own_G Z h r0 vs
theorem d5_0 : decode jdk_37_method_2_code 0 = .ok (.aload_n 0, 1) := by decide +kernel
theorem d5_1 : decode jdk_37_method_2_code 1 = .ok (.getfield 7, 3) := by decide +kernel
theorem d5_4 : decode jdk_37_method_2_code 4 = .ok (.ireturn, 1) := by decide +kernel
theorem pn5 : plainName "java/lang/Enum" = true := by first | (simp [plainName, overriddenIn]; done) | decide +kernel
theorem ef_ord (m : MethodId) (r0 : Addr) : entryFrame m #[(.ref r0)] 1 = mkF m 0 #[.val (.ref r0)] [] := by first | (simp [entryFrame, mkF, argsToLocals, Value.category]; done) | rfl
def F_ord (r0 : Addr) (w_ordinal_r0 : Int32) : Int32 := w_ordinal_r0
set_option maxRecDepth 65536 in
set_option maxHeartbeats 40000000 in
theorem ord (l : Launch) (Z : State) (a0 : Array Value) (hw : ∀ d ∈ tables_1, d.before a0 Z = true) (ws : List Jvm.Cond) (r0 : Addr) (w_ordinal_r0 : Int32) (h0 : Heap) (n0 : Nat) (Z0 : n0 ≤ h0.size) (F_ordinal_r0 : Fld Z h0 r0 "java/lang/Enum" "ordinal" "I" (.int w_ordinal_r0)) :
    MetFree l (⟨"java/lang/Enum", "ordinal", "()I"⟩ : MethodName) (head1 (Jvm.Cond.code (⟨"java/lang/Enum", "ordinal", "()I"⟩ : MethodName) jdk_37_method_2_code 1 (some .int) :: ws) ({ frames := 0, cells := 0, slots := 0, locals := 0 } : Room)) (fun a U => a = #[(.ref r0)] ∧ Z.Warmed39 U.vm ∧ U.heap = h0) (fun _ _ _ _ _ => True) (fun _ U o U' => ∃ v L, o = .returned v ∧ (own_Same (.int (F_ord r0 w_ordinal_r0)) h0 n0) v U'.heap L ∧ FrameEnd U o U' L 0 0) := by
  refine MetFree.of_bodySF (plainFor_of_name pn5) hisR ?_
  intro p e s m args below meth c s₁ Bd hml0 hP hK
  obtain ⟨rfl, hZ, hh⟩ := hP
  have hx := Bd.exec
  have hby := Bd.bytes
  have hml : c.maxLocals = 1 := hml0
  have hown : s.vm.findClass "java/lang/Enum" = some m.cls := findClass_of_methodNamed Bd.named
  have hnm := (name_of_methodNamed Bd.named Bd.method).1
  have X0 : Stand p l e ({ frames := 0, cells := 0, slots := 0, locals := 0 } : Room) s m #[(.ref r0)] below meth c s₁ [] 0 0 := Stand.of_body Bd
  have e0 : s₁.heap = h0 := by rw [← hh, Bd.state]; rfl
  have N0 := Fr.nil n0
  show own_Goes p e below (own_End s (own_Same (.int (F_ord r0 w_ordinal_r0)) h0 n0) 0 0) _
  refine own_g (s₁.setTop (mkF m 0 #[.val (.ref r0)] [])) (fun t k => castTop (ef_ord m r0) k) ?_
  refine own_g (s₁.setTop (mkF m 1 #[.val (.ref r0)] [(.ref r0)])) (fun _ k => XS.aloadN X0.here hx rfl (hb hby d5_0) rfl rfl k) ?_
  obtain ⟨T3, X3, e3, st3⟩ := getF X0 hx hZ hown (host := "") (Or.inl (own_w hw 63 rfl)) Via.refl e0 F_ordinal_r0 (g := (mkF m 1 #[.val (.ref r0)] [(.ref r0)])) rfl rfl (hb hby d5_1)
  refine own_g (T3.setTop (mkF m 4 #[.val (.ref r0)] [(.int w_ordinal_r0)])) (st3) ?_
  exact own_retI X3 hx Bd.returns (hb hby d5_4) Bd.notSynchronized (by decide) (by decide) ⟨rfl, N0, e3⟩
theorem d21_0 : decode prog_34_method_9_code 0 = .ok (.iload_n 0, 1) := by decide +kernel
theorem d21_1 : decode prog_34_method_9_code 1 = .ok (.bipush 13, 2) := by decide +kernel
theorem d21_3 : decode prog_34_method_9_code 3 = .ok (.if_icmp .eq 15, 3) := by decide +kernel
theorem d21_6 : decode prog_34_method_9_code 6 = .ok (.iload_n 0, 1) := by decide +kernel
theorem d21_7 : decode prog_34_method_9_code 7 = .ok (.bipush 10, 2) := by decide +kernel
theorem d21_9 : decode prog_34_method_9_code 9 = .ok (.if_icmp .ne 13, 3) := by decide +kernel
theorem d21_12 : decode prog_34_method_9_code 12 = .ok (.iload_n 1, 1) := by decide +kernel
theorem d21_13 : decode prog_34_method_9_code 13 = .ok (.bipush 13, 2) := by decide +kernel
theorem d21_15 : decode prog_34_method_9_code 15 = .ok (.if_icmp .eq 7, 3) := by decide +kernel
theorem d21_18 : decode prog_34_method_9_code 18 = .ok (.iconst 1, 1) := by decide +kernel
theorem d21_19 : decode prog_34_method_9_code 19 = .ok (.goto 4, 3) := by decide +kernel
theorem d21_22 : decode prog_34_method_9_code 22 = .ok (.iconst 0, 1) := by decide +kernel
theorem d21_23 : decode prog_34_method_9_code 23 = .ok (.ireturn, 1) := by decide +kernel
theorem pn21 : plainName "com/example/corridor/corridor/iso20022/MarkupScanner" = true := by first | (simp [plainName, overriddenIn]; done) | decide +kernel
theorem ef_el (m : MethodId) (p0 : Int32) (p1 : Int32) : entryFrame m #[(.int p0), (.int p1)] 2 = mkF m 0 #[.val (.int p0), .val (.int p1)] [] := by first | (simp [entryFrame, mkF, argsToLocals, Value.category]; done) | rfl
def F_el (p0 : Int32) (p1 : Int32) : Int32 := (if p0 = (13 : Int32) then (1 : Int32) else (if p0 = (10 : Int32) then (if p1 = (13 : Int32) then (0 : Int32) else (1 : Int32)) else (0 : Int32)))
set_option maxRecDepth 65536 in
set_option maxHeartbeats 40000000 in
theorem el (l : Launch) (Z : State) (a0 : Array Value) (hw : ∀ d ∈ tables_1, d.before a0 Z = true) (ws : List Jvm.Cond) (p0 : Int32) (p1 : Int32) (h0 : Heap) (n0 : Nat) (Z0 : n0 ≤ h0.size) :
    MetFree l (⟨"com/example/corridor/corridor/iso20022/MarkupScanner", "endsLine", "(CC)Z"⟩ : MethodName) (head1 (Jvm.Cond.code (⟨"com/example/corridor/corridor/iso20022/MarkupScanner", "endsLine", "(CC)Z"⟩ : MethodName) prog_34_method_9_code 2 (some .boolean) :: ws) ({ frames := 0, cells := 0, slots := 0, locals := 0 } : Room)) (fun a U => a = #[(.int p0), (.int p1)] ∧ Z.Warmed39 U.vm ∧ U.heap = h0) (fun _ _ _ _ _ => True) (fun _ U o U' => ∃ v L, o = .returned v ∧ (own_Same (.int (F_el p0 p1)) h0 n0) v U'.heap L ∧ FrameEnd U o U' L 0 0) := by
  refine MetFree.of_bodySF (plainFor_of_name pn21) hisR ?_
  intro p e s m args below meth c s₁ Bd hml0 hP hK
  obtain ⟨rfl, hZ, hh⟩ := hP
  have hx := Bd.exec
  have hby := Bd.bytes
  have hml : c.maxLocals = 2 := hml0
  have hown : s.vm.findClass "com/example/corridor/corridor/iso20022/MarkupScanner" = some m.cls := findClass_of_methodNamed Bd.named
  have hnm := (name_of_methodNamed Bd.named Bd.method).1
  have X0 : Stand p l e ({ frames := 0, cells := 0, slots := 0, locals := 0 } : Room) s m #[(.int p0), (.int p1)] below meth c s₁ [] 0 0 := Stand.of_body Bd
  have e0 : s₁.heap = h0 := by rw [← hh, Bd.state]; rfl
  have N0 := Fr.nil n0
  show own_Goes p e below (own_End s (own_Same (.int (F_el p0 p1)) h0 n0) 0 0) _
  refine own_g (s₁.setTop (mkF m 0 #[.val (.int p0), .val (.int p1)] [])) (fun t k => castTop (ef_el m p0 p1) k) ?_
  refine own_g (s₁.setTop (mkF m 1 #[.val (.int p0), .val (.int p1)] [(.int p0)])) (fun _ k => XS.iloadN X0.here hx rfl (hb hby d21_0) rfl k) ?_
  refine own_g (s₁.setTop (mkF m 3 #[.val (.int p0), .val (.int p1)] [(.int 13), (.int p0)])) (fun _ k => XS.bipush X0.here hx rfl (hb hby d21_1) k) ?_
  show own_Goes p e below (own_End s (own_Same (.int (if p0 = (13 : Int32) then (1 : Int32) else (if p0 = (10 : Int32) then (if p1 = (13 : Int32) then (0 : Int32) else (1 : Int32)) else (0 : Int32)))) h0 n0) 0 0) _
  by_cases hc3 : p0 = (13 : Int32)
  · rw [if_pos hc3]
    refine own_g (s₁.setTop (mkF m 18 #[.val (.int p0), .val (.int p1)] [])) (fun _ k => XS.icmpYes X0.here hx rfl (pc0 := 3) (pc' := 18) rfl (hb hby d21_3) rfl (teq hc3).1 (by decide) (by decide) k) ?_
    refine own_g (s₁.setTop (mkF m 19 #[.val (.int p0), .val (.int p1)] [(.int 1)])) (fun _ k => XS.iconst X0.here hx rfl (hb hby d21_18) k) ?_
    refine own_g (s₁.setTop (mkF m 23 #[.val (.int p0), .val (.int p1)] [(.int 1)])) (fun _ k => XS.goto X0.here hx rfl (pc0 := 19) (pc' := 23) rfl (hb hby d21_19) (by decide) (by decide) k) ?_
    exact own_ret1 X0 hx Bd.returns (hb hby d21_23) Bd.notSynchronized (by decide) (by decide) ⟨rfl, N0, e0⟩
  · rw [if_neg hc3]
    refine own_g (s₁.setTop (mkF m 6 #[.val (.int p0), .val (.int p1)] [])) (fun _ k => XS.icmpNo X0.here hx rfl (hb hby d21_3) rfl (feq hc3).1 k) ?_
    refine own_g (s₁.setTop (mkF m 7 #[.val (.int p0), .val (.int p1)] [(.int p0)])) (fun _ k => XS.iloadN X0.here hx rfl (hb hby d21_6) rfl k) ?_
    refine own_g (s₁.setTop (mkF m 9 #[.val (.int p0), .val (.int p1)] [(.int 10), (.int p0)])) (fun _ k => XS.bipush X0.here hx rfl (hb hby d21_7) k) ?_
    show own_Goes p e below (own_End s (own_Same (.int (if p0 = (10 : Int32) then (if p1 = (13 : Int32) then (0 : Int32) else (1 : Int32)) else (0 : Int32))) h0 n0) 0 0) _
    by_cases hc9 : p0 = (10 : Int32)
    · rw [if_pos hc9]
      refine own_g (s₁.setTop (mkF m 12 #[.val (.int p0), .val (.int p1)] [])) (fun _ k => XS.icmpNo X0.here hx rfl (hb hby d21_9) rfl (teq hc9).2 k) ?_
      refine own_g (s₁.setTop (mkF m 13 #[.val (.int p0), .val (.int p1)] [(.int p1)])) (fun _ k => XS.iloadN X0.here hx rfl (hb hby d21_12) rfl k) ?_
      refine own_g (s₁.setTop (mkF m 15 #[.val (.int p0), .val (.int p1)] [(.int 13), (.int p1)])) (fun _ k => XS.bipush X0.here hx rfl (hb hby d21_13) k) ?_
      show own_Goes p e below (own_End s (own_Same (.int (if p1 = (13 : Int32) then (0 : Int32) else (1 : Int32))) h0 n0) 0 0) _
      by_cases hc15 : p1 = (13 : Int32)
      · rw [if_pos hc15]
        refine own_g (s₁.setTop (mkF m 22 #[.val (.int p0), .val (.int p1)] [])) (fun _ k => XS.icmpYes X0.here hx rfl (pc0 := 15) (pc' := 22) rfl (hb hby d21_15) rfl (teq hc15).1 (by decide) (by decide) k) ?_
        refine own_g (s₁.setTop (mkF m 23 #[.val (.int p0), .val (.int p1)] [(.int 0)])) (fun _ k => XS.iconst X0.here hx rfl (hb hby d21_22) k) ?_
        exact own_ret0 X0 hx Bd.returns (hb hby d21_23) Bd.notSynchronized (by decide) (by decide) ⟨rfl, N0, e0⟩
      · rw [if_neg hc15]
        refine own_g (s₁.setTop (mkF m 18 #[.val (.int p0), .val (.int p1)] [])) (fun _ k => XS.icmpNo X0.here hx rfl (hb hby d21_15) rfl (feq hc15).1 k) ?_
        refine own_g (s₁.setTop (mkF m 19 #[.val (.int p0), .val (.int p1)] [(.int 1)])) (fun _ k => XS.iconst X0.here hx rfl (hb hby d21_18) k) ?_
        refine own_g (s₁.setTop (mkF m 23 #[.val (.int p0), .val (.int p1)] [(.int 1)])) (fun _ k => XS.goto X0.here hx rfl (pc0 := 19) (pc' := 23) rfl (hb hby d21_19) (by decide) (by decide) k) ?_
        exact own_ret1 X0 hx Bd.returns (hb hby d21_23) Bd.notSynchronized (by decide) (by decide) ⟨rfl, N0, e0⟩
    · rw [if_neg hc9]
      refine own_g (s₁.setTop (mkF m 22 #[.val (.int p0), .val (.int p1)] [])) (fun _ k => XS.icmpYes X0.here hx rfl (pc0 := 9) (pc' := 22) rfl (hb hby d21_9) rfl (feq hc9).2 (by decide) (by decide) k) ?_
      refine own_g (s₁.setTop (mkF m 23 #[.val (.int p0), .val (.int p1)] [(.int 0)])) (fun _ k => XS.iconst X0.here hx rfl (hb hby d21_22) k) ?_
      exact own_ret0 X0 hx Bd.returns (hb hby d21_23) Bd.notSynchronized (by decide) (by decide) ⟨rfl, N0, e0⟩
theorem d17_0 : decode prog_34_method_7_code 0 = .ok (.aload_n 0, 1) := by decide +kernel
theorem d17_1 : decode prog_34_method_7_code 1 = .ok (.getfield 50, 3) := by decide +kernel
theorem d17_4 : decode prog_34_method_7_code 4 = .ok (.iload_n 1, 1) := by decide +kernel
theorem d17_5 : decode prog_34_method_7_code 5 = .ok (.aload_n 0, 1) := by decide +kernel
theorem d17_6 : decode prog_34_method_7_code 6 = .ok (.getfield 44, 3) := by decide +kernel
theorem d17_9 : decode prog_34_method_7_code 9 = .ok (.isub, 1) := by decide +kernel
theorem d17_10 : decode prog_34_method_7_code 10 = .ok (.i2l, 1) := by decide +kernel
theorem d17_11 : decode prog_34_method_7_code 11 = .ok (.aload_n 0, 1) := by decide +kernel
theorem d17_12 : decode prog_34_method_7_code 12 = .ok (.getfield 62, 3) := by decide +kernel
theorem d17_15 : decode prog_34_method_7_code 15 = .ok (.i2l, 1) := by decide +kernel
theorem d17_16 : decode prog_34_method_7_code 16 = .ok (.lmul, 1) := by decide +kernel
theorem d17_17 : decode prog_34_method_7_code 17 = .ok (.ladd, 1) := by decide +kernel
theorem d17_18 : decode prog_34_method_7_code 18 = .ok (.lreturn, 1) := by decide +kernel
theorem pn17 : plainName "com/example/corridor/corridor/iso20022/MarkupScanner" = true := by first | (simp [plainName, overriddenIn]; done) | decide +kernel
theorem ef_off (m : MethodId) (r0 : Addr) (p1 : Int32) : entryFrame m #[(.ref r0), (.int p1)] 2 = mkF m 0 #[.val (.ref r0), .val (.int p1)] [] := by first | (simp [entryFrame, mkF, argsToLocals, Value.category]; done) | rfl
set_option maxRecDepth 65536 in
set_option maxHeartbeats 40000000 in
theorem off (l : Launch) (Z : State) (a0 : Array Value) (hw : ∀ d ∈ tables_1, d.before a0 Z = true) (ws : List Jvm.Cond) (r0 : Addr) (p1 : Int32) (u : Addr) (ku : ClassId) (cu : Int32) (en : Addr) (EC : String) (w : Int32) (sa : Nat → Addr) (x0 : Value) (x1 : Value) (x2 : Value) (x3 : Value) (x4 : Value) (x5 : Value) (fr : Int32) (x7 : Value) (fo : Int64) (x9 : Value) (wd : Int32) (x11 : Value) (x12 : Value) (x13 : Value) (x14 : Value) (x15 : Value) (x16 : Value) (x17 : Value) (x18 : Value) (x19 : Value) (x20 : Value) (x21 : Value) (x22 : Value) (h0 : Heap) (n0 : Nat) (Z0 : n0 ≤ h0.size) (I : own_I Z h0 r0 u ku cu en EC w sa) (G : own_G Z h0 r0 [x0, x1, x2, x3, x4, x5, (.int fr), x7, (.long fo), x9, (.int wd), x11, x12, x13, x14, x15, x16, x17, x18, x19, x20, x21, x22]) (gn_r0 : n0 ≤ r0) :
    MetFree l (⟨"com/example/corridor/corridor/iso20022/MarkupScanner", "offsetAt", "(I)J"⟩ : MethodName) (head1 (Jvm.Cond.code (⟨"com/example/corridor/corridor/iso20022/MarkupScanner", "offsetAt", "(I)J"⟩ : MethodName) prog_34_method_7_code 2 (some .long) :: ws) ({ frames := 0, cells := 0, slots := 0, locals := 0 } : Room)) (fun a U => a = #[(.ref r0), (.int p1)] ∧ Z.Warmed39 U.vm ∧ U.heap = h0) (fun _ _ _ _ _ => True) (fun _ U o U' => ∃ v L, o = .returned v ∧ (own_Same (.long (fo + (((p1 - fr).toInt64) * (wd.toInt64)))) h0 n0) v U'.heap L ∧ FrameEnd U o U' L 0 0) := by
  refine MetFree.of_bodySF (plainFor_of_name pn17) hisR ?_
  intro p e s m args below meth c s₁ Bd hml0 hP hK
  obtain ⟨rfl, hZ, hh⟩ := hP
  have hx := Bd.exec
  have hby := Bd.bytes
  have hml : c.maxLocals = 2 := hml0
  have hown : s.vm.findClass "com/example/corridor/corridor/iso20022/MarkupScanner" = some m.cls := findClass_of_methodNamed Bd.named
  have hnm := (name_of_methodNamed Bd.named Bd.method).1
  have X0 : Stand p l e ({ frames := 0, cells := 0, slots := 0, locals := 0 } : Room) s m #[(.ref r0), (.int p1)] below meth c s₁ [] 0 0 := Stand.of_body Bd
  have e0 : s₁.heap = h0 := by rw [← hh, Bd.state]; rfl
  have N0 := Fr.nil n0
  have K0 : Keep h0 h0 [r0] := Keep.refl h0 [r0]
  show own_Goes p e below (own_End s (own_Same (.long (fo + (((p1 - fr).toInt64) * (wd.toInt64)))) h0 n0) 0 0) _
  refine own_g (s₁.setTop (mkF m 0 #[.val (.ref r0), .val (.int p1)] [])) (fun t k => castTop (ef_off m r0 p1) k) ?_
  refine own_g (s₁.setTop (mkF m 1 #[.val (.ref r0), .val (.int p1)] [(.ref r0)])) (fun _ k => XS.aloadN X0.here hx rfl (hb hby d17_0) rfl rfl k) ?_
  obtain ⟨T1, X1, e1, st1⟩ := getF X0 hx hZ hown (host := "") (Or.inl (own_w hw 38 rfl)) Via.refl e0 (own_Gf G 8 rfl rfl) (g := (mkF m 1 #[.val (.ref r0), .val (.int p1)] [(.ref r0)])) rfl rfl (hb hby d17_1)
  refine own_g (T1.setTop (mkF m 4 #[.val (.ref r0), .val (.int p1)] [(.long fo)])) (st1) ?_
  refine own_g (T1.setTop (mkF m 5 #[.val (.ref r0), .val (.int p1)] [(.int p1), (.long fo)])) (fun _ k => XS.iloadN X1.here hx rfl (hb hby d17_4) rfl k) ?_
  refine own_g (T1.setTop (mkF m 6 #[.val (.ref r0), .val (.int p1)] [(.ref r0), (.int p1), (.long fo)])) (fun _ k => XS.aloadN X1.here hx rfl (hb hby d17_5) rfl rfl k) ?_
  obtain ⟨T2, X2, e2, st2⟩ := getF X1 hx hZ hown (host := "") (Or.inl (own_w hw 34 rfl)) Via.refl e1 (own_Gf G 6 rfl rfl) (g := (mkF m 6 #[.val (.ref r0), .val (.int p1)] [(.ref r0), (.int p1), (.long fo)])) rfl rfl (hb hby d17_6)
  refine own_g (T2.setTop (mkF m 9 #[.val (.ref r0), .val (.int p1)] [(.int fr), (.int p1), (.long fo)])) (st2) ?_
  refine own_g (T2.setTop (mkF m 10 #[.val (.ref r0), .val (.int p1)] [(.int (p1 - fr)), (.long fo)])) (fun _ k => XS.isub X2.here hx rfl (hb hby d17_9) rfl k) ?_
  refine own_g (T2.setTop (mkF m 11 #[.val (.ref r0), .val (.int p1)] [(.long ((p1 - fr).toInt64)), (.long fo)])) (fun _ k => XS.i2l X2.here hx rfl (hb hby d17_10) rfl k) ?_
  refine own_g (T2.setTop (mkF m 12 #[.val (.ref r0), .val (.int p1)] [(.ref r0), (.long ((p1 - fr).toInt64)), (.long fo)])) (fun _ k => XS.aloadN X2.here hx rfl (hb hby d17_11) rfl rfl k) ?_
  obtain ⟨T3, X3, e3, st3⟩ := getF X2 hx hZ hown (host := "") (Or.inl (own_w hw 44 rfl)) Via.refl e2 (own_Gf G 10 rfl rfl) (g := (mkF m 12 #[.val (.ref r0), .val (.int p1)] [(.ref r0), (.long ((p1 - fr).toInt64)), (.long fo)])) rfl rfl (hb hby d17_12)
  refine own_g (T3.setTop (mkF m 15 #[.val (.ref r0), .val (.int p1)] [(.int wd), (.long ((p1 - fr).toInt64)), (.long fo)])) (st3) ?_
  refine own_g (T3.setTop (mkF m 16 #[.val (.ref r0), .val (.int p1)] [(.long (wd.toInt64)), (.long ((p1 - fr).toInt64)), (.long fo)])) (fun _ k => XS.i2l X3.here hx rfl (hb hby d17_15) rfl k) ?_
  refine own_g (T3.setTop (mkF m 17 #[.val (.ref r0), .val (.int p1)] [(.long (((p1 - fr).toInt64) * (wd.toInt64))), (.long fo)])) (fun _ k => XS.lmul X3.here hx rfl (hb hby d17_16) rfl k) ?_
  refine own_g (T3.setTop (mkF m 18 #[.val (.ref r0), .val (.int p1)] [(.long (fo + (((p1 - fr).toInt64) * (wd.toInt64))))])) (fun _ k => XS.ladd X3.here hx rfl (hb hby d17_17) rfl k) ?_
  exact own_retJ X3 hx Bd.returns (hb hby d17_18) Bd.notSynchronized (by decide) (by decide) ⟨rfl, N0, e3⟩
theorem d29_0 : decode jdk_89_method_15_code 0 = .ok (.iload_n 0, 1) := by decide +kernel
theorem d29_1 : decode jdk_89_method_15_code 1 = .ok (.ldc 76, 2) := by decide +kernel
theorem d29_3 : decode jdk_89_method_15_code 3 = .ok (.if_icmp .lt 13, 3) := by decide +kernel
theorem d29_16 : decode jdk_89_method_15_code 16 = .ok (.iconst 0, 1) := by decide +kernel
theorem d29_17 : decode jdk_89_method_15_code 17 = .ok (.ireturn, 1) := by decide +kernel
theorem pn29 : plainName "java/lang/Character" = true := by first | (simp [plainName, overriddenIn]; done) | decide +kernel
theorem ef_ls (m : MethodId)  : entryFrame m #[(.int 0)] 1 = mkF m 0 #[.val (.int 0)] [] := by first | (simp [entryFrame, mkF, argsToLocals, Value.category]; done) | rfl
set_option maxRecDepth 65536 in
set_option maxHeartbeats 40000000 in
theorem ls (l : Launch) (Z : State) (a0 : Array Value) (hw : ∀ d ∈ tables_1, d.before a0 Z = true) (ws : List Jvm.Cond) (h0 : Heap) (n0 : Nat) (Z0 : n0 ≤ h0.size) :
    MetFree l (⟨"java/lang/Character", "isLowSurrogate", "(C)Z"⟩ : MethodName) (head1 (Jvm.Cond.code (⟨"java/lang/Character", "isLowSurrogate", "(C)Z"⟩ : MethodName) jdk_89_method_15_code 1 (some .boolean) :: ws) ({ frames := 0, cells := 0, slots := 0, locals := 0 } : Room)) (fun a U => a = #[(.int 0)] ∧ Z.Warmed39 U.vm ∧ U.heap = h0) (fun _ _ _ _ _ => True) (fun _ U o U' => ∃ v L, o = .returned v ∧ (own_Same (.int 0) h0 n0) v U'.heap L ∧ FrameEnd U o U' L 0 0) := by
  refine MetFree.of_bodySF (plainFor_of_name pn29) hisR ?_
  intro p e s m args below meth c s₁ Bd hml0 hP hK
  obtain ⟨rfl, hZ, hh⟩ := hP
  have hx := Bd.exec
  have hby := Bd.bytes
  have hml : c.maxLocals = 1 := hml0
  have hown : s.vm.findClass "java/lang/Character" = some m.cls := findClass_of_methodNamed Bd.named
  have hnm := (name_of_methodNamed Bd.named Bd.method).1
  have X0 : Stand p l e ({ frames := 0, cells := 0, slots := 0, locals := 0 } : Room) s m #[(.int 0)] below meth c s₁ [] 0 0 := Stand.of_body Bd
  have e0 : s₁.heap = h0 := by rw [← hh, Bd.state]; rfl
  have N0 := Fr.nil n0
  show own_Goes p e below (own_End s (own_Same (.int 0) h0 n0) 0 0) _
  refine own_g (s₁.setTop (mkF m 0 #[.val (.int 0)] [])) (fun t k => castTop (ef_ls m ) k) ?_
  refine own_g (s₁.setTop (mkF m 1 #[.val (.int 0)] [(.int 0)])) (fun _ k => XS.iloadN X0.here hx rfl (hb hby d29_0) rfl k) ?_
  refine own_g (s₁.setTop (mkF m 3 #[.val (.int 0)] [(.int 56320), (.int 0)])) (X0.ldcInt hx hown (mvT hZ (own_w hw 207 rfl)) (g := (mkF m 1 #[.val (.int 0)] [(.int 0)])) rfl (hb hby d29_1)) ?_
  refine own_g (s₁.setTop (mkF m 16 #[.val (.int 0)] [])) (fun _ k => XS.icmpYes X0.here hx rfl (pc0 := 3) (pc' := 16) rfl (hb hby d29_3) rfl (tlt (by decide : (0 : Int32) < (56320 : Int32))).1 (by decide) (by decide) k) ?_
  refine own_g (s₁.setTop (mkF m 17 #[.val (.int 0)] [(.int 0)])) (fun _ k => XS.iconst X0.here hx rfl (hb hby d29_16) k) ?_
  exact own_ret0 X0 hx Bd.returns (hb hby d29_17) Bd.notSynchronized (by decide) (by decide) ⟨rfl, N0, e0⟩
theorem d22_0 : decode prog_35_method_4_code 0 = .ok (.iconst 1, 1) := by decide +kernel
theorem d22_1 : decode prog_35_method_4_code 1 = .ok (.ireturn, 1) := by decide +kernel
theorem pn22 : plainName "com/example/corridor/corridor/iso20022/MarkupScanner$Encoding" = true := by first | (simp [plainName, overriddenIn]; done) | decide +kernel
theorem ef_bg (m : MethodId) (r0 : Addr) : entryFrame m #[(.ref r0), (.int 0)] 2 = mkF m 0 #[.val (.ref r0), .val (.int 0)] [] := by first | (simp [entryFrame, mkF, argsToLocals, Value.category]; done) | rfl
set_option maxRecDepth 65536 in
set_option maxHeartbeats 40000000 in
theorem bg (l : Launch) (Z : State) (a0 : Array Value) (hw : ∀ d ∈ tables_1, d.before a0 Z = true) (ws : List Jvm.Cond) (r0 : Addr) (h0 : Heap) (n0 : Nat) (Z0 : n0 ≤ h0.size) :
    MetFree l (⟨"com/example/corridor/corridor/iso20022/MarkupScanner$Encoding", "begins", "(C)Z"⟩ : MethodName) (head1 (Jvm.Cond.code (⟨"com/example/corridor/corridor/iso20022/MarkupScanner$Encoding", "begins", "(C)Z"⟩ : MethodName) prog_35_method_4_code 2 (some .boolean) :: ws) ({ frames := 0, cells := 0, slots := 0, locals := 0 } : Room)) (fun a U => a = #[(.ref r0), (.int 0)] ∧ Z.Warmed39 U.vm ∧ U.heap = h0) (fun _ _ _ _ _ => True) (fun _ U o U' => ∃ v L, o = .returned v ∧ (own_Same (.int 1) h0 n0) v U'.heap L ∧ FrameEnd U o U' L 0 0) := by
  refine MetFree.of_bodySF (plainFor_of_name pn22) hisR ?_
  intro p e s m args below meth c s₁ Bd hml0 hP hK
  obtain ⟨rfl, hZ, hh⟩ := hP
  have hx := Bd.exec
  have hby := Bd.bytes
  have hml : c.maxLocals = 2 := hml0
  have hown : s.vm.findClass "com/example/corridor/corridor/iso20022/MarkupScanner$Encoding" = some m.cls := findClass_of_methodNamed Bd.named
  have hnm := (name_of_methodNamed Bd.named Bd.method).1
  have X0 : Stand p l e ({ frames := 0, cells := 0, slots := 0, locals := 0 } : Room) s m #[(.ref r0), (.int 0)] below meth c s₁ [] 0 0 := Stand.of_body Bd
  have e0 : s₁.heap = h0 := by rw [← hh, Bd.state]; rfl
  have N0 := Fr.nil n0
  show own_Goes p e below (own_End s (own_Same (.int 1) h0 n0) 0 0) _
  refine own_g (s₁.setTop (mkF m 0 #[.val (.ref r0), .val (.int 0)] [])) (fun t k => castTop (ef_bg m r0) k) ?_
  refine own_g (s₁.setTop (mkF m 1 #[.val (.ref r0), .val (.int 0)] [(.int 1)])) (fun _ k => XS.iconst X0.here hx rfl (hb hby d22_0) k) ?_
  exact own_ret1 X0 hx Bd.returns (hb hby d22_1) Bd.notSynchronized (by decide) (by decide) ⟨rfl, N0, e0⟩
theorem d27_0 : decode prog_36_method_2_code 0 = .ok (.iload_n 1, 1) := by decide +kernel
theorem d27_1 : decode prog_36_method_2_code 1 = .ok (.sipush 192, 3) := by decide +kernel
theorem d27_4 : decode prog_36_method_2_code 4 = .ok (.iand, 1) := by decide +kernel
theorem d27_5 : decode prog_36_method_2_code 5 = .ok (.sipush 128, 3) := by decide +kernel
theorem d27_8 : decode prog_36_method_2_code 8 = .ok (.if_icmp .eq 7, 3) := by decide +kernel
theorem d27_11 : decode prog_36_method_2_code 11 = .ok (.iconst 1, 1) := by decide +kernel
theorem d27_12 : decode prog_36_method_2_code 12 = .ok (.goto 4, 3) := by decide +kernel
theorem d27_16 : decode prog_36_method_2_code 16 = .ok (.ireturn, 1) := by decide +kernel
theorem pn27 : plainName "com/example/corridor/corridor/iso20022/MarkupScanner$Encoding$1" = true := by first | (simp [plainName, overriddenIn]; done) | decide +kernel
theorem ef_bg1 (m : MethodId) (r0 : Addr) : entryFrame m #[(.ref r0), (.int 0)] 2 = mkF m 0 #[.val (.ref r0), .val (.int 0)] [] := by first | (simp [entryFrame, mkF, argsToLocals, Value.category]; done) | rfl
set_option maxRecDepth 65536 in
set_option maxHeartbeats 40000000 in
theorem bg1 (l : Launch) (Z : State) (a0 : Array Value) (hw : ∀ d ∈ tables_1, d.before a0 Z = true) (ws : List Jvm.Cond) (r0 : Addr) (h0 : Heap) (n0 : Nat) (Z0 : n0 ≤ h0.size) :
    MetFree l (⟨"com/example/corridor/corridor/iso20022/MarkupScanner$Encoding$1", "begins", "(C)Z"⟩ : MethodName) (head1 (Jvm.Cond.code (⟨"com/example/corridor/corridor/iso20022/MarkupScanner$Encoding$1", "begins", "(C)Z"⟩ : MethodName) prog_36_method_2_code 2 (some .boolean) :: ws) ({ frames := 0, cells := 0, slots := 0, locals := 0 } : Room)) (fun a U => a = #[(.ref r0), (.int 0)] ∧ Z.Warmed39 U.vm ∧ U.heap = h0) (fun _ _ _ _ _ => True) (fun _ U o U' => ∃ v L, o = .returned v ∧ (own_Same (.int 1) h0 n0) v U'.heap L ∧ FrameEnd U o U' L 0 0) := by
  refine MetFree.of_bodySF (plainFor_of_name pn27) hisR ?_
  intro p e s m args below meth c s₁ Bd hml0 hP hK
  obtain ⟨rfl, hZ, hh⟩ := hP
  have hx := Bd.exec
  have hby := Bd.bytes
  have hml : c.maxLocals = 2 := hml0
  have hown : s.vm.findClass "com/example/corridor/corridor/iso20022/MarkupScanner$Encoding$1" = some m.cls := findClass_of_methodNamed Bd.named
  have hnm := (name_of_methodNamed Bd.named Bd.method).1
  have X0 : Stand p l e ({ frames := 0, cells := 0, slots := 0, locals := 0 } : Room) s m #[(.ref r0), (.int 0)] below meth c s₁ [] 0 0 := Stand.of_body Bd
  have e0 : s₁.heap = h0 := by rw [← hh, Bd.state]; rfl
  have N0 := Fr.nil n0
  show own_Goes p e below (own_End s (own_Same (.int 1) h0 n0) 0 0) _
  refine own_g (s₁.setTop (mkF m 0 #[.val (.ref r0), .val (.int 0)] [])) (fun t k => castTop (ef_bg1 m r0) k) ?_
  refine own_g (s₁.setTop (mkF m 1 #[.val (.ref r0), .val (.int 0)] [(.int 0)])) (fun _ k => XS.iloadN X0.here hx rfl (hb hby d27_0) rfl k) ?_
  refine own_g (s₁.setTop (mkF m 4 #[.val (.ref r0), .val (.int 0)] [(.int 192), (.int 0)])) (fun _ k => XS.sipush X0.here hx rfl (hb hby d27_1) k) ?_
  refine own_g (s₁.setTop (mkF m 5 #[.val (.ref r0), .val (.int 0)] [(.int ((0 : Int32) &&& (192 : Int32)))])) (fun _ k => XS.iand X0.here hx rfl (hb hby d27_4) rfl k) ?_
  rw [show ((0 : Int32) &&& (192 : Int32)) = (0 : Int32) from by decide]
  refine own_g (s₁.setTop (mkF m 8 #[.val (.ref r0), .val (.int 0)] [(.int 128), (.int 0)])) (fun _ k => XS.sipush X0.here hx rfl (hb hby d27_5) k) ?_
  refine own_g (s₁.setTop (mkF m 11 #[.val (.ref r0), .val (.int 0)] [])) (fun _ k => XS.icmpNo X0.here hx rfl (hb hby d27_8) rfl (feq (by decide : ¬ ((0 : Int32) = (128 : Int32)))).1 k) ?_
  refine own_g (s₁.setTop (mkF m 12 #[.val (.ref r0), .val (.int 0)] [(.int 1)])) (fun _ k => XS.iconst X0.here hx rfl (hb hby d27_11) k) ?_
  refine own_g (s₁.setTop (mkF m 16 #[.val (.ref r0), .val (.int 0)] [(.int 1)])) (fun _ k => XS.goto X0.here hx rfl (pc0 := 12) (pc' := 16) rfl (hb hby d27_12) (by decide) (by decide) k) ?_
  exact own_ret1 X0 hx Bd.returns (hb hby d27_16) Bd.notSynchronized (by decide) (by decide) ⟨rfl, N0, e0⟩
theorem d28_0 : decode prog_37_method_2_code 0 = .ok (.iload_n 1, 1) := by decide +kernel
theorem d28_1 : decode prog_37_method_2_code 1 = .ok (.invokestatic 7, 3) := by decide +kernel
theorem d28_4 : decode prog_37_method_2_code 4 = .ok (.ifCond .ne 7, 3) := by decide +kernel
theorem d28_7 : decode prog_37_method_2_code 7 = .ok (.iconst 1, 1) := by decide +kernel
theorem d28_8 : decode prog_37_method_2_code 8 = .ok (.goto 4, 3) := by decide +kernel
theorem d28_12 : decode prog_37_method_2_code 12 = .ok (.ireturn, 1) := by decide +kernel
theorem pn28 : plainName "com/example/corridor/corridor/iso20022/MarkupScanner$Encoding$2" = true := by first | (simp [plainName, overriddenIn]; done) | decide +kernel
theorem pd0 : parseMethodDescriptor "(C)Z" = some ⟨[.char], some .boolean⟩ := by decide +kernel
theorem ef_bg2 (m : MethodId) (r0 : Addr) : entryFrame m #[(.ref r0), (.int 0)] 2 = mkF m 0 #[.val (.ref r0), .val (.int 0)] [] := by first | (simp [entryFrame, mkF, argsToLocals, Value.category]; done) | rfl
set_option maxRecDepth 65536 in
set_option maxHeartbeats 40000000 in
theorem bg2 (l : Launch) (Z : State) (a0 : Array Value) (hw : ∀ d ∈ tables_1, d.before a0 Z = true) (ws : List Jvm.Cond) (r0 : Addr) (h0 : Heap) (n0 : Nat) (Z0 : n0 ≤ h0.size) :
    MetFree l (⟨"com/example/corridor/corridor/iso20022/MarkupScanner$Encoding$2", "begins", "(C)Z"⟩ : MethodName) (head1 (Jvm.Cond.code (⟨"com/example/corridor/corridor/iso20022/MarkupScanner$Encoding$2", "begins", "(C)Z"⟩ : MethodName) prog_37_method_2_code 2 (some .boolean) :: ws) ({ frames := 1, cells := 0, slots := 0, locals := 12 } : Room)) (fun a U => a = #[(.ref r0), (.int 0)] ∧ Z.Warmed39 U.vm ∧ U.heap = h0) (fun _ _ _ _ _ => True) (fun _ U o U' => ∃ v L, o = .returned v ∧ (own_Same (.int 1) h0 n0) v U'.heap L ∧ FrameEnd U o U' L 0 0) := by
  refine MetFree.of_bodySF (plainFor_of_name pn28) hisR ?_
  intro p e s m args below meth c s₁ Bd hml0 hP hK
  obtain ⟨rfl, hZ, hh⟩ := hP
  have hx := Bd.exec
  have hby := Bd.bytes
  have hml : c.maxLocals = 2 := hml0
  have hown : s.vm.findClass "com/example/corridor/corridor/iso20022/MarkupScanner$Encoding$2" = some m.cls := findClass_of_methodNamed Bd.named
  have hnm := (name_of_methodNamed Bd.named Bd.method).1
  have X0 : Stand p l e ({ frames := 1, cells := 0, slots := 0, locals := 12 } : Room) s m #[(.ref r0), (.int 0)] below meth c s₁ [] 0 0 := Stand.of_body Bd
  have e0 : s₁.heap = h0 := by rw [← hh, Bd.state]; rfl
  have N0 := Fr.nil n0
  show own_Goes p e below (own_End s (own_Same (.int 1) h0 n0) 0 0) _
  refine own_g (s₁.setTop (mkF m 0 #[.val (.ref r0), .val (.int 0)] [])) (fun t k => castTop (ef_bg2 m r0) k) ?_
  refine own_g (s₁.setTop (mkF m 1 #[.val (.ref r0), .val (.int 0)] [(.int 0)])) (fun _ k => XS.iloadN X0.here hx rfl (hb hby d28_0) rfl k) ?_
  obtain ⟨_, _, ⟨T1, L1, k1, n1⟩, -, X1, ⟨Lc1, hQ1, l1, y1, z1⟩, st1⟩ := Jvm.LawKit.callS X0 hx (y := (⟨"java/lang/Character", "isLowSurrogate", "(C)Z"⟩ : MethodName)) hown (mvT hZ (own_w hw 203 rfl)) (mvT hZ (own_w hw 204 rfl)) (mvT hZ (own_w hw 205 rfl)) (mvT hZ (own_w hw 206 rfl)) (by decide) (backOf (W := 0) (ls l Z a0 hw [] h0 n0 Z0) hZ (own_w hw 206 rfl) (own_w hw 205 rfl) (by decide) (by decide)) (g := (mkF m 1 #[.val (.ref r0), .val (.int 0)] [(.int 0)])) rfl (by rw [hml]; rfl) (argsL := [(.int 0)]) (rest := []) (lenOf pd0 rfl) rfl (by show 2 * 0 + _ ≤ _; exact Nat.le_of_eq rfl) (hb hby d28_1) (fun _ _ => ⟨rfl, e0, (by decide : 0 + 0 ≤ _), (by decide : 0 + 0 ≤ _)⟩)
  dsimp only [Pt.U, Pt.locs, Pt.cells, Pt.slots] at X1 l1 y1 z1 st1 hQ1
  subst l1 y1 z1
  obtain ⟨rfl, Nq1, e1⟩ := hQ1
  have N1 := Fr.app N0 Nq1
  refine own_g (T1.setTop (mkF m 4 #[.val (.ref r0), .val (.int 0)] [(.int 0)])) (st1) ?_
  refine own_g (T1.setTop (mkF m 7 #[.val (.ref r0), .val (.int 0)] [])) (fun _ k => XS.ifNo X1.here hx rfl (hb hby d28_4) rfl ((if0 _ _).trans (teq (by decide : (0 : Int32) = (0 : Int32))).2) k) ?_
  refine own_g (T1.setTop (mkF m 8 #[.val (.ref r0), .val (.int 0)] [(.int 1)])) (fun _ k => XS.iconst X1.here hx rfl (hb hby d28_7) k) ?_
  refine own_g (T1.setTop (mkF m 12 #[.val (.ref r0), .val (.int 0)] [(.int 1)])) (fun _ k => XS.goto X1.here hx rfl (pc0 := 8) (pc' := 12) rfl (hb hby d28_8) (by decide) (by decide) k) ?_
  exact own_ret1 X1 hx Bd.returns (hb hby d28_12) Bd.notSynchronized (by decide) (by decide) ⟨rfl, N1, e1⟩
theorem d4_0 : decode prog_34_method_21_code 0 = .ok (.aload_n 0, 1) := by decide +kernel
theorem d4_1 : decode prog_34_method_21_code 1 = .ok (.getfield 13, 3) := by decide +kernel
theorem d4_4 : decode prog_34_method_21_code 4 = .ok (.getstatic 165, 3) := by decide +kernel
theorem d4_7 : decode prog_34_method_21_code 7 = .ok (.if_acmp .ne 10, 3) := by decide +kernel
theorem d4_17 : decode prog_34_method_21_code 17 = .ok (.aload_n 0, 1) := by decide +kernel
theorem d4_18 : decode prog_34_method_21_code 18 = .ok (.getfield 13, 3) := by decide +kernel
theorem d4_21 : decode prog_34_method_21_code 21 = .ok (.getstatic 152, 3) := by decide +kernel
theorem d4_24 : decode prog_34_method_21_code 24 = .ok (.if_acmp .ne 14, 3) := by decide +kernel
theorem d4_38 : decode prog_34_method_21_code 38 = .ok (.iconst 0, 1) := by decide +kernel
theorem d4_39 : decode prog_34_method_21_code 39 = .ok (.ireturn, 1) := by decide +kernel
theorem pn4 : plainName "com/example/corridor/corridor/iso20022/MarkupScanner" = true := by first | (simp [plainName, overriddenIn]; done) | decide +kernel
theorem ef_inn (m : MethodId) (r0 : Addr) : entryFrame m #[(.ref r0)] 1 = mkF m 0 #[.val (.ref r0)] [] := by first | (simp [entryFrame, mkF, argsToLocals, Value.category]; done) | rfl
set_option maxRecDepth 65536 in
set_option maxHeartbeats 40000000 in
theorem inn (l : Launch) (Z : State) (a0 : Array Value) (hw : ∀ d ∈ tables_1, d.before a0 Z = true) (ws : List Jvm.Cond) (r0 : Addr) (u : Addr) (ku : ClassId) (cu : Int32) (en : Addr) (EC : String) (w : Int32) (sa : Nat → Addr) (ss : Addr) (x1 : Value) (x2 : Value) (x3 : Value) (x4 : Value) (x5 : Value) (x6 : Value) (x7 : Value) (x8 : Value) (x9 : Value) (x10 : Value) (x11 : Value) (x12 : Value) (x13 : Value) (x14 : Value) (x15 : Value) (x16 : Value) (x17 : Value) (x18 : Value) (x19 : Value) (x20 : Value) (x21 : Value) (x22 : Value) (h0 : Heap) (n0 : Nat) (Z0 : n0 ≤ h0.size) (I : own_I Z h0 r0 u ku cu en EC w sa) (G : own_G Z h0 r0 [(.ref ss), x1, x2, x3, x4, x5, x6, x7, x8, x9, x10, x11, x12, x13, x14, x15, x16, x17, x18, x19, x20, x21, x22]) (gn_r0 : n0 ≤ r0) (ne1 : ss ≠ sa 2) (ne2 : ss ≠ sa 7) :
    MetFree l (⟨"com/example/corridor/corridor/iso20022/MarkupScanner", "inName", "()Z"⟩ : MethodName) (head1 (Jvm.Cond.code (⟨"com/example/corridor/corridor/iso20022/MarkupScanner", "inName", "()Z"⟩ : MethodName) prog_34_method_21_code 1 (some .boolean) :: ws) ({ frames := 0, cells := 0, slots := 0, locals := 0 } : Room)) (fun a U => a = #[(.ref r0)] ∧ Z.Warmed39 U.vm ∧ U.heap = h0) (fun _ _ _ _ _ => True) (fun _ U o U' => ∃ v L, o = .returned v ∧ (own_Same (.int 0) h0 n0) v U'.heap L ∧ FrameEnd U o U' L 0 0) := by
  refine MetFree.of_bodySF (plainFor_of_name pn4) hisR ?_
  intro p e s m args below meth c s₁ Bd hml0 hP hK
  obtain ⟨rfl, hZ, hh⟩ := hP
  have hx := Bd.exec
  have hby := Bd.bytes
  have hml : c.maxLocals = 1 := hml0
  have hown : s.vm.findClass "com/example/corridor/corridor/iso20022/MarkupScanner" = some m.cls := findClass_of_methodNamed Bd.named
  have hnm := (name_of_methodNamed Bd.named Bd.method).1
  have X0 : Stand p l e ({ frames := 0, cells := 0, slots := 0, locals := 0 } : Room) s m #[(.ref r0)] below meth c s₁ [] 0 0 := Stand.of_body Bd
  have e0 : s₁.heap = h0 := by rw [← hh, Bd.state]; rfl
  have N0 := Fr.nil n0
  have K0 : Keep h0 h0 [r0] := Keep.refl h0 [r0]
  show own_Goes p e below (own_End s (own_Same (.int 0) h0 n0) 0 0) _
  refine own_g (s₁.setTop (mkF m 0 #[.val (.ref r0)] [])) (fun t k => castTop (ef_inn m r0) k) ?_
  refine own_g (s₁.setTop (mkF m 1 #[.val (.ref r0)] [(.ref r0)])) (fun _ k => XS.aloadN X0.here hx rfl (hb hby d4_0) rfl rfl k) ?_
  obtain ⟨T1, X1, e1, st1⟩ := getF X0 hx hZ hown (host := "") (Or.inl (own_w hw 17 rfl)) Via.refl e0 (own_Gf G 0 rfl rfl) (g := (mkF m 1 #[.val (.ref r0)] [(.ref r0)])) rfl rfl (hb hby d4_1)
  refine own_g (T1.setTop (mkF m 4 #[.val (.ref r0)] [(.ref ss)])) (st1) ?_
  obtain ⟨T2, X2, e2, st2⟩ := getS2 X1 hx hZ hown (host := "") (Or.inl (own_w hw 50 rfl)) Via.refl e1 (show Sta Z h0 "com/example/corridor/corridor/iso20022/MarkupScanner$State" "TAG" "Lcom/example/corridor/corridor/iso20022/MarkupScanner$State;" (.ref (sa 2)) from (I.1 2 _ rfl).1) (g := (mkF m 4 #[.val (.ref r0)] [(.ref ss)])) rfl (hb hby d4_4)
  refine own_g (T2.setTop (mkF m 7 #[.val (.ref r0)] [(.ref (sa 2)), (.ref ss)])) (st2) ?_
  refine own_g (T2.setTop (mkF m 17 #[.val (.ref r0)] [])) (fun _ k => Jvm.RoadKit.acmp (g := (mkF m 7 #[.val (.ref r0)] [(.ref (sa 2)), (.ref ss)])) X2 hx rfl rfl rfl (pc0 := 7) (pc' := 17) (same := false) rfl (hb hby d4_7) rfl (decide_eq_false fun q => ne1 (Value.ref.inj q)) (by decide) (by decide) k) ?_
  refine own_g (T2.setTop (mkF m 18 #[.val (.ref r0)] [(.ref r0)])) (fun _ k => XS.aloadN X2.here hx rfl (hb hby d4_17) rfl rfl k) ?_
  obtain ⟨T3, X3, e3, st3⟩ := getF X2 hx hZ hown (host := "") (Or.inl (own_w hw 17 rfl)) Via.refl e2 (own_Gf G 0 rfl rfl) (g := (mkF m 18 #[.val (.ref r0)] [(.ref r0)])) rfl rfl (hb hby d4_18)
  refine own_g (T3.setTop (mkF m 21 #[.val (.ref r0)] [(.ref ss)])) (st3) ?_
  obtain ⟨T4, X4, e4, st4⟩ := getS2 X3 hx hZ hown (host := "") (Or.inl (own_w hw 52 rfl)) Via.refl e3 (show Sta Z h0 "com/example/corridor/corridor/iso20022/MarkupScanner$State" "PROCESSING_INSTRUCTION" "Lcom/example/corridor/corridor/iso20022/MarkupScanner$State;" (.ref (sa 7)) from (I.1 5 _ rfl).1) (g := (mkF m 21 #[.val (.ref r0)] [(.ref ss)])) rfl (hb hby d4_21)
  refine own_g (T4.setTop (mkF m 24 #[.val (.ref r0)] [(.ref (sa 7)), (.ref ss)])) (st4) ?_
  refine own_g (T4.setTop (mkF m 38 #[.val (.ref r0)] [])) (fun _ k => Jvm.RoadKit.acmp (g := (mkF m 24 #[.val (.ref r0)] [(.ref (sa 7)), (.ref ss)])) X4 hx rfl rfl rfl (pc0 := 24) (pc' := 38) (same := false) rfl (hb hby d4_24) rfl (decide_eq_false fun q => ne2 (Value.ref.inj q)) (by decide) (by decide) k) ?_
  refine own_g (T4.setTop (mkF m 39 #[.val (.ref r0)] [(.int 0)])) (fun _ k => XS.iconst X4.here hx rfl (hb hby d4_38) k) ?_
  exact own_ret0 X4 hx Bd.returns (hb hby d4_39) Bd.notSynchronized (by decide) (by decide) ⟨rfl, N0, e4⟩
theorem d20_0 : decode prog_34_method_8_code 0 = .ok (.iload_n 1, 1) := by decide +kernel
theorem d20_1 : decode prog_34_method_8_code 1 = .ok (.aload_n 0, 1) := by decide +kernel
theorem d20_2 : decode prog_34_method_8_code 2 = .ok (.getfield 44, 3) := by decide +kernel
theorem d20_5 : decode prog_34_method_8_code 5 = .ok (.if_icmp .le 14, 3) := by decide +kernel
theorem d20_8 : decode prog_34_method_8_code 8 = .ok (.aload_n 0, 1) := by decide +kernel
theorem d20_9 : decode prog_34_method_8_code 9 = .ok (.getfield 40, 3) := by decide +kernel
theorem d20_12 : decode prog_34_method_8_code 12 = .ok (.iload_n 1, 1) := by decide +kernel
theorem d20_13 : decode prog_34_method_8_code 13 = .ok (.iconst 1, 1) := by decide +kernel
theorem d20_14 : decode prog_34_method_8_code 14 = .ok (.isub, 1) := by decide +kernel
theorem d20_15 : decode prog_34_method_8_code 15 = .ok (.caload, 1) := by decide +kernel
theorem d20_16 : decode prog_34_method_8_code 16 = .ok (.goto 7, 3) := by decide +kernel
theorem d20_23 : decode prog_34_method_8_code 23 = .ok (.ireturn, 1) := by decide +kernel
theorem pn20 : plainName "com/example/corridor/corridor/iso20022/MarkupScanner" = true := by first | (simp [plainName, overriddenIn]; done) | decide +kernel
theorem ef_pv9 (m : MethodId) (r0 : Addr) : entryFrame m #[(.ref r0), (.int 9)] 2 = mkF m 0 #[.val (.ref r0), .val (.int 9)] [] := by first | (simp [entryFrame, mkF, argsToLocals, Value.category]; done) | rfl
set_option maxRecDepth 65536 in
set_option maxHeartbeats 40000000 in
theorem pv9 (l : Launch) (Z : State) (a0 : Array Value) (hw : ∀ d ∈ tables_1, d.before a0 Z = true) (ws : List Jvm.Cond) (r0 : Addr) (u : Addr) (ku : ClassId) (cu : Int32) (en : Addr) (EC : String) (w : Int32) (sa : Nat → Addr) (x0 : Value) (x1 : Value) (x2 : Value) (x3 : Value) (x4 : Value) (x7 : Value) (x8 : Value) (x9 : Value) (x10 : Value) (x11 : Value) (x12 : Value) (x13 : Value) (x14 : Value) (x15 : Value) (x16 : Value) (x17 : Value) (x18 : Value) (x19 : Value) (x20 : Value) (x21 : Value) (x22 : Value) (h0 : Heap) (n0 : Nat) (Z0 : n0 ≤ h0.size) (I : own_I Z h0 r0 u ku cu en EC w sa) (G : own_G Z h0 r0 [x0, x1, x2, x3, x4, (.ref u), (.int 0), x7, x8, x9, x10, x11, x12, x13, x14, x15, x16, x17, x18, x19, x20, x21, x22]) (gn_r0 : n0 ≤ r0) :
    MetFree l (⟨"com/example/corridor/corridor/iso20022/MarkupScanner", "previousUnit", "(I)C"⟩ : MethodName) (head1 (Jvm.Cond.code (⟨"com/example/corridor/corridor/iso20022/MarkupScanner", "previousUnit", "(I)C"⟩ : MethodName) prog_34_method_8_code 2 (some .char) :: ws) ({ frames := 0, cells := 0, slots := 0, locals := 0 } : Room)) (fun a U => a = #[(.ref r0), (.int 9)] ∧ Z.Warmed39 U.vm ∧ U.heap = h0) (fun _ _ _ _ _ => True) (fun _ U o U' => ∃ v L, o = .returned v ∧ (own_Same (.int 91) h0 n0) v U'.heap L ∧ FrameEnd U o U' L 0 0) := by
  refine MetFree.of_bodySF (plainFor_of_name pn20) hisR ?_
  intro p e s m args below meth c s₁ Bd hml0 hP hK
  obtain ⟨rfl, hZ, hh⟩ := hP
  have hx := Bd.exec
  have hby := Bd.bytes
  have hml : c.maxLocals = 2 := hml0
  have hown : s.vm.findClass "com/example/corridor/corridor/iso20022/MarkupScanner" = some m.cls := findClass_of_methodNamed Bd.named
  have hnm := (name_of_methodNamed Bd.named Bd.method).1
  have X0 : Stand p l e ({ frames := 0, cells := 0, slots := 0, locals := 0 } : Room) s m #[(.ref r0), (.int 9)] below meth c s₁ [] 0 0 := Stand.of_body Bd
  have e0 : s₁.heap = h0 := by rw [← hh, Bd.state]; rfl
  have N0 := Fr.nil n0
  have K0 : Keep h0 h0 [r0] := Keep.refl h0 [r0]
  show own_Goes p e below (own_End s (own_Same (.int 91) h0 n0) 0 0) _
  refine own_g (s₁.setTop (mkF m 0 #[.val (.ref r0), .val (.int 9)] [])) (fun t k => castTop (ef_pv9 m r0) k) ?_
  refine own_g (s₁.setTop (mkF m 1 #[.val (.ref r0), .val (.int 9)] [(.int 9)])) (fun _ k => XS.iloadN X0.here hx rfl (hb hby d20_0) rfl k) ?_
  refine own_g (s₁.setTop (mkF m 2 #[.val (.ref r0), .val (.int 9)] [(.ref r0), (.int 9)])) (fun _ k => XS.aloadN X0.here hx rfl (hb hby d20_1) rfl rfl k) ?_
  obtain ⟨T1, X1, e1, st1⟩ := getF X0 hx hZ hown (host := "") (Or.inl (own_w hw 34 rfl)) Via.refl e0 (own_Gf G 6 rfl rfl) (g := (mkF m 2 #[.val (.ref r0), .val (.int 9)] [(.ref r0), (.int 9)])) rfl rfl (hb hby d20_2)
  refine own_g (T1.setTop (mkF m 5 #[.val (.ref r0), .val (.int 9)] [(.int 0), (.int 9)])) (st1) ?_
  refine own_g (T1.setTop (mkF m 8 #[.val (.ref r0), .val (.int 9)] [])) (fun _ k => XS.icmpNo X1.here hx rfl (hb hby d20_5) rfl (tlt (by decide : (0 : Int32) < (9 : Int32))).2.2.2 k) ?_
  refine own_g (T1.setTop (mkF m 9 #[.val (.ref r0), .val (.int 9)] [(.ref r0)])) (fun _ k => XS.aloadN X1.here hx rfl (hb hby d20_8) rfl rfl k) ?_
  obtain ⟨T2, X2, e2, st2⟩ := getF X1 hx hZ hown (host := "") (Or.inl (own_w hw 32 rfl)) Via.refl e1 (own_Gf G 5 rfl rfl) (g := (mkF m 9 #[.val (.ref r0), .val (.int 9)] [(.ref r0)])) rfl rfl (hb hby d20_9)
  refine own_g (T2.setTop (mkF m 12 #[.val (.ref r0), .val (.int 9)] [(.ref u)])) (st2) ?_
  refine own_g (T2.setTop (mkF m 13 #[.val (.ref r0), .val (.int 9)] [(.int 9), (.ref u)])) (fun _ k => XS.iloadN X2.here hx rfl (hb hby d20_12) rfl k) ?_
  refine own_g (T2.setTop (mkF m 14 #[.val (.ref r0), .val (.int 9)] [(.int 1), (.int 9), (.ref u)])) (fun _ k => XS.iconst X2.here hx rfl (hb hby d20_13) k) ?_
  refine own_g (T2.setTop (mkF m 15 #[.val (.ref r0), .val (.int 9)] [(.int ((9 : Int32) - (1 : Int32))), (.ref u)])) (fun _ k => XS.isub X2.here hx rfl (hb hby d20_14) rfl k) ?_
  rw [show ((9 : Int32) - (1 : Int32)) = (8 : Int32) from by decide]
  obtain ⟨cl3, Ar3, hin3, hat3⟩ := own_I.at I (8 : Int32) (by decide) (by decide)
  refine own_g (T2.setTop (mkF m 16 #[.val (.ref r0), .val (.int 9)] [(.int 91)])) (X2.caload hx (j := (8 : Int32)) (v := (.int 91)) (by rw [e2]; exact Ar3.1) (State.isArrayOf_alike hZ.alike Ar3.2.1) Ar3.2.2 hin3 hat3 (g := (mkF m 15 #[.val (.ref r0), .val (.int 9)] [(.int 8), (.ref u)])) rfl rfl (hb hby d20_15)) ?_
  refine own_g (T2.setTop (mkF m 23 #[.val (.ref r0), .val (.int 9)] [(.int 91)])) (fun _ k => XS.goto X2.here hx rfl (pc0 := 16) (pc' := 23) rfl (hb hby d20_16) (by decide) (by decide) k) ?_
  exact own_retN X2 hx Bd.returns (by simp) (hb hby d20_23) Bd.notSynchronized (by decide) (by decide) ⟨congrArg (fun z => some (Value.int z)) (by decide), N0, e2⟩
def own_QP (p : Prop) (pr : Int32) (h0 : Heap) (n0 : Nat) (v : Option Value) (h : Heap) (L : List Loc) : Prop := ∃ w : Int32, v = some (.int w) ∧ Fr n0 L ∧ h = h0 ∧ (p → w = 0) ∧ (¬ p → w = nar .char pr)
theorem own_m1 {i f : Int32} (b1 : 10 ≤ f.toInt) (b3 : i.toInt ≤ 16394) (h : f < i) : 10 ≤ (i - (1 : Int32)).toInt ∧ (i - (1 : Int32)).toInt < 16394 := by
  have a := c_isub i 1
  have r := rng32 (i - 1)
  rw [show (1 : Int32).toInt = 1 from rfl] at a
  rw [Int32.lt_iff_toInt_lt] at h
  omega
theorem d20_19 : decode prog_34_method_8_code 19 = .ok (.aload_n 0, 1) := by decide +kernel
theorem d20_20 : decode prog_34_method_8_code 20 = .ok (.getfield 88, 3) := by decide +kernel
theorem ef_pv (m : MethodId) (r0 : Addr) (p1 : Int32) : entryFrame m #[(.ref r0), (.int p1)] 2 = mkF m 0 #[.val (.ref r0), .val (.int p1)] [] := by first | (simp [entryFrame, mkF, argsToLocals, Value.category]; done) | rfl
set_option maxRecDepth 65536 in
set_option maxHeartbeats 40000000 in
theorem pv (l : Launch) (Z : State) (a0 : Array Value) (hw : ∀ d ∈ tables_1, d.before a0 Z = true) (ws : List Jvm.Cond) (r0 : Addr) (p1 : Int32) (u : Addr) (ku : ClassId) (cu : Int32) (en : Addr) (EC : String) (w : Int32) (sa : Nat → Addr) (x0 : Value) (x1 : Value) (x2 : Value) (x3 : Value) (x4 : Value) (fr : Int32) (x7 : Value) (x8 : Value) (x9 : Value) (x10 : Value) (x11 : Value) (x12 : Value) (x13 : Value) (x14 : Value) (x15 : Value) (pr : Int32) (x17 : Value) (x18 : Value) (x19 : Value) (x20 : Value) (x21 : Value) (x22 : Value) (h0 : Heap) (n0 : Nat) (Z0 : n0 ≤ h0.size) (I : own_I Z h0 r0 u ku cu en EC w sa) (G : own_G Z h0 r0 [x0, x1, x2, x3, x4, (.ref u), (.int fr), x7, x8, x9, x10, x11, x12, x13, x14, x15, (.int pr), x17, x18, x19, x20, x21, x22]) (gn_r0 : n0 ≤ r0) (b1 : 10 ≤ fr.toInt) (b3 : p1.toInt ≤ 16394) :
    MetFree l (⟨"com/example/corridor/corridor/iso20022/MarkupScanner", "previousUnit", "(I)C"⟩ : MethodName) (head1 (Jvm.Cond.code (⟨"com/example/corridor/corridor/iso20022/MarkupScanner", "previousUnit", "(I)C"⟩ : MethodName) prog_34_method_8_code 2 (some .char) :: ws) ({ frames := 0, cells := 0, slots := 0, locals := 0 } : Room)) (fun a U => a = #[(.ref r0), (.int p1)] ∧ Z.Warmed39 U.vm ∧ U.heap = h0) (fun _ _ _ _ _ => True) (fun _ U o U' => ∃ v L, o = .returned v ∧ (own_QP (fr < p1) pr h0 n0) v U'.heap L ∧ FrameEnd U o U' L 0 0) := by
  refine MetFree.of_bodySF (plainFor_of_name pn20) hisR ?_
  intro p e s m args below meth c s₁ Bd hml0 hP hK
  obtain ⟨rfl, hZ, hh⟩ := hP
  have hx := Bd.exec
  have hby := Bd.bytes
  have hml : c.maxLocals = 2 := hml0
  have hown : s.vm.findClass "com/example/corridor/corridor/iso20022/MarkupScanner" = some m.cls := findClass_of_methodNamed Bd.named
  have hnm := (name_of_methodNamed Bd.named Bd.method).1
  have X0 : Stand p l e ({ frames := 0, cells := 0, slots := 0, locals := 0 } : Room) s m #[(.ref r0), (.int p1)] below meth c s₁ [] 0 0 := Stand.of_body Bd
  have e0 : s₁.heap = h0 := by rw [← hh, Bd.state]; rfl
  have N0 := Fr.nil n0
  have K0 : Keep h0 h0 [r0] := Keep.refl h0 [r0]
  show own_Goes p e below (own_End s (own_QP (fr < p1) pr h0 n0) 0 0) _
  refine own_g (s₁.setTop (mkF m 0 #[.val (.ref r0), .val (.int p1)] [])) (fun t k => castTop (ef_pv m r0 p1) k) ?_
  refine own_g (s₁.setTop (mkF m 1 #[.val (.ref r0), .val (.int p1)] [(.int p1)])) (fun _ k => XS.iloadN X0.here hx rfl (hb hby d20_0) rfl k) ?_
  refine own_g (s₁.setTop (mkF m 2 #[.val (.ref r0), .val (.int p1)] [(.ref r0), (.int p1)])) (fun _ k => XS.aloadN X0.here hx rfl (hb hby d20_1) rfl rfl k) ?_
  obtain ⟨T1, X1, e1, st1⟩ := getF X0 hx hZ hown (host := "") (Or.inl (own_w hw 34 rfl)) Via.refl e0 (own_Gf G 6 rfl rfl) (g := (mkF m 2 #[.val (.ref r0), .val (.int p1)] [(.ref r0), (.int p1)])) rfl rfl (hb hby d20_2)
  refine own_g (T1.setTop (mkF m 5 #[.val (.ref r0), .val (.int p1)] [(.int fr), (.int p1)])) (st1) ?_
  by_cases hc5 : fr < p1
  · skip
    refine own_g (T1.setTop (mkF m 8 #[.val (.ref r0), .val (.int p1)] [])) (fun _ k => XS.icmpNo X1.here hx rfl (hb hby d20_5) rfl (tlt hc5).2.2.2 k) ?_
    refine own_g (T1.setTop (mkF m 9 #[.val (.ref r0), .val (.int p1)] [(.ref r0)])) (fun _ k => XS.aloadN X1.here hx rfl (hb hby d20_8) rfl rfl k) ?_
    obtain ⟨T2, X2, e2, st2⟩ := getF X1 hx hZ hown (host := "") (Or.inl (own_w hw 32 rfl)) Via.refl e1 (own_Gf G 5 rfl rfl) (g := (mkF m 9 #[.val (.ref r0), .val (.int p1)] [(.ref r0)])) rfl rfl (hb hby d20_9)
    refine own_g (T2.setTop (mkF m 12 #[.val (.ref r0), .val (.int p1)] [(.ref u)])) (st2) ?_
    refine own_g (T2.setTop (mkF m 13 #[.val (.ref r0), .val (.int p1)] [(.int p1), (.ref u)])) (fun _ k => XS.iloadN X2.here hx rfl (hb hby d20_12) rfl k) ?_
    refine own_g (T2.setTop (mkF m 14 #[.val (.ref r0), .val (.int p1)] [(.int 1), (.int p1), (.ref u)])) (fun _ k => XS.iconst X2.here hx rfl (hb hby d20_13) k) ?_
    refine own_g (T2.setTop (mkF m 15 #[.val (.ref r0), .val (.int p1)] [(.int (p1 - (1 : Int32))), (.ref u)])) (fun _ k => XS.isub X2.here hx rfl (hb hby d20_14) rfl k) ?_
    obtain ⟨cl3, Ar3, hin3, hat3⟩ := own_I.at0 I (p1 - (1 : Int32)) (own_m1 b1 b3 hc5).1 (own_m1 b1 b3 hc5).2
    refine own_g (T2.setTop (mkF m 16 #[.val (.ref r0), .val (.int p1)] [(.int 0)])) (X2.caload hx (j := (p1 - (1 : Int32))) (v := (.int 0)) (by rw [e2]; exact Ar3.1) (State.isArrayOf_alike hZ.alike Ar3.2.1) Ar3.2.2 hin3 hat3 (g := (mkF m 15 #[.val (.ref r0), .val (.int p1)] [(.int (p1 - (1 : Int32))), (.ref u)])) rfl rfl (hb hby d20_15)) ?_
    refine own_g (T2.setTop (mkF m 23 #[.val (.ref r0), .val (.int p1)] [(.int 0)])) (fun _ k => XS.goto X2.here hx rfl (pc0 := 16) (pc' := 23) rfl (hb hby d20_16) (by decide) (by decide) k) ?_
    exact own_retN X2 hx Bd.returns (by simp) (hb hby d20_23) Bd.notSynchronized (by decide) (by decide) ⟨_, rfl, N0, e2, fun _ => by decide, fun q => absurd hc5 q⟩
  · skip
    refine own_g (T1.setTop (mkF m 19 #[.val (.ref r0), .val (.int p1)] [])) (fun _ k => XS.icmpYes X1.here hx rfl (pc0 := 5) (pc' := 19) rfl (hb hby d20_5) rfl (flt hc5).2.2.2 (by decide) (by decide) k) ?_
    refine own_g (T1.setTop (mkF m 20 #[.val (.ref r0), .val (.int p1)] [(.ref r0)])) (fun _ k => XS.aloadN X1.here hx rfl (hb hby d20_19) rfl rfl k) ?_
    obtain ⟨T4, X4, e4, st4⟩ := getF X1 hx hZ hown (host := "") (Or.inl (own_w hw 160 rfl)) Via.refl e1 (own_Gf G 16 rfl rfl) (g := (mkF m 20 #[.val (.ref r0), .val (.int p1)] [(.ref r0)])) rfl rfl (hb hby d20_20)
    refine own_g (T4.setTop (mkF m 23 #[.val (.ref r0), .val (.int p1)] [(.int pr)])) (st4) ?_
    exact own_retN X4 hx Bd.returns (by simp) (hb hby d20_23) Bd.notSynchronized (by decide) (by decide) ⟨_, rfl, N0, e4, fun q => absurd q hc5, fun _ => rfl⟩
theorem own_selPriv {Z : State} {a0 : Array Value} {y w : MethodName} (h1 : (Cond.instanceMethod y).before a0 Z = true) (h2 : (Cond.privateMethod y).before a0 Z = true) (h3 : (Cond.selects y.cls w w).before a0 Z = true) (hw : w.cls = y.cls) (hy : y.cls ≠ "java/lang/invoke/MethodHandle" ∧ y.cls ≠ "java/lang/invoke/VarHandle") : (Cond.selects y.cls y y).before a0 Z = true := by
  obtain ⟨mk, methM, hnamed, hmethM, hstM, habM⟩ := Cond.instanceMethod_spec h1
  obtain ⟨c, r, m, q1, q2, q3, q4, kk, q5, q6⟩ := Cond.selects_spec h3
  have e1 := findClass_of_methodNamed hnamed
  have e2 := findClass_of_methodNamed q3
  rw [hw] at e2
  have e3 : m.cls = mk.cls := Option.some.inj (e2.symm.trans e1)
  have e4 := State.methodFound?_of_named hnamed hy
  have e5 : selectMethod {} Z.vm mk.cls mk = .method mk := selectMethod_private hmethM (Cond.privateMethod_at h2 mk methM hnamed hmethM)
  rw [e3] at q5
  simp [Cond.before, Cond.holds, Cond.value, e1, e4, hnamed, e5, q5, q6]
theorem own_el0 (x : Int32) : F_el (0 : Int32) x = (0 : Int32) := by simp [F_el]
theorem own_elg {c : Int32} (x : Int32) (h : (13 : Int32) < c) : F_el c x = (0 : Int32) := by
  rw [Int32.lt_iff_toInt_lt, show (13 : Int32).toInt = 13 from rfl] at h
  have h1 : ¬ c = (13 : Int32) := by intro q; subst q; exact absurd h (by decide)
  have h2 : ¬ c = (10 : Int32) := by intro q; subst q; exact absurd h (by decide)
  simp [F_el, h1, h2]
def own_lx (c : Int32) (ln : Int64) : Int64 := if F_el c (91 : Int32) = (0 : Int32) then ln else ln + (1 : Int64)
theorem own_lxA {c : Int32} {ln : Int64} (h : (13 : Int32) < c) : own_lx c ln = ln := if_pos (own_elg _ h)
theorem own_lxB {c : Int32} {ln : Int64} (h : F_el c (91 : Int32) = (0 : Int32)) : own_lx c ln = ln := if_pos h
theorem own_lxC {c : Int32} {ln : Int64} (h : ¬ F_el c (91 : Int32) = (0 : Int32)) : own_lx c ln = ln + (1 : Int64) := if_neg h
def own_mk (c : Int32) : Int32 := if c = (93 : Int32) then (1 : Int32) else (0 : Int32)
theorem own_mk1 {c : Int32} (h : c = (93 : Int32)) : own_mk c = (1 : Int32) := if_pos h
theorem own_mk0 {c : Int32} (h : ¬ c = (93 : Int32)) : own_mk c = (0 : Int32) := if_neg h
theorem d9_0 : decode prog_34_method_10_code 0 = .ok (.iload_n 1, 1) := by decide +kernel
theorem d9_1 : decode prog_34_method_10_code 1 = .ok (.bipush 13, 2) := by decide +kernel
theorem d9_3 : decode prog_34_method_10_code 3 = .ok (.if_icmp .gt 25, 3) := by decide +kernel
theorem d9_28 : decode prog_34_method_10_code 28 = .ok (.return_, 1) := by decide +kernel
theorem pn9 : plainName "com/example/corridor/corridor/iso20022/MarkupScanner" = true := by first | (simp [plainName, overriddenIn]; done) | decide +kernel
theorem ef_leg (m : MethodId) (r0 : Addr) (p1 : Int32) (p2 : Int32) : entryFrame m #[(.ref r0), (.int p1), (.int p2)] 3 = mkF m 0 #[.val (.ref r0), .val (.int p1), .val (.int p2)] [] := by first | (simp [entryFrame, mkF, argsToLocals, Value.category]; done) | rfl
set_option maxRecDepth 65536 in
set_option maxHeartbeats 40000000 in
theorem leg (l : Launch) (Z : State) (a0 : Array Value) (hw : ∀ d ∈ tables_1, d.before a0 Z = true) (ws : List Jvm.Cond) (r0 : Addr) (p1 : Int32) (p2 : Int32) (u : Addr) (ku : ClassId) (cu : Int32) (en : Addr) (EC : String) (w : Int32) (sa : Nat → Addr) (x0 : Value) (x1 : Value) (x2 : Value) (x3 : Value) (x4 : Value) (x5 : Value) (x6 : Value) (x7 : Value) (x8 : Value) (x9 : Value) (x10 : Value) (x11 : Value) (x12 : Value) (x13 : Value) (x14 : Value) (x15 : Value) (x16 : Value) (x17 : Value) (x18 : Value) (x19 : Value) (x20 : Value) (x21 : Value) (x22 : Value) (h0 : Heap) (n0 : Nat) (Z0 : n0 ≤ h0.size) (I : own_I Z h0 r0 u ku cu en EC w sa) (G : own_G Z h0 r0 [x0, x1, x2, x3, x4, x5, x6, x7, x8, x9, x10, x11, x12, x13, x14, x15, x16, x17, x18, x19, x20, x21, x22]) (gn_r0 : n0 ≤ r0) (hgt : (13 : Int32) < p1) :
    MetFree l (⟨"com/example/corridor/corridor/iso20022/MarkupScanner", "lineEnd", "(CI)V"⟩ : MethodName) (head1 (Jvm.Cond.code (⟨"com/example/corridor/corridor/iso20022/MarkupScanner", "lineEnd", "(CI)V"⟩ : MethodName) prog_34_method_10_code 3 none :: ws) ({ frames := 0, cells := 0, slots := 0, locals := 0 } : Room)) (fun a U => a = #[(.ref r0), (.int p1), (.int p2)] ∧ Z.Warmed39 U.vm ∧ U.heap = h0) (fun _ _ _ _ _ => True) (fun _ U o U' => ∃ v L, o = .returned v ∧ (own_SameV h0 n0) v U'.heap L ∧ FrameEnd U o U' L 0 0) := by
  refine MetFree.of_bodySF (plainFor_of_name pn9) hisR ?_
  intro p e s m args below meth c s₁ Bd hml0 hP hK
  obtain ⟨rfl, hZ, hh⟩ := hP
  have hx := Bd.exec
  have hby := Bd.bytes
  have hml : c.maxLocals = 3 := hml0
  have hown : s.vm.findClass "com/example/corridor/corridor/iso20022/MarkupScanner" = some m.cls := findClass_of_methodNamed Bd.named
  have hnm := (name_of_methodNamed Bd.named Bd.method).1
  have X0 : Stand p l e ({ frames := 0, cells := 0, slots := 0, locals := 0 } : Room) s m #[(.ref r0), (.int p1), (.int p2)] below meth c s₁ [] 0 0 := Stand.of_body Bd
  have e0 : s₁.heap = h0 := by rw [← hh, Bd.state]; rfl
  have N0 := Fr.nil n0
  have K0 : Keep h0 h0 [r0] := Keep.refl h0 [r0]
  show own_Goes p e below (own_End s (own_SameV h0 n0) 0 0) _
  refine own_g (s₁.setTop (mkF m 0 #[.val (.ref r0), .val (.int p1), .val (.int p2)] [])) (fun t k => castTop (ef_leg m r0 p1 p2) k) ?_
  refine own_g (s₁.setTop (mkF m 1 #[.val (.ref r0), .val (.int p1), .val (.int p2)] [(.int p1)])) (fun _ k => XS.iloadN X0.here hx rfl (hb hby d9_0) rfl k) ?_
  refine own_g (s₁.setTop (mkF m 3 #[.val (.ref r0), .val (.int p1), .val (.int p2)] [(.int 13), (.int p1)])) (fun _ k => XS.bipush X0.here hx rfl (hb hby d9_1) k) ?_
  refine own_g (s₁.setTop (mkF m 28 #[.val (.ref r0), .val (.int p1), .val (.int p2)] [])) (fun _ k => XS.icmpYes X0.here hx rfl (pc0 := 3) (pc' := 28) rfl (hb hby d9_3) rfl (tlt (hgt : (13 : Int32) < p1)).2.2.1 (by decide) (by decide) k) ?_
  exact own_retV X0 hx Bd.returns (hb hby d9_28) Bd.notSynchronized (by decide) (by decide) ⟨rfl, N0, e0⟩
theorem d9_6 : decode prog_34_method_10_code 6 = .ok (.iload_n 1, 1) := by decide +kernel
theorem d9_7 : decode prog_34_method_10_code 7 = .ok (.aload_n 0, 1) := by decide +kernel
theorem d9_8 : decode prog_34_method_10_code 8 = .ok (.iload_n 2, 1) := by decide +kernel
theorem d9_9 : decode prog_34_method_10_code 9 = .ok (.invokevirtual 117, 3) := by decide +kernel
theorem d9_12 : decode prog_34_method_10_code 12 = .ok (.invokestatic 121, 3) := by decide +kernel
theorem d9_15 : decode prog_34_method_10_code 15 = .ok (.ifCond .eq 13, 3) := by decide +kernel
theorem pd1 : parseMethodDescriptor "(I)C" = some ⟨[.int], some .char⟩ := by decide +kernel
theorem pd2 : parseMethodDescriptor "(CC)Z" = some ⟨[.char, .char], some .boolean⟩ := by decide +kernel
theorem ef_le0 (m : MethodId) (r0 : Addr) (p2 : Int32) : entryFrame m #[(.ref r0), (.int 0), (.int p2)] 3 = mkF m 0 #[.val (.ref r0), .val (.int 0), .val (.int p2)] [] := by first | (simp [entryFrame, mkF, argsToLocals, Value.category]; done) | rfl
set_option maxRecDepth 65536 in
set_option maxHeartbeats 40000000 in
theorem le0 (l : Launch) (Z : State) (a0 : Array Value) (hw : ∀ d ∈ tables_1, d.before a0 Z = true) (ws : List Jvm.Cond) (r0 : Addr) (p2 : Int32) (u : Addr) (ku : ClassId) (cu : Int32) (en : Addr) (EC : String) (w : Int32) (sa : Nat → Addr) (x0 : Value) (x1 : Value) (x2 : Value) (x3 : Value) (x4 : Value) (fr : Int32) (x7 : Value) (x8 : Value) (x9 : Value) (x10 : Value) (x11 : Value) (x12 : Value) (x13 : Value) (x14 : Value) (x15 : Value) (pr : Int32) (x17 : Value) (x18 : Value) (x19 : Value) (x20 : Value) (x21 : Value) (x22 : Value) (h0 : Heap) (n0 : Nat) (Z0 : n0 ≤ h0.size) (I : own_I Z h0 r0 u ku cu en EC w sa) (G : own_G Z h0 r0 [x0, x1, x2, x3, x4, (.ref u), (.int fr), x7, x8, x9, x10, x11, x12, x13, x14, x15, (.int pr), x17, x18, x19, x20, x21, x22]) (gn_r0 : n0 ≤ r0) (b1 : 10 ≤ fr.toInt) (b3 : p2.toInt ≤ 16394) :
    MetFree l (⟨"com/example/corridor/corridor/iso20022/MarkupScanner", "lineEnd", "(CI)V"⟩ : MethodName) (head1 (Jvm.Cond.code (⟨"com/example/corridor/corridor/iso20022/MarkupScanner", "lineEnd", "(CI)V"⟩ : MethodName) prog_34_method_10_code 3 none :: ws) ({ frames := 1, cells := 0, slots := 0, locals := 14 } : Room)) (fun a U => a = #[(.ref r0), (.int 0), (.int p2)] ∧ Z.Warmed39 U.vm ∧ U.heap = h0) (fun _ _ _ _ _ => True) (fun _ U o U' => ∃ v L, o = .returned v ∧ (own_SameV h0 n0) v U'.heap L ∧ FrameEnd U o U' L 0 0) := by
  refine MetFree.of_bodySF (plainFor_of_name pn9) hisR ?_
  intro p e s m args below meth c s₁ Bd hml0 hP hK
  obtain ⟨rfl, hZ, hh⟩ := hP
  have hx := Bd.exec
  have hby := Bd.bytes
  have hml : c.maxLocals = 3 := hml0
  have hown : s.vm.findClass "com/example/corridor/corridor/iso20022/MarkupScanner" = some m.cls := findClass_of_methodNamed Bd.named
  have hnm := (name_of_methodNamed Bd.named Bd.method).1
  have X0 : Stand p l e ({ frames := 1, cells := 0, slots := 0, locals := 14 } : Room) s m #[(.ref r0), (.int 0), (.int p2)] below meth c s₁ [] 0 0 := Stand.of_body Bd
  have e0 : s₁.heap = h0 := by rw [← hh, Bd.state]; rfl
  have N0 := Fr.nil n0
  have K0 : Keep h0 h0 [r0] := Keep.refl h0 [r0]
  show own_Goes p e below (own_End s (own_SameV h0 n0) 0 0) _
  refine own_g (s₁.setTop (mkF m 0 #[.val (.ref r0), .val (.int 0), .val (.int p2)] [])) (fun t k => castTop (ef_le0 m r0 p2) k) ?_
  refine own_g (s₁.setTop (mkF m 1 #[.val (.ref r0), .val (.int 0), .val (.int p2)] [(.int 0)])) (fun _ k => XS.iloadN X0.here hx rfl (hb hby d9_0) rfl k) ?_
  refine own_g (s₁.setTop (mkF m 3 #[.val (.ref r0), .val (.int 0), .val (.int p2)] [(.int 13), (.int 0)])) (fun _ k => XS.bipush X0.here hx rfl (hb hby d9_1) k) ?_
  refine own_g (s₁.setTop (mkF m 6 #[.val (.ref r0), .val (.int 0), .val (.int p2)] [])) (fun _ k => XS.icmpNo X0.here hx rfl (hb hby d9_3) rfl (flt (by decide : ¬ ((13 : Int32) < (0 : Int32)))).2.2.1 k) ?_
  refine own_g (s₁.setTop (mkF m 7 #[.val (.ref r0), .val (.int 0), .val (.int p2)] [(.int 0)])) (fun _ k => XS.iloadN X0.here hx rfl (hb hby d9_6) rfl k) ?_
  refine own_g (s₁.setTop (mkF m 8 #[.val (.ref r0), .val (.int 0), .val (.int p2)] [(.ref r0), (.int 0)])) (fun _ k => XS.aloadN X0.here hx rfl (hb hby d9_7) rfl rfl k) ?_
  refine own_g (s₁.setTop (mkF m 9 #[.val (.ref r0), .val (.int 0), .val (.int p2)] [(.int p2), (.ref r0), (.int 0)])) (fun _ k => XS.iloadN X0.here hx rfl (hb hby d9_8) rfl k) ?_
  obtain ⟨cq1, qk1, qk1'⟩ := G.1.cell
  obtain ⟨_, _, ⟨T1, L1, k1, n1⟩, -, X1, ⟨Lc1, hQ1, l1, y1, z1⟩, st1⟩ := X0.privateBack hx (y := (⟨"com/example/corridor/corridor/iso20022/MarkupScanner", "previousUnit", "(I)C"⟩ : MethodName)) hown (mvT hZ (own_w hw 153 rfl)) (mvT hZ (own_w hw 154 rfl)) (mvT hZ (own_selPriv (own_w hw 154 rfl) (own_w hw 155 rfl) (own_w hw 30 rfl) rfl (by decide))) (Cond.privateMethod_at (mvP hZ (own_w hw 155 rfl) (args := #[]))) (mvT hZ (own_w hw 156 rfl)) (by decide) (backOf (W := 1) (pv l Z a0 hw [] r0 p2 u ku cu en EC w sa x0 x1 x2 x3 x4 fr x7 x8 x9 x10 x11 x12 x13 x14 x15 pr x17 x18 x19 x20 x21 x22 h0 n0 Z0 I G gn_r0 b1 b3) hZ (own_w hw 156 rfl) (own_w hw 7 rfl) (by decide) (by decide)) (g := (mkF m 9 #[.val (.ref r0), .val (.int 0), .val (.int p2)] [(.int p2), (.ref r0), (.int 0)])) rfl (by rw [hml]; rfl) (Steps.refl _) (a := r0) (by rw [e0]; exact qk1) qk1' (argsL := [(.int p2)]) (rest := [(.int 0)]) (lenOf pd1 rfl) rfl (by show 2 * 0 + _ ≤ _; exact Nat.le_of_eq rfl) (hb hby d9_9) (fun _ _ => ⟨rfl, e0, (by decide : 0 + 0 ≤ _), (by decide : 0 + 0 ≤ _)⟩)
  dsimp only [Pt.U, Pt.locs, Pt.cells, Pt.slots] at X1 l1 y1 z1 st1 hQ1
  subst l1 y1 z1
  obtain ⟨pv1, rfl, Nq1, e1, pa1, pb1⟩ := hQ1
  have N1 := Fr.app N0 Nq1
  refine own_g (T1.setTop (mkF m 12 #[.val (.ref r0), .val (.int 0), .val (.int p2)] [(.int pv1), (.int 0)])) (fun _ k => st1.trans k) ?_
  obtain ⟨_, _, ⟨T2, L2, k2, n2⟩, -, X2, ⟨Lc2, hQ2, l2, y2, z2⟩, st2⟩ := Jvm.LawKit.callS X1 hx (y := (⟨"com/example/corridor/corridor/iso20022/MarkupScanner", "endsLine", "(CC)Z"⟩ : MethodName)) hown (mvT hZ (own_w hw 157 rfl)) (mvT hZ (own_w hw 158 rfl)) (mvT hZ (own_w hw 7 rfl)) (mvT hZ (own_w hw 159 rfl)) (by decide) (backOf (W := 0) (el l Z a0 hw [] (0 : Int32) pv1 h0 n0 Z0) hZ (own_w hw 159 rfl) (own_w hw 7 rfl) (by decide) (by decide)) (g := (mkF m 12 #[.val (.ref r0), .val (.int 0), .val (.int p2)] [(.int pv1), (.int 0)])) rfl (by rw [hml]; rfl) (argsL := [(.int 0), (.int pv1)]) (rest := []) (lenOf pd2 rfl) rfl (by show 2 * 0 + _ ≤ _; exact Nat.le_of_eq rfl) (hb hby d9_12) (fun _ _ => ⟨rfl, e1, (by decide : 0 + 0 ≤ _), (by decide : 0 + 0 ≤ _)⟩)
  dsimp only [Pt.U, Pt.locs, Pt.cells, Pt.slots] at X2 l2 y2 z2 st2 hQ2
  subst l2 y2 z2
  obtain ⟨rfl, Nq2, e2⟩ := hQ2
  have N2 := Fr.app N1 Nq2
  refine own_g (T2.setTop (mkF m 15 #[.val (.ref r0), .val (.int 0), .val (.int p2)] [(.int (F_el (0 : Int32) pv1))])) (st2) ?_
  refine own_g (T2.setTop (mkF m 28 #[.val (.ref r0), .val (.int 0), .val (.int p2)] [])) (fun _ k => XS.ifYes X2.here hx rfl (pc0 := 15) (pc' := 28) rfl (hb hby d9_15) rfl ((if0 _ _).trans (teq (own_el0 _ : (F_el (0 : Int32) pv1) = (0 : Int32))).1) (by decide) (by decide) k) ?_
  exact own_retV X2 hx Bd.returns (hb hby d9_28) Bd.notSynchronized (by decide) (by decide) ⟨rfl, N2, e2⟩
theorem d9_18 : decode prog_34_method_10_code 18 = .ok (.aload_n 0, 1) := by decide +kernel
theorem d9_19 : decode prog_34_method_10_code 19 = .ok (.dup, 1) := by decide +kernel
theorem d9_20 : decode prog_34_method_10_code 20 = .ok (.getfield 30, 3) := by decide +kernel
theorem d9_23 : decode prog_34_method_10_code 23 = .ok (.lconst 1, 1) := by decide +kernel
theorem d9_24 : decode prog_34_method_10_code 24 = .ok (.ladd, 1) := by decide +kernel
theorem d9_25 : decode prog_34_method_10_code 25 = .ok (.putfield 30, 3) := by decide +kernel
theorem ef_le9 (m : MethodId) (r0 : Addr) (cu : Int32) : entryFrame m #[(.ref r0), (.int cu), (.int 9)] 3 = mkF m 0 #[.val (.ref r0), .val (.int cu), .val (.int 9)] [] := by first | (simp [entryFrame, mkF, argsToLocals, Value.category]; done) | rfl
set_option maxRecDepth 65536 in
set_option maxHeartbeats 40000000 in
theorem le9 (l : Launch) (Z : State) (a0 : Array Value) (hw : ∀ d ∈ tables_1, d.before a0 Z = true) (ws : List Jvm.Cond) (r0 : Addr) (cu : Int32) (u : Addr) (ku : ClassId) (en : Addr) (EC : String) (w : Int32) (sa : Nat → Addr) (x0 : Value) (x1 : Value) (x2 : Value) (x3 : Value) (ln : Int64) (x7 : Value) (x8 : Value) (x9 : Value) (x10 : Value) (x11 : Value) (x12 : Value) (x13 : Value) (x14 : Value) (x15 : Value) (x16 : Value) (x17 : Value) (x18 : Value) (x19 : Value) (x20 : Value) (x21 : Value) (x22 : Value) (h0 : Heap) (n0 : Nat) (Z0 : n0 ≤ h0.size) (I : own_I Z h0 r0 u ku cu en EC w sa) (G : own_G Z h0 r0 [x0, x1, x2, x3, (.long ln), (.ref u), (.int 0), x7, x8, x9, x10, x11, x12, x13, x14, x15, x16, x17, x18, x19, x20, x21, x22]) (gn_r0 : n0 ≤ r0) :
    MetFree l (⟨"com/example/corridor/corridor/iso20022/MarkupScanner", "lineEnd", "(CI)V"⟩ : MethodName) (head1 (Jvm.Cond.code (⟨"com/example/corridor/corridor/iso20022/MarkupScanner", "lineEnd", "(CI)V"⟩ : MethodName) prog_34_method_10_code 3 none :: ws) ({ frames := 1, cells := 0, slots := 0, locals := 14 } : Room)) (fun a U => a = #[(.ref r0), (.int cu), (.int 9)] ∧ Z.Warmed39 U.vm ∧ U.heap = h0) (fun _ _ _ _ _ => True) (fun _ U o U' => ∃ v L, o = .returned v ∧ (own_QG Z r0 n0 h0 none [x0, x1, x2, x3, (.long (own_lx cu ln)), (.ref u), (.int 0), x7, x8, x9, x10, x11, x12, x13, x14, x15, x16, x17, x18, x19, x20, x21, x22]) v U'.heap L ∧ FrameEnd U o U' L 0 0) := by
  refine MetFree.of_bodySF (plainFor_of_name pn9) hisR ?_
  intro p e s m args below meth c s₁ Bd hml0 hP hK
  obtain ⟨rfl, hZ, hh⟩ := hP
  have hx := Bd.exec
  have hby := Bd.bytes
  have hml : c.maxLocals = 3 := hml0
  have hown : s.vm.findClass "com/example/corridor/corridor/iso20022/MarkupScanner" = some m.cls := findClass_of_methodNamed Bd.named
  have hnm := (name_of_methodNamed Bd.named Bd.method).1
  have X0 : Stand p l e ({ frames := 1, cells := 0, slots := 0, locals := 14 } : Room) s m #[(.ref r0), (.int cu), (.int 9)] below meth c s₁ [] 0 0 := Stand.of_body Bd
  have e0 : s₁.heap = h0 := by rw [← hh, Bd.state]; rfl
  have N0 := Fr.nil n0
  have K0 : Keep h0 h0 [r0] := Keep.refl h0 [r0]
  show own_Goes p e below (own_End s (own_QG Z r0 n0 h0 none [x0, x1, x2, x3, (.long (own_lx cu ln)), (.ref u), (.int 0), x7, x8, x9, x10, x11, x12, x13, x14, x15, x16, x17, x18, x19, x20, x21, x22]) 0 0) _
  refine own_g (s₁.setTop (mkF m 0 #[.val (.ref r0), .val (.int cu), .val (.int 9)] [])) (fun t k => castTop (ef_le9 m r0 cu) k) ?_
  refine own_g (s₁.setTop (mkF m 1 #[.val (.ref r0), .val (.int cu), .val (.int 9)] [(.int cu)])) (fun _ k => XS.iloadN X0.here hx rfl (hb hby d9_0) rfl k) ?_
  refine own_g (s₁.setTop (mkF m 3 #[.val (.ref r0), .val (.int cu), .val (.int 9)] [(.int 13), (.int cu)])) (fun _ k => XS.bipush X0.here hx rfl (hb hby d9_1) k) ?_
  by_cases hc3 : (13 : Int32) < cu
  · skip
    refine own_g (s₁.setTop (mkF m 28 #[.val (.ref r0), .val (.int cu), .val (.int 9)] [])) (fun _ k => XS.icmpYes X0.here hx rfl (pc0 := 3) (pc' := 28) rfl (hb hby d9_3) rfl (tlt hc3).2.2.1 (by decide) (by decide) k) ?_
    exact own_retV X0 hx Bd.returns (hb hby d9_28) Bd.notSynchronized (by decide) (by decide) (by rw [e0]; exact ⟨rfl, N0, K0, (by rw [own_lxA hc3]; exact G)⟩)
  · skip
    refine own_g (s₁.setTop (mkF m 6 #[.val (.ref r0), .val (.int cu), .val (.int 9)] [])) (fun _ k => XS.icmpNo X0.here hx rfl (hb hby d9_3) rfl (flt hc3).2.2.1 k) ?_
    refine own_g (s₁.setTop (mkF m 7 #[.val (.ref r0), .val (.int cu), .val (.int 9)] [(.int cu)])) (fun _ k => XS.iloadN X0.here hx rfl (hb hby d9_6) rfl k) ?_
    refine own_g (s₁.setTop (mkF m 8 #[.val (.ref r0), .val (.int cu), .val (.int 9)] [(.ref r0), (.int cu)])) (fun _ k => XS.aloadN X0.here hx rfl (hb hby d9_7) rfl rfl k) ?_
    refine own_g (s₁.setTop (mkF m 9 #[.val (.ref r0), .val (.int cu), .val (.int 9)] [(.int 9), (.ref r0), (.int cu)])) (fun _ k => XS.iloadN X0.here hx rfl (hb hby d9_8) rfl k) ?_
    obtain ⟨cq1, qk1, qk1'⟩ := G.1.cell
    obtain ⟨_, _, ⟨T1, L1, k1, n1⟩, -, X1, ⟨Lc1, hQ1, l1, y1, z1⟩, st1⟩ := X0.privateBack hx (y := (⟨"com/example/corridor/corridor/iso20022/MarkupScanner", "previousUnit", "(I)C"⟩ : MethodName)) hown (mvT hZ (own_w hw 153 rfl)) (mvT hZ (own_w hw 154 rfl)) (mvT hZ (own_selPriv (own_w hw 154 rfl) (own_w hw 155 rfl) (own_w hw 30 rfl) rfl (by decide))) (Cond.privateMethod_at (mvP hZ (own_w hw 155 rfl) (args := #[]))) (mvT hZ (own_w hw 156 rfl)) (by decide) (backOf (W := 1) (pv9 l Z a0 hw [] r0 u ku cu en EC w sa x0 x1 x2 x3 (.long ln) x7 x8 x9 x10 x11 x12 x13 x14 x15 x16 x17 x18 x19 x20 x21 x22 h0 n0 Z0 I G gn_r0) hZ (own_w hw 156 rfl) (own_w hw 7 rfl) (by decide) (by decide)) (g := (mkF m 9 #[.val (.ref r0), .val (.int cu), .val (.int 9)] [(.int 9), (.ref r0), (.int cu)])) rfl (by rw [hml]; rfl) (Steps.refl _) (a := r0) (by rw [e0]; exact qk1) qk1' (argsL := [(.int 9)]) (rest := [(.int cu)]) (lenOf pd1 rfl) rfl (by show 2 * 0 + _ ≤ _; exact Nat.le_of_eq rfl) (hb hby d9_9) (fun _ _ => ⟨rfl, e0, (by decide : 0 + 0 ≤ _), (by decide : 0 + 0 ≤ _)⟩)
    dsimp only [Pt.U, Pt.locs, Pt.cells, Pt.slots] at X1 l1 y1 z1 st1 hQ1
    subst l1 y1 z1
    obtain ⟨rfl, Nq1, e1⟩ := hQ1
    have N1 := Fr.app N0 Nq1
    refine own_g (T1.setTop (mkF m 12 #[.val (.ref r0), .val (.int cu), .val (.int 9)] [(.int 91), (.int cu)])) (fun _ k => st1.trans k) ?_
    obtain ⟨_, _, ⟨T2, L2, k2, n2⟩, -, X2, ⟨Lc2, hQ2, l2, y2, z2⟩, st2⟩ := Jvm.LawKit.callS X1 hx (y := (⟨"com/example/corridor/corridor/iso20022/MarkupScanner", "endsLine", "(CC)Z"⟩ : MethodName)) hown (mvT hZ (own_w hw 157 rfl)) (mvT hZ (own_w hw 158 rfl)) (mvT hZ (own_w hw 7 rfl)) (mvT hZ (own_w hw 159 rfl)) (by decide) (backOf (W := 0) (el l Z a0 hw [] cu (91 : Int32) h0 n0 Z0) hZ (own_w hw 159 rfl) (own_w hw 7 rfl) (by decide) (by decide)) (g := (mkF m 12 #[.val (.ref r0), .val (.int cu), .val (.int 9)] [(.int 91), (.int cu)])) rfl (by rw [hml]; rfl) (argsL := [(.int cu), (.int 91)]) (rest := []) (lenOf pd2 rfl) rfl (by show 2 * 0 + _ ≤ _; exact Nat.le_of_eq rfl) (hb hby d9_12) (fun _ _ => ⟨rfl, e1, (by decide : 0 + 0 ≤ _), (by decide : 0 + 0 ≤ _)⟩)
    dsimp only [Pt.U, Pt.locs, Pt.cells, Pt.slots] at X2 l2 y2 z2 st2 hQ2
    subst l2 y2 z2
    obtain ⟨rfl, Nq2, e2⟩ := hQ2
    have N2 := Fr.app N1 Nq2
    refine own_g (T2.setTop (mkF m 15 #[.val (.ref r0), .val (.int cu), .val (.int 9)] [(.int (F_el cu (91 : Int32)))])) (st2) ?_
    by_cases hc15 : (F_el cu (91 : Int32)) = (0 : Int32)
    · skip
      refine own_g (T2.setTop (mkF m 28 #[.val (.ref r0), .val (.int cu), .val (.int 9)] [])) (fun _ k => XS.ifYes X2.here hx rfl (pc0 := 15) (pc' := 28) rfl (hb hby d9_15) rfl ((if0 _ _).trans (teq hc15).1) (by decide) (by decide) k) ?_
      exact own_retV X2 hx Bd.returns (hb hby d9_28) Bd.notSynchronized (by decide) (by decide) (by rw [e2]; exact ⟨rfl, N2, K0, (by rw [own_lxB hc15]; exact G)⟩)
    · skip
      refine own_g (T2.setTop (mkF m 18 #[.val (.ref r0), .val (.int cu), .val (.int 9)] [])) (fun _ k => XS.ifNo X2.here hx rfl (hb hby d9_15) rfl ((if0 _ _).trans (feq hc15).1) k) ?_
      refine own_g (T2.setTop (mkF m 19 #[.val (.ref r0), .val (.int cu), .val (.int 9)] [(.ref r0)])) (fun _ k => XS.aloadN X2.here hx rfl (hb hby d9_18) rfl rfl k) ?_
      refine own_g (T2.setTop (mkF m 20 #[.val (.ref r0), .val (.int cu), .val (.int 9)] [(.ref r0), (.ref r0)])) (fun _ k => XS.dup X2.here hx rfl (hb hby d9_19) rfl rfl k) ?_
      obtain ⟨T3, X3, e3, st3⟩ := getF X2 hx hZ hown (host := "") (Or.inl (own_w hw 25 rfl)) Via.refl e2 (own_Gf G 4 rfl rfl) (g := (mkF m 20 #[.val (.ref r0), .val (.int cu), .val (.int 9)] [(.ref r0), (.ref r0)])) rfl rfl (hb hby d9_20)
      refine own_g (T3.setTop (mkF m 23 #[.val (.ref r0), .val (.int cu), .val (.int 9)] [(.long ln), (.ref r0)])) (st3) ?_
      refine own_g (T3.setTop (mkF m 24 #[.val (.ref r0), .val (.int cu), .val (.int 9)] [(.long 1), (.long ln), (.ref r0)])) (fun _ k => XS.lconst X3.here hx rfl (hb hby d9_23) k) ?_
      refine own_g (T3.setTop (mkF m 25 #[.val (.ref r0), .val (.int cu), .val (.int 9)] [(.long (ln + (1 : Int64))), (.ref r0)])) (fun _ k => XS.ladd X3.here hx rfl (hb hby d9_24) rfl k) ?_
      obtain ⟨T4, h4, X4, e4, W4, st4⟩ := putF X3 hx hZ hown (host := "") (Or.inl (own_w hw 25 rfl)) Via.refl e3 (own_Gf G 4 rfl rfl) G.1 (Or.inl (own_w hw 26 rfl)) (own_w hw 6 rfl) (ty := .long) (by decide) rfl rfl (g := (mkF m 25 #[.val (.ref r0), .val (.int cu), .val (.int 9)] [(.long (ln + (1 : Int64))), (.ref r0)])) rfl rfl (hb hby d9_25)
      have G4 : own_G Z h4 r0 [x0, x1, x2, x3, (.long (ln + (1 : Int64))), (.ref u), (.int 0), x7, x8, x9, x10, x11, x12, x13, x14, x15, x16, x17, x18, x19, x20, x21, x22] := own_G.put hw G 4 rfl (Nat.le_of_ble_eq_true rfl) W4
      have I4 : own_I Z h4 r0 u ku cu en EC w sa := I.wr W4 G.1
      have N4 := Fr.snoc X4 N2 gn_r0
      have Z4 : n0 ≤ h4.size := Nat.le_trans Z0 (Keep.of_wr W4).1
      have K4 : Keep h0 h4 [r0] := K0.wr W4 (Or.inl (List.mem_of_getElem? (i := 0) rfl))
      refine own_g (T4.setTop (mkF m 28 #[.val (.ref r0), .val (.int cu), .val (.int 9)] [])) (st4) ?_
      exact own_retV X4 hx Bd.returns (hb hby d9_28) Bd.notSynchronized (by decide) (by decide) (by rw [e4]; exact ⟨rfl, N4, K4, (by rw [own_lxC hc15]; exact G4)⟩)
theorem d19_0 : decode prog_34_method_25_code 0 = .ok (.iload_n 1, 1) := by decide +kernel
theorem d19_1 : decode prog_34_method_25_code 1 = .ok (.iload_n 2, 1) := by decide +kernel
theorem d19_2 : decode prog_34_method_25_code 2 = .ok (.if_icmp .ne 15, 3) := by decide +kernel
theorem d19_17 : decode prog_34_method_25_code 17 = .ok (.iload_n 1, 1) := by decide +kernel
theorem d19_18 : decode prog_34_method_25_code 18 = .ok (.bipush 62, 2) := by decide +kernel
theorem d19_20 : decode prog_34_method_25_code 20 = .ok (.if_icmp .ne 15, 3) := by decide +kernel
theorem d19_35 : decode prog_34_method_25_code 35 = .ok (.iconst 0, 1) := by decide +kernel
theorem d19_36 : decode prog_34_method_25_code 36 = .ok (.istore 4, 2) := by decide +kernel
theorem d19_38 : decode prog_34_method_25_code 38 = .ok (.aload_n 0, 1) := by decide +kernel
theorem d19_39 : decode prog_34_method_25_code 39 = .ok (.iconst 0, 1) := by decide +kernel
theorem d19_40 : decode prog_34_method_25_code 40 = .ok (.putfield 149, 3) := by decide +kernel
theorem d19_43 : decode prog_34_method_25_code 43 = .ok (.iload 4, 2) := by decide +kernel
theorem d19_45 : decode prog_34_method_25_code 45 = .ok (.ifCond .eq 7, 3) := by decide +kernel
theorem d19_52 : decode prog_34_method_25_code 52 = .ok (.iload 4, 2) := by decide +kernel
theorem d19_54 : decode prog_34_method_25_code 54 = .ok (.ireturn, 1) := by decide +kernel
theorem pn19 : plainName "com/example/corridor/corridor/iso20022/MarkupScanner" = true := by first | (simp [plainName, overriddenIn]; done) | decide +kernel
theorem ef_cl0 (m : MethodId) (r0 : Addr) : entryFrame m #[(.ref r0), (.int 0), (.int 93), (.int 2)] 5 = mkF m 0 #[.val (.ref r0), .val (.int 0), .val (.int 93), .val (.int 2), .unset] [] := by first | (simp [entryFrame, mkF, argsToLocals, Value.category]; done) | rfl
set_option maxRecDepth 65536 in
set_option maxHeartbeats 40000000 in
theorem cl0 (l : Launch) (Z : State) (a0 : Array Value) (hw : ∀ d ∈ tables_1, d.before a0 Z = true) (ws : List Jvm.Cond) (r0 : Addr) (u : Addr) (ku : ClassId) (cu : Int32) (en : Addr) (EC : String) (w : Int32) (sa : Nat → Addr) (x0 : Value) (x1 : Value) (x2 : Value) (x3 : Value) (x4 : Value) (x5 : Value) (x6 : Value) (x7 : Value) (x8 : Value) (x9 : Value) (x10 : Value) (x11 : Value) (x12 : Value) (x13 : Value) (x14 : Value) (x15 : Value) (x16 : Value) (x17 : Value) (x18 : Value) (x19 : Value) (x20 : Value) (x21 : Value) (x22 : Value) (h0 : Heap) (n0 : Nat) (Z0 : n0 ≤ h0.size) (I : own_I Z h0 r0 u ku cu en EC w sa) (G : own_G Z h0 r0 [x0, x1, x2, x3, x4, x5, x6, x7, x8, x9, x10, x11, x12, x13, x14, x15, x16, x17, x18, x19, x20, x21, x22]) (gn_r0 : n0 ≤ r0) :
    MetFree l (⟨"com/example/corridor/corridor/iso20022/MarkupScanner", "closes", "(CCI)Z"⟩ : MethodName) (head1 (Jvm.Cond.code (⟨"com/example/corridor/corridor/iso20022/MarkupScanner", "closes", "(CCI)Z"⟩ : MethodName) prog_34_method_25_code 5 (some .boolean) :: ws) ({ frames := 0, cells := 0, slots := 0, locals := 0 } : Room)) (fun a U => a = #[(.ref r0), (.int 0), (.int 93), (.int 2)] ∧ Z.Warmed39 U.vm ∧ U.heap = h0) (fun _ _ _ _ _ => True) (fun _ U o U' => ∃ v L, o = .returned v ∧ (own_QG Z r0 n0 h0 (some (.int 0)) [x0, x1, x2, x3, x4, x5, x6, x7, x8, x9, x10, x11, x12, x13, (.int 0), x15, x16, x17, x18, x19, x20, x21, x22]) v U'.heap L ∧ FrameEnd U o U' L 0 0) := by
  refine MetFree.of_bodySF (plainFor_of_name pn19) hisR ?_
  intro p e s m args below meth c s₁ Bd hml0 hP hK
  obtain ⟨rfl, hZ, hh⟩ := hP
  have hx := Bd.exec
  have hby := Bd.bytes
  have hml : c.maxLocals = 5 := hml0
  have hown : s.vm.findClass "com/example/corridor/corridor/iso20022/MarkupScanner" = some m.cls := findClass_of_methodNamed Bd.named
  have hnm := (name_of_methodNamed Bd.named Bd.method).1
  have X0 : Stand p l e ({ frames := 0, cells := 0, slots := 0, locals := 0 } : Room) s m #[(.ref r0), (.int 0), (.int 93), (.int 2)] below meth c s₁ [] 0 0 := Stand.of_body Bd
  have e0 : s₁.heap = h0 := by rw [← hh, Bd.state]; rfl
  have N0 := Fr.nil n0
  have K0 : Keep h0 h0 [r0] := Keep.refl h0 [r0]
  show own_Goes p e below (own_End s (own_QG Z r0 n0 h0 (some (.int 0)) [x0, x1, x2, x3, x4, x5, x6, x7, x8, x9, x10, x11, x12, x13, (.int 0), x15, x16, x17, x18, x19, x20, x21, x22]) 0 0) _
  refine own_g (s₁.setTop (mkF m 0 #[.val (.ref r0), .val (.int 0), .val (.int 93), .val (.int 2), .unset] [])) (fun t k => castTop (ef_cl0 m r0) k) ?_
  refine own_g (s₁.setTop (mkF m 1 #[.val (.ref r0), .val (.int 0), .val (.int 93), .val (.int 2), .unset] [(.int 0)])) (fun _ k => XS.iloadN X0.here hx rfl (hb hby d19_0) rfl k) ?_
  refine own_g (s₁.setTop (mkF m 2 #[.val (.ref r0), .val (.int 0), .val (.int 93), .val (.int 2), .unset] [(.int 93), (.int 0)])) (fun _ k => XS.iloadN X0.here hx rfl (hb hby d19_1) rfl k) ?_
  refine own_g (s₁.setTop (mkF m 17 #[.val (.ref r0), .val (.int 0), .val (.int 93), .val (.int 2), .unset] [])) (fun _ k => XS.icmpYes X0.here hx rfl (pc0 := 2) (pc' := 17) rfl (hb hby d19_2) rfl (feq (by decide : ¬ ((0 : Int32) = (93 : Int32)))).2 (by decide) (by decide) k) ?_
  refine own_g (s₁.setTop (mkF m 18 #[.val (.ref r0), .val (.int 0), .val (.int 93), .val (.int 2), .unset] [(.int 0)])) (fun _ k => XS.iloadN X0.here hx rfl (hb hby d19_17) rfl k) ?_
  refine own_g (s₁.setTop (mkF m 20 #[.val (.ref r0), .val (.int 0), .val (.int 93), .val (.int 2), .unset] [(.int 62), (.int 0)])) (fun _ k => XS.bipush X0.here hx rfl (hb hby d19_18) k) ?_
  refine own_g (s₁.setTop (mkF m 35 #[.val (.ref r0), .val (.int 0), .val (.int 93), .val (.int 2), .unset] [])) (fun _ k => XS.icmpYes X0.here hx rfl (pc0 := 20) (pc' := 35) rfl (hb hby d19_20) rfl (feq (by decide : ¬ ((0 : Int32) = (62 : Int32)))).2 (by decide) (by decide) k) ?_
  refine own_g (s₁.setTop (mkF m 36 #[.val (.ref r0), .val (.int 0), .val (.int 93), .val (.int 2), .unset] [(.int 0)])) (fun _ k => XS.iconst X0.here hx rfl (hb hby d19_35) k) ?_
  refine own_g (s₁.setTop (mkF m 38 #[.val (.ref r0), .val (.int 0), .val (.int 93), .val (.int 2), .val (.int 0)] [])) (fun _ k => XS.istore X0.here hx rfl (hb hby d19_36) rfl (l' := #[.val (.ref r0), .val (.int 0), .val (.int 93), .val (.int 2), .val (.int 0)]) rfl k) ?_
  refine own_g (s₁.setTop (mkF m 39 #[.val (.ref r0), .val (.int 0), .val (.int 93), .val (.int 2), .val (.int 0)] [(.ref r0)])) (fun _ k => XS.aloadN X0.here hx rfl (hb hby d19_38) rfl rfl k) ?_
  refine own_g (s₁.setTop (mkF m 40 #[.val (.ref r0), .val (.int 0), .val (.int 93), .val (.int 2), .val (.int 0)] [(.int 0), (.ref r0)])) (fun _ k => XS.iconst X0.here hx rfl (hb hby d19_39) k) ?_
  obtain ⟨T1, h1, X1, e1, W1, st1⟩ := putF X0 hx hZ hown (host := "") (Or.inl (own_w hw 134 rfl)) Via.refl e0 (own_Gf G 14 rfl rfl) G.1 (Or.inl (own_w hw 135 rfl)) (own_w hw 6 rfl) (ty := .int) (by decide) rfl rfl (g := (mkF m 40 #[.val (.ref r0), .val (.int 0), .val (.int 93), .val (.int 2), .val (.int 0)] [(.int 0), (.ref r0)])) rfl rfl (hb hby d19_40)
  have G1 : own_G Z h1 r0 [x0, x1, x2, x3, x4, x5, x6, x7, x8, x9, x10, x11, x12, x13, (.int 0), x15, x16, x17, x18, x19, x20, x21, x22] := own_G.put hw G 14 rfl (Nat.le_of_ble_eq_true rfl) W1
  have I1 : own_I Z h1 r0 u ku cu en EC w sa := I.wr W1 G.1
  have N1 := Fr.snoc X1 N0 gn_r0
  have Z1 : n0 ≤ h1.size := Nat.le_trans Z0 (Keep.of_wr W1).1
  have K1 : Keep h0 h1 [r0] := K0.wr W1 (Or.inl (List.mem_of_getElem? (i := 0) rfl))
  refine own_g (T1.setTop (mkF m 43 #[.val (.ref r0), .val (.int 0), .val (.int 93), .val (.int 2), .val (.int 0)] [])) (st1) ?_
  refine own_g (T1.setTop (mkF m 45 #[.val (.ref r0), .val (.int 0), .val (.int 93), .val (.int 2), .val (.int 0)] [(.int 0)])) (fun _ k => XS.iload X1.here hx rfl (hb hby d19_43) rfl k) ?_
  refine own_g (T1.setTop (mkF m 52 #[.val (.ref r0), .val (.int 0), .val (.int 93), .val (.int 2), .val (.int 0)] [])) (fun _ k => XS.ifYes X1.here hx rfl (pc0 := 45) (pc' := 52) rfl (hb hby d19_45) rfl ((if0 _ _).trans (teq (by decide : (0 : Int32) = (0 : Int32))).1) (by decide) (by decide) k) ?_
  refine own_g (T1.setTop (mkF m 54 #[.val (.ref r0), .val (.int 0), .val (.int 93), .val (.int 2), .val (.int 0)] [(.int 0)])) (fun _ k => XS.iload X1.here hx rfl (hb hby d19_52) rfl k) ?_
  exact own_ret0 X1 hx Bd.returns (hb hby d19_54) Bd.notSynchronized (by decide) (by decide) (by rw [e1]; exact ⟨rfl, N1, K1, G1⟩)
theorem d19_5 : decode prog_34_method_25_code 5 = .ok (.aload_n 0, 1) := by decide +kernel
theorem d19_6 : decode prog_34_method_25_code 6 = .ok (.dup, 1) := by decide +kernel
theorem d19_7 : decode prog_34_method_25_code 7 = .ok (.getfield 149, 3) := by decide +kernel
theorem d19_10 : decode prog_34_method_25_code 10 = .ok (.iconst 1, 1) := by decide +kernel
theorem d19_11 : decode prog_34_method_25_code 11 = .ok (.iadd, 1) := by decide +kernel
theorem d19_12 : decode prog_34_method_25_code 12 = .ok (.putfield 149, 3) := by decide +kernel
theorem d19_15 : decode prog_34_method_25_code 15 = .ok (.iconst 0, 1) := by decide +kernel
theorem d19_16 : decode prog_34_method_25_code 16 = .ok (.ireturn, 1) := by decide +kernel
theorem d19_23 : decode prog_34_method_25_code 23 = .ok (.aload_n 0, 1) := by decide +kernel
theorem d19_24 : decode prog_34_method_25_code 24 = .ok (.getfield 149, 3) := by decide +kernel
theorem d19_27 : decode prog_34_method_25_code 27 = .ok (.iload_n 3, 1) := by decide +kernel
theorem d19_28 : decode prog_34_method_25_code 28 = .ok (.if_icmp .lt 7, 3) := by decide +kernel
theorem ef_clc (m : MethodId) (r0 : Addr) (cu : Int32) : entryFrame m #[(.ref r0), (.int cu), (.int 93), (.int 2)] 5 = mkF m 0 #[.val (.ref r0), .val (.int cu), .val (.int 93), .val (.int 2), .unset] [] := by first | (simp [entryFrame, mkF, argsToLocals, Value.category]; done) | rfl
set_option maxRecDepth 65536 in
set_option maxHeartbeats 40000000 in
theorem clc (l : Launch) (Z : State) (a0 : Array Value) (hw : ∀ d ∈ tables_1, d.before a0 Z = true) (ws : List Jvm.Cond) (r0 : Addr) (cu : Int32) (u : Addr) (ku : ClassId) (en : Addr) (EC : String) (w : Int32) (sa : Nat → Addr) (x0 : Value) (x1 : Value) (x2 : Value) (x3 : Value) (x4 : Value) (x5 : Value) (x6 : Value) (x7 : Value) (x8 : Value) (x9 : Value) (x10 : Value) (x11 : Value) (x12 : Value) (x13 : Value) (x15 : Value) (x16 : Value) (x17 : Value) (x18 : Value) (x19 : Value) (x20 : Value) (x21 : Value) (x22 : Value) (h0 : Heap) (n0 : Nat) (Z0 : n0 ≤ h0.size) (I : own_I Z h0 r0 u ku cu en EC w sa) (G : own_G Z h0 r0 [x0, x1, x2, x3, x4, x5, x6, x7, x8, x9, x10, x11, x12, x13, (.int 0), x15, x16, x17, x18, x19, x20, x21, x22]) (gn_r0 : n0 ≤ r0) :
    MetFree l (⟨"com/example/corridor/corridor/iso20022/MarkupScanner", "closes", "(CCI)Z"⟩ : MethodName) (head1 (Jvm.Cond.code (⟨"com/example/corridor/corridor/iso20022/MarkupScanner", "closes", "(CCI)Z"⟩ : MethodName) prog_34_method_25_code 5 (some .boolean) :: ws) ({ frames := 0, cells := 0, slots := 0, locals := 0 } : Room)) (fun a U => a = #[(.ref r0), (.int cu), (.int 93), (.int 2)] ∧ Z.Warmed39 U.vm ∧ U.heap = h0) (fun _ _ _ _ _ => True) (fun _ U o U' => ∃ v L, o = .returned v ∧ (own_QG Z r0 n0 h0 (some (.int 0)) [x0, x1, x2, x3, x4, x5, x6, x7, x8, x9, x10, x11, x12, x13, (.int (own_mk cu)), x15, x16, x17, x18, x19, x20, x21, x22]) v U'.heap L ∧ FrameEnd U o U' L 0 0) := by
  refine MetFree.of_bodySF (plainFor_of_name pn19) hisR ?_
  intro p e s m args below meth c s₁ Bd hml0 hP hK
  obtain ⟨rfl, hZ, hh⟩ := hP
  have hx := Bd.exec
  have hby := Bd.bytes
  have hml : c.maxLocals = 5 := hml0
  have hown : s.vm.findClass "com/example/corridor/corridor/iso20022/MarkupScanner" = some m.cls := findClass_of_methodNamed Bd.named
  have hnm := (name_of_methodNamed Bd.named Bd.method).1
  have X0 : Stand p l e ({ frames := 0, cells := 0, slots := 0, locals := 0 } : Room) s m #[(.ref r0), (.int cu), (.int 93), (.int 2)] below meth c s₁ [] 0 0 := Stand.of_body Bd
  have e0 : s₁.heap = h0 := by rw [← hh, Bd.state]; rfl
  have N0 := Fr.nil n0
  have K0 : Keep h0 h0 [r0] := Keep.refl h0 [r0]
  show own_Goes p e below (own_End s (own_QG Z r0 n0 h0 (some (.int 0)) [x0, x1, x2, x3, x4, x5, x6, x7, x8, x9, x10, x11, x12, x13, (.int (own_mk cu)), x15, x16, x17, x18, x19, x20, x21, x22]) 0 0) _
  refine own_g (s₁.setTop (mkF m 0 #[.val (.ref r0), .val (.int cu), .val (.int 93), .val (.int 2), .unset] [])) (fun t k => castTop (ef_clc m r0 cu) k) ?_
  refine own_g (s₁.setTop (mkF m 1 #[.val (.ref r0), .val (.int cu), .val (.int 93), .val (.int 2), .unset] [(.int cu)])) (fun _ k => XS.iloadN X0.here hx rfl (hb hby d19_0) rfl k) ?_
  refine own_g (s₁.setTop (mkF m 2 #[.val (.ref r0), .val (.int cu), .val (.int 93), .val (.int 2), .unset] [(.int 93), (.int cu)])) (fun _ k => XS.iloadN X0.here hx rfl (hb hby d19_1) rfl k) ?_
  by_cases hc2 : cu = (93 : Int32)
  · skip
    refine own_g (s₁.setTop (mkF m 5 #[.val (.ref r0), .val (.int cu), .val (.int 93), .val (.int 2), .unset] [])) (fun _ k => XS.icmpNo X0.here hx rfl (hb hby d19_2) rfl (teq hc2).2 k) ?_
    refine own_g (s₁.setTop (mkF m 6 #[.val (.ref r0), .val (.int cu), .val (.int 93), .val (.int 2), .unset] [(.ref r0)])) (fun _ k => XS.aloadN X0.here hx rfl (hb hby d19_5) rfl rfl k) ?_
    refine own_g (s₁.setTop (mkF m 7 #[.val (.ref r0), .val (.int cu), .val (.int 93), .val (.int 2), .unset] [(.ref r0), (.ref r0)])) (fun _ k => XS.dup X0.here hx rfl (hb hby d19_6) rfl rfl k) ?_
    obtain ⟨T1, X1, e1, st1⟩ := getF X0 hx hZ hown (host := "") (Or.inl (own_w hw 134 rfl)) Via.refl e0 (own_Gf G 14 rfl rfl) (g := (mkF m 7 #[.val (.ref r0), .val (.int cu), .val (.int 93), .val (.int 2), .unset] [(.ref r0), (.ref r0)])) rfl rfl (hb hby d19_7)
    refine own_g (T1.setTop (mkF m 10 #[.val (.ref r0), .val (.int cu), .val (.int 93), .val (.int 2), .unset] [(.int 0), (.ref r0)])) (st1) ?_
    refine own_g (T1.setTop (mkF m 11 #[.val (.ref r0), .val (.int cu), .val (.int 93), .val (.int 2), .unset] [(.int 1), (.int 0), (.ref r0)])) (fun _ k => XS.iconst X1.here hx rfl (hb hby d19_10) k) ?_
    refine own_g (T1.setTop (mkF m 12 #[.val (.ref r0), .val (.int cu), .val (.int 93), .val (.int 2), .unset] [(.int ((0 : Int32) + (1 : Int32))), (.ref r0)])) (fun _ k => XS.iadd X1.here hx rfl (hb hby d19_11) rfl k) ?_
    rw [show ((0 : Int32) + (1 : Int32)) = (1 : Int32) from by decide]
    obtain ⟨T2, h2, X2, e2, W2, st2⟩ := putF X1 hx hZ hown (host := "") (Or.inl (own_w hw 134 rfl)) Via.refl e1 (own_Gf G 14 rfl rfl) G.1 (Or.inl (own_w hw 135 rfl)) (own_w hw 6 rfl) (ty := .int) (by decide) rfl rfl (g := (mkF m 12 #[.val (.ref r0), .val (.int cu), .val (.int 93), .val (.int 2), .unset] [(.int 1), (.ref r0)])) rfl rfl (hb hby d19_12)
    have G2 : own_G Z h2 r0 [x0, x1, x2, x3, x4, x5, x6, x7, x8, x9, x10, x11, x12, x13, (.int 1), x15, x16, x17, x18, x19, x20, x21, x22] := own_G.put hw G 14 rfl (Nat.le_of_ble_eq_true rfl) W2
    have I2 : own_I Z h2 r0 u ku cu en EC w sa := I.wr W2 G.1
    have N2 := Fr.snoc X2 N0 gn_r0
    have Z2 : n0 ≤ h2.size := Nat.le_trans Z0 (Keep.of_wr W2).1
    have K2 : Keep h0 h2 [r0] := K0.wr W2 (Or.inl (List.mem_of_getElem? (i := 0) rfl))
    refine own_g (T2.setTop (mkF m 15 #[.val (.ref r0), .val (.int cu), .val (.int 93), .val (.int 2), .unset] [])) (st2) ?_
    refine own_g (T2.setTop (mkF m 16 #[.val (.ref r0), .val (.int cu), .val (.int 93), .val (.int 2), .unset] [(.int 0)])) (fun _ k => XS.iconst X2.here hx rfl (hb hby d19_15) k) ?_
    exact own_ret0 X2 hx Bd.returns (hb hby d19_16) Bd.notSynchronized (by decide) (by decide) (by rw [e2]; exact ⟨rfl, N2, K2, (by rw [own_mk1 hc2]; exact G2)⟩)
  · skip
    refine own_g (s₁.setTop (mkF m 17 #[.val (.ref r0), .val (.int cu), .val (.int 93), .val (.int 2), .unset] [])) (fun _ k => XS.icmpYes X0.here hx rfl (pc0 := 2) (pc' := 17) rfl (hb hby d19_2) rfl (feq hc2).2 (by decide) (by decide) k) ?_
    refine own_g (s₁.setTop (mkF m 18 #[.val (.ref r0), .val (.int cu), .val (.int 93), .val (.int 2), .unset] [(.int cu)])) (fun _ k => XS.iloadN X0.here hx rfl (hb hby d19_17) rfl k) ?_
    refine own_g (s₁.setTop (mkF m 20 #[.val (.ref r0), .val (.int cu), .val (.int 93), .val (.int 2), .unset] [(.int 62), (.int cu)])) (fun _ k => XS.bipush X0.here hx rfl (hb hby d19_18) k) ?_
    by_cases hc20 : cu = (62 : Int32)
    · skip
      refine own_g (s₁.setTop (mkF m 23 #[.val (.ref r0), .val (.int cu), .val (.int 93), .val (.int 2), .unset] [])) (fun _ k => XS.icmpNo X0.here hx rfl (hb hby d19_20) rfl (teq hc20).2 k) ?_
      refine own_g (s₁.setTop (mkF m 24 #[.val (.ref r0), .val (.int cu), .val (.int 93), .val (.int 2), .unset] [(.ref r0)])) (fun _ k => XS.aloadN X0.here hx rfl (hb hby d19_23) rfl rfl k) ?_
      obtain ⟨T3, X3, e3, st3⟩ := getF X0 hx hZ hown (host := "") (Or.inl (own_w hw 134 rfl)) Via.refl e0 (own_Gf G 14 rfl rfl) (g := (mkF m 24 #[.val (.ref r0), .val (.int cu), .val (.int 93), .val (.int 2), .unset] [(.ref r0)])) rfl rfl (hb hby d19_24)
      refine own_g (T3.setTop (mkF m 27 #[.val (.ref r0), .val (.int cu), .val (.int 93), .val (.int 2), .unset] [(.int 0)])) (st3) ?_
      refine own_g (T3.setTop (mkF m 28 #[.val (.ref r0), .val (.int cu), .val (.int 93), .val (.int 2), .unset] [(.int 2), (.int 0)])) (fun _ k => XS.iloadN X3.here hx rfl (hb hby d19_27) rfl k) ?_
      refine own_g (T3.setTop (mkF m 35 #[.val (.ref r0), .val (.int cu), .val (.int 93), .val (.int 2), .unset] [])) (fun _ k => XS.icmpYes X3.here hx rfl (pc0 := 28) (pc' := 35) rfl (hb hby d19_28) rfl (tlt (by decide : (0 : Int32) < (2 : Int32))).1 (by decide) (by decide) k) ?_
      refine own_g (T3.setTop (mkF m 36 #[.val (.ref r0), .val (.int cu), .val (.int 93), .val (.int 2), .unset] [(.int 0)])) (fun _ k => XS.iconst X3.here hx rfl (hb hby d19_35) k) ?_
      refine own_g (T3.setTop (mkF m 38 #[.val (.ref r0), .val (.int cu), .val (.int 93), .val (.int 2), .val (.int 0)] [])) (fun _ k => XS.istore X3.here hx rfl (hb hby d19_36) rfl (l' := #[.val (.ref r0), .val (.int cu), .val (.int 93), .val (.int 2), .val (.int 0)]) rfl k) ?_
      refine own_g (T3.setTop (mkF m 39 #[.val (.ref r0), .val (.int cu), .val (.int 93), .val (.int 2), .val (.int 0)] [(.ref r0)])) (fun _ k => XS.aloadN X3.here hx rfl (hb hby d19_38) rfl rfl k) ?_
      refine own_g (T3.setTop (mkF m 40 #[.val (.ref r0), .val (.int cu), .val (.int 93), .val (.int 2), .val (.int 0)] [(.int 0), (.ref r0)])) (fun _ k => XS.iconst X3.here hx rfl (hb hby d19_39) k) ?_
      obtain ⟨T4, h4, X4, e4, W4, st4⟩ := putF X3 hx hZ hown (host := "") (Or.inl (own_w hw 134 rfl)) Via.refl e3 (own_Gf G 14 rfl rfl) G.1 (Or.inl (own_w hw 135 rfl)) (own_w hw 6 rfl) (ty := .int) (by decide) rfl rfl (g := (mkF m 40 #[.val (.ref r0), .val (.int cu), .val (.int 93), .val (.int 2), .val (.int 0)] [(.int 0), (.ref r0)])) rfl rfl (hb hby d19_40)
      have G4 : own_G Z h4 r0 [x0, x1, x2, x3, x4, x5, x6, x7, x8, x9, x10, x11, x12, x13, (.int 0), x15, x16, x17, x18, x19, x20, x21, x22] := own_G.put hw G 14 rfl (Nat.le_of_ble_eq_true rfl) W4
      have I4 : own_I Z h4 r0 u ku cu en EC w sa := I.wr W4 G.1
      have N4 := Fr.snoc X4 N0 gn_r0
      have Z4 : n0 ≤ h4.size := Nat.le_trans Z0 (Keep.of_wr W4).1
      have K4 : Keep h0 h4 [r0] := K0.wr W4 (Or.inl (List.mem_of_getElem? (i := 0) rfl))
      refine own_g (T4.setTop (mkF m 43 #[.val (.ref r0), .val (.int cu), .val (.int 93), .val (.int 2), .val (.int 0)] [])) (st4) ?_
      refine own_g (T4.setTop (mkF m 45 #[.val (.ref r0), .val (.int cu), .val (.int 93), .val (.int 2), .val (.int 0)] [(.int 0)])) (fun _ k => XS.iload X4.here hx rfl (hb hby d19_43) rfl k) ?_
      refine own_g (T4.setTop (mkF m 52 #[.val (.ref r0), .val (.int cu), .val (.int 93), .val (.int 2), .val (.int 0)] [])) (fun _ k => XS.ifYes X4.here hx rfl (pc0 := 45) (pc' := 52) rfl (hb hby d19_45) rfl ((if0 _ _).trans (teq (by decide : (0 : Int32) = (0 : Int32))).1) (by decide) (by decide) k) ?_
      refine own_g (T4.setTop (mkF m 54 #[.val (.ref r0), .val (.int cu), .val (.int 93), .val (.int 2), .val (.int 0)] [(.int 0)])) (fun _ k => XS.iload X4.here hx rfl (hb hby d19_52) rfl k) ?_
      exact own_ret0 X4 hx Bd.returns (hb hby d19_54) Bd.notSynchronized (by decide) (by decide) (by rw [e4]; exact ⟨rfl, N4, K4, (by rw [own_mk0 hc2]; exact G4)⟩)
    · skip
      refine own_g (s₁.setTop (mkF m 35 #[.val (.ref r0), .val (.int cu), .val (.int 93), .val (.int 2), .unset] [])) (fun _ k => XS.icmpYes X0.here hx rfl (pc0 := 20) (pc' := 35) rfl (hb hby d19_20) rfl (feq hc20).2 (by decide) (by decide) k) ?_
      refine own_g (s₁.setTop (mkF m 36 #[.val (.ref r0), .val (.int cu), .val (.int 93), .val (.int 2), .unset] [(.int 0)])) (fun _ k => XS.iconst X0.here hx rfl (hb hby d19_35) k) ?_
      refine own_g (s₁.setTop (mkF m 38 #[.val (.ref r0), .val (.int cu), .val (.int 93), .val (.int 2), .val (.int 0)] [])) (fun _ k => XS.istore X0.here hx rfl (hb hby d19_36) rfl (l' := #[.val (.ref r0), .val (.int cu), .val (.int 93), .val (.int 2), .val (.int 0)]) rfl k) ?_
      refine own_g (s₁.setTop (mkF m 39 #[.val (.ref r0), .val (.int cu), .val (.int 93), .val (.int 2), .val (.int 0)] [(.ref r0)])) (fun _ k => XS.aloadN X0.here hx rfl (hb hby d19_38) rfl rfl k) ?_
      refine own_g (s₁.setTop (mkF m 40 #[.val (.ref r0), .val (.int cu), .val (.int 93), .val (.int 2), .val (.int 0)] [(.int 0), (.ref r0)])) (fun _ k => XS.iconst X0.here hx rfl (hb hby d19_39) k) ?_
      obtain ⟨T5, h5, X5, e5, W5, st5⟩ := putF X0 hx hZ hown (host := "") (Or.inl (own_w hw 134 rfl)) Via.refl e0 (own_Gf G 14 rfl rfl) G.1 (Or.inl (own_w hw 135 rfl)) (own_w hw 6 rfl) (ty := .int) (by decide) rfl rfl (g := (mkF m 40 #[.val (.ref r0), .val (.int cu), .val (.int 93), .val (.int 2), .val (.int 0)] [(.int 0), (.ref r0)])) rfl rfl (hb hby d19_40)
      have G5 : own_G Z h5 r0 [x0, x1, x2, x3, x4, x5, x6, x7, x8, x9, x10, x11, x12, x13, (.int 0), x15, x16, x17, x18, x19, x20, x21, x22] := own_G.put hw G 14 rfl (Nat.le_of_ble_eq_true rfl) W5
      have I5 : own_I Z h5 r0 u ku cu en EC w sa := I.wr W5 G.1
      have N5 := Fr.snoc X5 N0 gn_r0
      have Z5 : n0 ≤ h5.size := Nat.le_trans Z0 (Keep.of_wr W5).1
      have K5 : Keep h0 h5 [r0] := K0.wr W5 (Or.inl (List.mem_of_getElem? (i := 0) rfl))
      refine own_g (T5.setTop (mkF m 43 #[.val (.ref r0), .val (.int cu), .val (.int 93), .val (.int 2), .val (.int 0)] [])) (st5) ?_
      refine own_g (T5.setTop (mkF m 45 #[.val (.ref r0), .val (.int cu), .val (.int 93), .val (.int 2), .val (.int 0)] [(.int 0)])) (fun _ k => XS.iload X5.here hx rfl (hb hby d19_43) rfl k) ?_
      refine own_g (T5.setTop (mkF m 52 #[.val (.ref r0), .val (.int cu), .val (.int 93), .val (.int 2), .val (.int 0)] [])) (fun _ k => XS.ifYes X5.here hx rfl (pc0 := 45) (pc' := 52) rfl (hb hby d19_45) rfl ((if0 _ _).trans (teq (by decide : (0 : Int32) = (0 : Int32))).1) (by decide) (by decide) k) ?_
      refine own_g (T5.setTop (mkF m 54 #[.val (.ref r0), .val (.int cu), .val (.int 93), .val (.int 2), .val (.int 0)] [(.int 0)])) (fun _ k => XS.iload X5.here hx rfl (hb hby d19_52) rfl k) ?_
      exact own_ret0 X5 hx Bd.returns (hb hby d19_54) Bd.notSynchronized (by decide) (by decide) (by rw [e5]; exact ⟨rfl, N5, K5, (by rw [own_mk0 hc2]; exact G5)⟩)
theorem d7_0 : decode prog_34_method_11_code 0 = .ok (.aload_n 0, 1) := by decide +kernel
theorem d7_1 : decode prog_34_method_11_code 1 = .ok (.getfield 22, 3) := by decide +kernel
theorem d7_4 : decode prog_34_method_11_code 4 = .ok (.ifCond .ge 32, 3) := by decide +kernel
theorem d7_7 : decode prog_34_method_11_code 7 = .ok (.aload_n 0, 1) := by decide +kernel
theorem d7_8 : decode prog_34_method_11_code 8 = .ok (.getfield 105, 3) := by decide +kernel
theorem d7_11 : decode prog_34_method_11_code 11 = .ok (.ifCond .eq 25, 3) := by decide +kernel
theorem d7_36 : decode prog_34_method_11_code 36 = .ok (.aload_n 0, 1) := by decide +kernel
theorem d7_37 : decode prog_34_method_11_code 37 = .ok (.iload_n 2, 1) := by decide +kernel
theorem d7_38 : decode prog_34_method_11_code 38 = .ok (.putfield 105, 3) := by decide +kernel
theorem d7_41 : decode prog_34_method_11_code 41 = .ok (.aload_n 0, 1) := by decide +kernel
theorem d7_42 : decode prog_34_method_11_code 42 = .ok (.iload_n 1, 1) := by decide +kernel
theorem d7_43 : decode prog_34_method_11_code 43 = .ok (.putfield 22, 3) := by decide +kernel
theorem d7_46 : decode prog_34_method_11_code 46 = .ok (.aload_n 0, 1) := by decide +kernel
theorem d7_47 : decode prog_34_method_11_code 47 = .ok (.aload_n 0, 1) := by decide +kernel
theorem d7_48 : decode prog_34_method_11_code 48 = .ok (.getfield 30, 3) := by decide +kernel
theorem d7_51 : decode prog_34_method_11_code 51 = .ok (.putfield 26, 3) := by decide +kernel
theorem d7_54 : decode prog_34_method_11_code 54 = .ok (.return_, 1) := by decide +kernel
theorem pn7 : plainName "com/example/corridor/corridor/iso20022/MarkupScanner" = true := by first | (simp [plainName, overriddenIn]; done) | decide +kernel
theorem ef_beg (m : MethodId) (r0 : Addr) : entryFrame m #[(.ref r0), (.int 0), (.int 1)] 3 = mkF m 0 #[.val (.ref r0), .val (.int 0), .val (.int 1)] [] := by first | (simp [entryFrame, mkF, argsToLocals, Value.category]; done) | rfl
set_option maxRecDepth 65536 in
set_option maxHeartbeats 40000000 in
theorem beg (l : Launch) (Z : State) (a0 : Array Value) (hw : ∀ d ∈ tables_1, d.before a0 Z = true) (ws : List Jvm.Cond) (r0 : Addr) (u : Addr) (ku : ClassId) (cu : Int32) (en : Addr) (EC : String) (w : Int32) (sa : Nat → Addr) (x0 : Value) (x1 : Value) (x3 : Value) (ln : Int64) (x5 : Value) (x6 : Value) (x7 : Value) (x8 : Value) (x9 : Value) (x10 : Value) (x11 : Value) (x13 : Value) (x14 : Value) (x15 : Value) (x16 : Value) (x17 : Value) (x18 : Value) (x19 : Value) (x20 : Value) (x21 : Value) (x22 : Value) (h0 : Heap) (n0 : Nat) (Z0 : n0 ≤ h0.size) (I : own_I Z h0 r0 u ku cu en EC w sa) (G : own_G Z h0 r0 [x0, x1, (.int (-1)), x3, (.long ln), x5, x6, x7, x8, x9, x10, x11, (.int 0), x13, x14, x15, x16, x17, x18, x19, x20, x21, x22]) (gn_r0 : n0 ≤ r0) :
    MetFree l (⟨"com/example/corridor/corridor/iso20022/MarkupScanner", "begin", "(IZ)V"⟩ : MethodName) (head1 (Jvm.Cond.code (⟨"com/example/corridor/corridor/iso20022/MarkupScanner", "begin", "(IZ)V"⟩ : MethodName) prog_34_method_11_code 3 none :: ws) ({ frames := 0, cells := 0, slots := 0, locals := 0 } : Room)) (fun a U => a = #[(.ref r0), (.int 0), (.int 1)] ∧ Z.Warmed39 U.vm ∧ U.heap = h0) (fun _ _ _ _ _ => True) (fun _ U o U' => ∃ v L, o = .returned v ∧ (own_QG Z r0 n0 h0 none [x0, x1, (.int 0), (.long ln), (.long ln), x5, x6, x7, x8, x9, x10, x11, (.int 1), x13, x14, x15, x16, x17, x18, x19, x20, x21, x22]) v U'.heap L ∧ FrameEnd U o U' L 0 0) := by
  refine MetFree.of_bodySF (plainFor_of_name pn7) hisR ?_
  intro p e s m args below meth c s₁ Bd hml0 hP hK
  obtain ⟨rfl, hZ, hh⟩ := hP
  have hx := Bd.exec
  have hby := Bd.bytes
  have hml : c.maxLocals = 3 := hml0
  have hown : s.vm.findClass "com/example/corridor/corridor/iso20022/MarkupScanner" = some m.cls := findClass_of_methodNamed Bd.named
  have hnm := (name_of_methodNamed Bd.named Bd.method).1
  have X0 : Stand p l e ({ frames := 0, cells := 0, slots := 0, locals := 0 } : Room) s m #[(.ref r0), (.int 0), (.int 1)] below meth c s₁ [] 0 0 := Stand.of_body Bd
  have e0 : s₁.heap = h0 := by rw [← hh, Bd.state]; rfl
  have N0 := Fr.nil n0
  have K0 : Keep h0 h0 [r0] := Keep.refl h0 [r0]
  show own_Goes p e below (own_End s (own_QG Z r0 n0 h0 none [x0, x1, (.int 0), (.long ln), (.long ln), x5, x6, x7, x8, x9, x10, x11, (.int 1), x13, x14, x15, x16, x17, x18, x19, x20, x21, x22]) 0 0) _
  refine own_g (s₁.setTop (mkF m 0 #[.val (.ref r0), .val (.int 0), .val (.int 1)] [])) (fun t k => castTop (ef_beg m r0) k) ?_
  refine own_g (s₁.setTop (mkF m 1 #[.val (.ref r0), .val (.int 0), .val (.int 1)] [(.ref r0)])) (fun _ k => XS.aloadN X0.here hx rfl (hb hby d7_0) rfl rfl k) ?_
  obtain ⟨T1, X1, e1, st1⟩ := getF X0 hx hZ hown (host := "") (Or.inl (own_w hw 21 rfl)) Via.refl e0 (own_Gf G 2 rfl rfl) (g := (mkF m 1 #[.val (.ref r0), .val (.int 0), .val (.int 1)] [(.ref r0)])) rfl rfl (hb hby d7_1)
  refine own_g (T1.setTop (mkF m 4 #[.val (.ref r0), .val (.int 0), .val (.int 1)] [(.int (-1))])) (st1) ?_
  refine own_g (T1.setTop (mkF m 7 #[.val (.ref r0), .val (.int 0), .val (.int 1)] [])) (fun _ k => XS.ifNo X1.here hx rfl (hb hby d7_4) rfl ((if0 _ _).trans (tlt (by decide : (-1 : Int32) < (0 : Int32))).2.1) k) ?_
  refine own_g (T1.setTop (mkF m 8 #[.val (.ref r0), .val (.int 0), .val (.int 1)] [(.ref r0)])) (fun _ k => XS.aloadN X1.here hx rfl (hb hby d7_7) rfl rfl k) ?_
  obtain ⟨T2, X2, e2, st2⟩ := getF X1 hx hZ hown (host := "") (Or.inl (own_w hw 73 rfl)) Via.refl e1 (own_Gf G 12 rfl rfl) (g := (mkF m 8 #[.val (.ref r0), .val (.int 0), .val (.int 1)] [(.ref r0)])) rfl rfl (hb hby d7_8)
  refine own_g (T2.setTop (mkF m 11 #[.val (.ref r0), .val (.int 0), .val (.int 1)] [(.int 0)])) (st2) ?_
  refine own_g (T2.setTop (mkF m 36 #[.val (.ref r0), .val (.int 0), .val (.int 1)] [])) (fun _ k => XS.ifYes X2.here hx rfl (pc0 := 11) (pc' := 36) rfl (hb hby d7_11) rfl ((if0 _ _).trans (teq (by decide : (0 : Int32) = (0 : Int32))).1) (by decide) (by decide) k) ?_
  refine own_g (T2.setTop (mkF m 37 #[.val (.ref r0), .val (.int 0), .val (.int 1)] [(.ref r0)])) (fun _ k => XS.aloadN X2.here hx rfl (hb hby d7_36) rfl rfl k) ?_
  refine own_g (T2.setTop (mkF m 38 #[.val (.ref r0), .val (.int 0), .val (.int 1)] [(.int 1), (.ref r0)])) (fun _ k => XS.iloadN X2.here hx rfl (hb hby d7_37) rfl k) ?_
  obtain ⟨T3, h3, X3, e3, W3, st3⟩ := putFN X2 hx hZ hown (own_w hw 73 rfl) Via.refl e2 (own_Gf G 12 rfl rfl) G.1 (Or.inl (own_w hw 74 rfl)) (own_w hw 6 rfl) (ty := .boolean) (v' := (.int 1)) (by decide) rfl rfl (g := (mkF m 38 #[.val (.ref r0), .val (.int 0), .val (.int 1)] [(.int 1), (.ref r0)])) rfl rfl (hb hby d7_38)
  have G3 : own_G Z h3 r0 [x0, x1, (.int (-1)), x3, (.long ln), x5, x6, x7, x8, x9, x10, x11, (.int 1), x13, x14, x15, x16, x17, x18, x19, x20, x21, x22] := own_G.put hw G 12 rfl (Nat.le_of_ble_eq_true rfl) W3
  have I3 : own_I Z h3 r0 u ku cu en EC w sa := I.wr W3 G.1
  have N3 := Fr.snoc X3 N0 gn_r0
  have Z3 : n0 ≤ h3.size := Nat.le_trans Z0 (Keep.of_wr W3).1
  have K3 : Keep h0 h3 [r0] := K0.wr W3 (Or.inl (List.mem_of_getElem? (i := 0) rfl))
  refine own_g (T3.setTop (mkF m 41 #[.val (.ref r0), .val (.int 0), .val (.int 1)] [])) (st3) ?_
  refine own_g (T3.setTop (mkF m 42 #[.val (.ref r0), .val (.int 0), .val (.int 1)] [(.ref r0)])) (fun _ k => XS.aloadN X3.here hx rfl (hb hby d7_41) rfl rfl k) ?_
  refine own_g (T3.setTop (mkF m 43 #[.val (.ref r0), .val (.int 0), .val (.int 1)] [(.int 0), (.ref r0)])) (fun _ k => XS.iloadN X3.here hx rfl (hb hby d7_42) rfl k) ?_
  obtain ⟨T4, h4, X4, e4, W4, st4⟩ := putF X3 hx hZ hown (host := "") (Or.inl (own_w hw 21 rfl)) Via.refl e3 (own_Gf G3 2 rfl rfl) G3.1 (Or.inl (own_w hw 22 rfl)) (own_w hw 6 rfl) (ty := .int) (by decide) rfl rfl (g := (mkF m 43 #[.val (.ref r0), .val (.int 0), .val (.int 1)] [(.int 0), (.ref r0)])) rfl rfl (hb hby d7_43)
  have G4 : own_G Z h4 r0 [x0, x1, (.int 0), x3, (.long ln), x5, x6, x7, x8, x9, x10, x11, (.int 1), x13, x14, x15, x16, x17, x18, x19, x20, x21, x22] := own_G.put hw G3 2 rfl (Nat.le_of_ble_eq_true rfl) W4
  have I4 : own_I Z h4 r0 u ku cu en EC w sa := I3.wr W4 G3.1
  have N4 := Fr.snoc X4 N3 gn_r0
  have Z4 : n0 ≤ h4.size := Nat.le_trans Z3 (Keep.of_wr W4).1
  have K4 : Keep h0 h4 [r0] := K3.wr W4 (Or.inl (List.mem_of_getElem? (i := 0) rfl))
  refine own_g (T4.setTop (mkF m 46 #[.val (.ref r0), .val (.int 0), .val (.int 1)] [])) (st4) ?_
  refine own_g (T4.setTop (mkF m 47 #[.val (.ref r0), .val (.int 0), .val (.int 1)] [(.ref r0)])) (fun _ k => XS.aloadN X4.here hx rfl (hb hby d7_46) rfl rfl k) ?_
  refine own_g (T4.setTop (mkF m 48 #[.val (.ref r0), .val (.int 0), .val (.int 1)] [(.ref r0), (.ref r0)])) (fun _ k => XS.aloadN X4.here hx rfl (hb hby d7_47) rfl rfl k) ?_
  obtain ⟨T5, X5, e5, st5⟩ := getF X4 hx hZ hown (host := "") (Or.inl (own_w hw 25 rfl)) Via.refl e4 (own_Gf G4 4 rfl rfl) (g := (mkF m 48 #[.val (.ref r0), .val (.int 0), .val (.int 1)] [(.ref r0), (.ref r0)])) rfl rfl (hb hby d7_48)
  refine own_g (T5.setTop (mkF m 51 #[.val (.ref r0), .val (.int 0), .val (.int 1)] [(.long ln), (.ref r0)])) (st5) ?_
  obtain ⟨T6, h6, X6, e6, W6, st6⟩ := putF X5 hx hZ hown (host := "") (Or.inl (own_w hw 23 rfl)) Via.refl e5 (own_Gf G4 3 rfl rfl) G4.1 (Or.inl (own_w hw 24 rfl)) (own_w hw 6 rfl) (ty := .long) (by decide) rfl rfl (g := (mkF m 51 #[.val (.ref r0), .val (.int 0), .val (.int 1)] [(.long ln), (.ref r0)])) rfl rfl (hb hby d7_51)
  have G6 : own_G Z h6 r0 [x0, x1, (.int 0), (.long ln), (.long ln), x5, x6, x7, x8, x9, x10, x11, (.int 1), x13, x14, x15, x16, x17, x18, x19, x20, x21, x22] := own_G.put hw G4 3 rfl (Nat.le_of_ble_eq_true rfl) W6
  have I6 : own_I Z h6 r0 u ku cu en EC w sa := I4.wr W6 G4.1
  have N6 := Fr.snoc X6 N4 gn_r0
  have Z6 : n0 ≤ h6.size := Nat.le_trans Z4 (Keep.of_wr W6).1
  have K6 : Keep h0 h6 [r0] := K4.wr W6 (Or.inl (List.mem_of_getElem? (i := 0) rfl))
  refine own_g (T6.setTop (mkF m 54 #[.val (.ref r0), .val (.int 0), .val (.int 1)] [])) (st6) ?_
  exact own_retV X6 hx Bd.returns (hb hby d7_54) Bd.notSynchronized (by decide) (by decide) (by rw [e6]; exact ⟨rfl, N6, K6, G6⟩)
theorem d6_0 : decode prog_34_method_14_code 0 = .ok (.aload_n 0, 1) := by decide +kernel
theorem d6_1 : decode prog_34_method_14_code 1 = .ok (.getfield 40, 3) := by decide +kernel
theorem d6_4 : decode prog_34_method_14_code 4 = .ok (.astore_n 3, 1) := by decide +kernel
theorem d6_5 : decode prog_34_method_14_code 5 = .ok (.iload_n 1, 1) := by decide +kernel
theorem d6_6 : decode prog_34_method_14_code 6 = .ok (.istore 4, 2) := by decide +kernel
theorem d6_8 : decode prog_34_method_14_code 8 = .ok (.iload 4, 2) := by decide +kernel
theorem d6_10 : decode prog_34_method_14_code 10 = .ok (.iload_n 2, 1) := by decide +kernel
theorem d6_11 : decode prog_34_method_14_code 11 = .ok (.if_icmp .ge 274, 3) := by decide +kernel
theorem d6_14 : decode prog_34_method_14_code 14 = .ok (.aload_n 0, 1) := by decide +kernel
theorem d6_15 : decode prog_34_method_14_code 15 = .ok (.getfield 13, 3) := by decide +kernel
theorem d6_18 : decode prog_34_method_14_code 18 = .ok (.getstatic 7, 3) := by decide +kernel
theorem d6_21 : decode prog_34_method_14_code 21 = .ok (.if_acmp .ne 111, 3) := by decide +kernel
theorem d6_24 : decode prog_34_method_14_code 24 = .ok (.aload_n 0, 1) := by decide +kernel
theorem d6_25 : decode prog_34_method_14_code 25 = .ok (.getfield 18, 3) := by decide +kernel
theorem d6_28 : decode prog_34_method_14_code 28 = .ok (.ifCond .eq 35, 3) := by decide +kernel
theorem d6_31 : decode prog_34_method_14_code 31 = .ok (.aload_n 0, 1) := by decide +kernel
theorem d6_32 : decode prog_34_method_14_code 32 = .ok (.iconst 0, 1) := by decide +kernel
theorem d6_33 : decode prog_34_method_14_code 33 = .ok (.putfield 18, 3) := by decide +kernel
theorem d6_36 : decode prog_34_method_14_code 36 = .ok (.aload_n 3, 1) := by decide +kernel
theorem d6_37 : decode prog_34_method_14_code 37 = .ok (.iload 4, 2) := by decide +kernel
theorem d6_39 : decode prog_34_method_14_code 39 = .ok (.caload, 1) := by decide +kernel
theorem d6_40 : decode prog_34_method_14_code 40 = .ok (.bipush 60, 2) := by decide +kernel
theorem d6_42 : decode prog_34_method_14_code 42 = .ok (.if_icmp .eq 21, 3) := by decide +kernel
theorem d6_63 : decode prog_34_method_14_code 63 = .ok (.iload 4, 2) := by decide +kernel
theorem d6_65 : decode prog_34_method_14_code 65 = .ok (.iload_n 2, 1) := by decide +kernel
theorem d6_66 : decode prog_34_method_14_code 66 = .ok (.if_icmp .ge 37, 3) := by decide +kernel
theorem d6_69 : decode prog_34_method_14_code 69 = .ok (.aload_n 3, 1) := by decide +kernel
theorem d6_70 : decode prog_34_method_14_code 70 = .ok (.iload 4, 2) := by decide +kernel
theorem d6_72 : decode prog_34_method_14_code 72 = .ok (.caload, 1) := by decide +kernel
theorem d6_73 : decode prog_34_method_14_code 73 = .ok (.bipush 60, 2) := by decide +kernel
theorem d6_75 : decode prog_34_method_14_code 75 = .ok (.if_icmp .eq 28, 3) := by decide +kernel
theorem d6_103 : decode prog_34_method_14_code 103 = .ok (.iload 4, 2) := by decide +kernel
theorem d6_105 : decode prog_34_method_14_code 105 = .ok (.iload_n 2, 1) := by decide +kernel
theorem d6_106 : decode prog_34_method_14_code 106 = .ok (.if_icmp .ne 6, 3) := by decide +kernel
theorem d6_112 : decode prog_34_method_14_code 112 = .ok (.aload_n 0, 1) := by decide +kernel
theorem d6_113 : decode prog_34_method_14_code 113 = .ok (.iload 4, 2) := by decide +kernel
theorem d6_115 : decode prog_34_method_14_code 115 = .ok (.iconst 1, 1) := by decide +kernel
theorem d6_116 : decode prog_34_method_14_code 116 = .ok (.invokevirtual 135, 3) := by decide +kernel
theorem d6_119 : decode prog_34_method_14_code 119 = .ok (.aload_n 0, 1) := by decide +kernel
theorem d6_120 : decode prog_34_method_14_code 120 = .ok (.getstatic 143, 3) := by decide +kernel
theorem d6_123 : decode prog_34_method_14_code 123 = .ok (.putfield 13, 3) := by decide +kernel
theorem d6_126 : decode prog_34_method_14_code 126 = .ok (.iinc 4 1, 3) := by decide +kernel
theorem d6_129 : decode prog_34_method_14_code 129 = .ok (.goto (-121), 3) := by decide +kernel
theorem d6_132 : decode prog_34_method_14_code 132 = .ok (.aload_n 0, 1) := by decide +kernel
theorem d6_133 : decode prog_34_method_14_code 133 = .ok (.getfield 13, 3) := by decide +kernel
theorem d6_136 : decode prog_34_method_14_code 136 = .ok (.getstatic 143, 3) := by decide +kernel
theorem d6_139 : decode prog_34_method_14_code 139 = .ok (.if_acmp .ne 121, 3) := by decide +kernel
theorem d6_142 : decode prog_34_method_14_code 142 = .ok (.aload_n 3, 1) := by decide +kernel
theorem d6_143 : decode prog_34_method_14_code 143 = .ok (.iload 4, 2) := by decide +kernel
theorem d6_145 : decode prog_34_method_14_code 145 = .ok (.caload, 1) := by decide +kernel
theorem d6_146 : decode prog_34_method_14_code 146 = .ok (.istore 5, 2) := by decide +kernel
theorem d6_148 : decode prog_34_method_14_code 148 = .ok (.iload 5, 2) := by decide +kernel
theorem d6_150 : decode prog_34_method_14_code 150 = .ok (.bipush 33, 2) := by decide +kernel
theorem d6_152 : decode prog_34_method_14_code 152 = .ok (.if_icmp .ne 15, 3) := by decide +kernel
theorem d6_155 : decode prog_34_method_14_code 155 = .ok (.aload_n 0, 1) := by decide +kernel
theorem d6_156 : decode prog_34_method_14_code 156 = .ok (.getstatic 146, 3) := by decide +kernel
theorem d6_159 : decode prog_34_method_14_code 159 = .ok (.putfield 13, 3) := by decide +kernel
theorem d6_162 : decode prog_34_method_14_code 162 = .ok (.iload 4, 2) := by decide +kernel
theorem d6_164 : decode prog_34_method_14_code 164 = .ok (.iconst 1, 1) := by decide +kernel
theorem d6_165 : decode prog_34_method_14_code 165 = .ok (.iadd, 1) := by decide +kernel
theorem d6_166 : decode prog_34_method_14_code 166 = .ok (.ireturn, 1) := by decide +kernel
theorem pn6 : plainName "com/example/corridor/corridor/iso20022/MarkupScanner" = true := by first | (simp [plainName, overriddenIn]; done) | decide +kernel
theorem pd3 : parseMethodDescriptor "(IZ)V" = some ⟨[.int, .boolean], none⟩ := by decide +kernel
theorem ef_cont (m : MethodId) (r0 : Addr) : entryFrame m #[(.ref r0), (.int 0), (.int 10)] 6 = mkF m 0 #[.val (.ref r0), .val (.int 0), .val (.int 10), .unset, .unset, .unset] [] := by first | (simp [entryFrame, mkF, argsToLocals, Value.category]; done) | rfl
set_option maxRecDepth 65536 in
set_option maxHeartbeats 40000000 in
theorem cont (l : Launch) (Z : State) (a0 : Array Value) (hw : ∀ d ∈ tables_1, d.before a0 Z = true) (ws : List Jvm.Cond) (r0 : Addr) (u : Addr) (ku : ClassId) (cu : Int32) (en : Addr) (EC : String) (w : Int32) (sa : Nat → Addr) (x3 : Value) (ln : Int64) (x6 : Value) (x7 : Value) (x8 : Value) (x9 : Value) (x10 : Value) (x11 : Value) (x13 : Value) (x14 : Value) (x15 : Value) (x16 : Value) (x17 : Value) (x18 : Value) (x19 : Value) (x20 : Value) (x21 : Value) (x22 : Value) (h0 : Heap) (n0 : Nat) (Z0 : n0 ≤ h0.size) (I : own_I Z h0 r0 u ku cu en EC w sa) (G : own_G Z h0 r0 [(.ref (sa 0)), (.int 1), (.int (-1)), x3, (.long ln), (.ref u), x6, x7, x8, x9, x10, x11, (.int 0), x13, x14, x15, x16, x17, x18, x19, x20, x21, x22]) (gn_r0 : n0 ≤ r0) :
    MetFree l (⟨"com/example/corridor/corridor/iso20022/MarkupScanner", "content", "(II)I"⟩ : MethodName) (head1 (Jvm.Cond.code (⟨"com/example/corridor/corridor/iso20022/MarkupScanner", "content", "(II)I"⟩ : MethodName) prog_34_method_14_code 6 (some .int) :: ws) ({ frames := 1, cells := 0, slots := 0, locals := 14 } : Room)) (fun a U => a = #[(.ref r0), (.int 0), (.int 10)] ∧ Z.Warmed39 U.vm ∧ U.heap = h0) (fun _ _ _ _ _ => True) (fun _ U o U' => ∃ v L, o = .returned v ∧ (own_QG Z r0 n0 h0 (some (.int 2)) [(.ref (sa 3)), (.int 0), (.int 0), (.long ln), (.long ln), (.ref u), x6, x7, x8, x9, x10, x11, (.int 1), x13, x14, x15, x16, x17, x18, x19, x20, x21, x22]) v U'.heap L ∧ FrameEnd U o U' L 0 0) := by
  refine MetFree.of_bodySF (plainFor_of_name pn6) hisR ?_
  intro p e s m args below meth c s₁ Bd hml0 hP hK
  obtain ⟨rfl, hZ, hh⟩ := hP
  have hx := Bd.exec
  have hby := Bd.bytes
  have hml : c.maxLocals = 6 := hml0
  have hown : s.vm.findClass "com/example/corridor/corridor/iso20022/MarkupScanner" = some m.cls := findClass_of_methodNamed Bd.named
  have hnm := (name_of_methodNamed Bd.named Bd.method).1
  have X0 : Stand p l e ({ frames := 1, cells := 0, slots := 0, locals := 14 } : Room) s m #[(.ref r0), (.int 0), (.int 10)] below meth c s₁ [] 0 0 := Stand.of_body Bd
  have e0 : s₁.heap = h0 := by rw [← hh, Bd.state]; rfl
  have N0 := Fr.nil n0
  have K0 : Keep h0 h0 [r0] := Keep.refl h0 [r0]
  show own_Goes p e below (own_End s (own_QG Z r0 n0 h0 (some (.int 2)) [(.ref (sa 3)), (.int 0), (.int 0), (.long ln), (.long ln), (.ref u), x6, x7, x8, x9, x10, x11, (.int 1), x13, x14, x15, x16, x17, x18, x19, x20, x21, x22]) 0 0) _
  refine own_g (s₁.setTop (mkF m 0 #[.val (.ref r0), .val (.int 0), .val (.int 10), .unset, .unset, .unset] [])) (fun t k => castTop (ef_cont m r0) k) ?_
  refine own_g (s₁.setTop (mkF m 1 #[.val (.ref r0), .val (.int 0), .val (.int 10), .unset, .unset, .unset] [(.ref r0)])) (fun _ k => XS.aloadN X0.here hx rfl (hb hby d6_0) rfl rfl k) ?_
  obtain ⟨T1, X1, e1, st1⟩ := getF X0 hx hZ hown (host := "") (Or.inl (own_w hw 32 rfl)) Via.refl e0 (own_Gf G 5 rfl rfl) (g := (mkF m 1 #[.val (.ref r0), .val (.int 0), .val (.int 10), .unset, .unset, .unset] [(.ref r0)])) rfl rfl (hb hby d6_1)
  refine own_g (T1.setTop (mkF m 4 #[.val (.ref r0), .val (.int 0), .val (.int 10), .unset, .unset, .unset] [(.ref u)])) (st1) ?_
  refine own_g (T1.setTop (mkF m 5 #[.val (.ref r0), .val (.int 0), .val (.int 10), .val (.ref u), .unset, .unset] [])) (fun _ k => XS.astoreN X1.here hx rfl (hb hby d6_4) rfl rfl (l' := #[.val (.ref r0), .val (.int 0), .val (.int 10), .val (.ref u), .unset, .unset]) rfl k) ?_
  refine own_g (T1.setTop (mkF m 6 #[.val (.ref r0), .val (.int 0), .val (.int 10), .val (.ref u), .unset, .unset] [(.int 0)])) (fun _ k => XS.iloadN X1.here hx rfl (hb hby d6_5) rfl k) ?_
  refine own_g (T1.setTop (mkF m 8 #[.val (.ref r0), .val (.int 0), .val (.int 10), .val (.ref u), .val (.int 0), .unset] [])) (fun _ k => XS.istore X1.here hx rfl (hb hby d6_6) rfl (l' := #[.val (.ref r0), .val (.int 0), .val (.int 10), .val (.ref u), .val (.int 0), .unset]) rfl k) ?_
  refine own_g (T1.setTop (mkF m 10 #[.val (.ref r0), .val (.int 0), .val (.int 10), .val (.ref u), .val (.int 0), .unset] [(.int 0)])) (fun _ k => XS.iload X1.here hx rfl (hb hby d6_8) rfl k) ?_
  refine own_g (T1.setTop (mkF m 11 #[.val (.ref r0), .val (.int 0), .val (.int 10), .val (.ref u), .val (.int 0), .unset] [(.int 10), (.int 0)])) (fun _ k => XS.iloadN X1.here hx rfl (hb hby d6_10) rfl k) ?_
  refine own_g (T1.setTop (mkF m 14 #[.val (.ref r0), .val (.int 0), .val (.int 10), .val (.ref u), .val (.int 0), .unset] [])) (fun _ k => XS.icmpNo X1.here hx rfl (hb hby d6_11) rfl (tlt (by decide : (0 : Int32) < (10 : Int32))).2.1 k) ?_
  refine own_g (T1.setTop (mkF m 15 #[.val (.ref r0), .val (.int 0), .val (.int 10), .val (.ref u), .val (.int 0), .unset] [(.ref r0)])) (fun _ k => XS.aloadN X1.here hx rfl (hb hby d6_14) rfl rfl k) ?_
  obtain ⟨T2, X2, e2, st2⟩ := getF X1 hx hZ hown (host := "") (Or.inl (own_w hw 17 rfl)) Via.refl e1 (own_Gf G 0 rfl rfl) (g := (mkF m 15 #[.val (.ref r0), .val (.int 0), .val (.int 10), .val (.ref u), .val (.int 0), .unset] [(.ref r0)])) rfl rfl (hb hby d6_15)
  refine own_g (T2.setTop (mkF m 18 #[.val (.ref r0), .val (.int 0), .val (.int 10), .val (.ref u), .val (.int 0), .unset] [(.ref (sa 0))])) (st2) ?_
  obtain ⟨T3, X3, e3, st3⟩ := getS2 X2 hx hZ hown (host := "") (Or.inl (own_w hw 14 rfl)) Via.refl e2 (show Sta Z h0 "com/example/corridor/corridor/iso20022/MarkupScanner$State" "TEXT" "Lcom/example/corridor/corridor/iso20022/MarkupScanner$State;" (.ref (sa 0)) from (I.1 0 _ rfl).1) (g := (mkF m 18 #[.val (.ref r0), .val (.int 0), .val (.int 10), .val (.ref u), .val (.int 0), .unset] [(.ref (sa 0))])) rfl (hb hby d6_18)
  refine own_g (T3.setTop (mkF m 21 #[.val (.ref r0), .val (.int 0), .val (.int 10), .val (.ref u), .val (.int 0), .unset] [(.ref (sa 0)), (.ref (sa 0))])) (st3) ?_
  refine own_g (T3.setTop (mkF m 24 #[.val (.ref r0), .val (.int 0), .val (.int 10), .val (.ref u), .val (.int 0), .unset] [])) (fun _ k => Jvm.RoadKit.acmp (g := (mkF m 21 #[.val (.ref r0), .val (.int 0), .val (.int 10), .val (.ref u), .val (.int 0), .unset] [(.ref (sa 0)), (.ref (sa 0))])) X3 hx rfl rfl rfl (pc0 := 21) (pc' := 24) (same := true) rfl (hb hby d6_21) rfl (decide_eq_true rfl) (by decide) (by decide) k) ?_
  refine own_g (T3.setTop (mkF m 25 #[.val (.ref r0), .val (.int 0), .val (.int 10), .val (.ref u), .val (.int 0), .unset] [(.ref r0)])) (fun _ k => XS.aloadN X3.here hx rfl (hb hby d6_24) rfl rfl k) ?_
  obtain ⟨T4, X4, e4, st4⟩ := getF X3 hx hZ hown (host := "") (Or.inl (own_w hw 19 rfl)) Via.refl e3 (own_Gf G 1 rfl rfl) (g := (mkF m 25 #[.val (.ref r0), .val (.int 0), .val (.int 10), .val (.ref u), .val (.int 0), .unset] [(.ref r0)])) rfl rfl (hb hby d6_25)
  refine own_g (T4.setTop (mkF m 28 #[.val (.ref r0), .val (.int 0), .val (.int 10), .val (.ref u), .val (.int 0), .unset] [(.int 1)])) (st4) ?_
  refine own_g (T4.setTop (mkF m 31 #[.val (.ref r0), .val (.int 0), .val (.int 10), .val (.ref u), .val (.int 0), .unset] [])) (fun _ k => XS.ifNo X4.here hx rfl (hb hby d6_28) rfl ((if0 _ _).trans (feq (by decide : ¬ ((1 : Int32) = (0 : Int32)))).1) k) ?_
  refine own_g (T4.setTop (mkF m 32 #[.val (.ref r0), .val (.int 0), .val (.int 10), .val (.ref u), .val (.int 0), .unset] [(.ref r0)])) (fun _ k => XS.aloadN X4.here hx rfl (hb hby d6_31) rfl rfl k) ?_
  refine own_g (T4.setTop (mkF m 33 #[.val (.ref r0), .val (.int 0), .val (.int 10), .val (.ref u), .val (.int 0), .unset] [(.int 0), (.ref r0)])) (fun _ k => XS.iconst X4.here hx rfl (hb hby d6_32) k) ?_
  obtain ⟨T5, h5, X5, e5, W5, st5⟩ := putFN X4 hx hZ hown (own_w hw 19 rfl) Via.refl e4 (own_Gf G 1 rfl rfl) G.1 (Or.inl (own_w hw 20 rfl)) (own_w hw 6 rfl) (ty := .boolean) (v' := (.int 0)) (by decide) rfl rfl (g := (mkF m 33 #[.val (.ref r0), .val (.int 0), .val (.int 10), .val (.ref u), .val (.int 0), .unset] [(.int 0), (.ref r0)])) rfl rfl (hb hby d6_33)
  have G5 : own_G Z h5 r0 [(.ref (sa 0)), (.int 0), (.int (-1)), x3, (.long ln), (.ref u), x6, x7, x8, x9, x10, x11, (.int 0), x13, x14, x15, x16, x17, x18, x19, x20, x21, x22] := own_G.put hw G 1 rfl (Nat.le_of_ble_eq_true rfl) W5
  have I5 : own_I Z h5 r0 u ku cu en EC w sa := I.wr W5 G.1
  have N5 := Fr.snoc X5 N0 gn_r0
  have Z5 : n0 ≤ h5.size := Nat.le_trans Z0 (Keep.of_wr W5).1
  have K5 : Keep h0 h5 [r0] := K0.wr W5 (Or.inl (List.mem_of_getElem? (i := 0) rfl))
  refine own_g (T5.setTop (mkF m 36 #[.val (.ref r0), .val (.int 0), .val (.int 10), .val (.ref u), .val (.int 0), .unset] [])) (st5) ?_
  refine own_g (T5.setTop (mkF m 37 #[.val (.ref r0), .val (.int 0), .val (.int 10), .val (.ref u), .val (.int 0), .unset] [(.ref u)])) (fun _ k => XS.aloadN X5.here hx rfl (hb hby d6_36) rfl rfl k) ?_
  refine own_g (T5.setTop (mkF m 39 #[.val (.ref r0), .val (.int 0), .val (.int 10), .val (.ref u), .val (.int 0), .unset] [(.int 0), (.ref u)])) (fun _ k => XS.iload X5.here hx rfl (hb hby d6_37) rfl k) ?_
  obtain ⟨cl6, Ar6, hin6, hat6⟩ := own_I.at I5 (0 : Int32) (by decide) (by decide)
  refine own_g (T5.setTop (mkF m 40 #[.val (.ref r0), .val (.int 0), .val (.int 10), .val (.ref u), .val (.int 0), .unset] [(.int 60)])) (X5.caload hx (j := (0 : Int32)) (v := (.int 60)) (by rw [e5]; exact Ar6.1) (State.isArrayOf_alike hZ.alike Ar6.2.1) Ar6.2.2 hin6 hat6 (g := (mkF m 39 #[.val (.ref r0), .val (.int 0), .val (.int 10), .val (.ref u), .val (.int 0), .unset] [(.int 0), (.ref u)])) rfl rfl (hb hby d6_39)) ?_
  refine own_g (T5.setTop (mkF m 42 #[.val (.ref r0), .val (.int 0), .val (.int 10), .val (.ref u), .val (.int 0), .unset] [(.int 60), (.int 60)])) (fun _ k => XS.bipush X5.here hx rfl (hb hby d6_40) k) ?_
  refine own_g (T5.setTop (mkF m 63 #[.val (.ref r0), .val (.int 0), .val (.int 10), .val (.ref u), .val (.int 0), .unset] [])) (fun _ k => XS.icmpYes X5.here hx rfl (pc0 := 42) (pc' := 63) rfl (hb hby d6_42) rfl (teq (by decide : (60 : Int32) = (60 : Int32))).1 (by decide) (by decide) k) ?_
  refine own_g (T5.setTop (mkF m 65 #[.val (.ref r0), .val (.int 0), .val (.int 10), .val (.ref u), .val (.int 0), .unset] [(.int 0)])) (fun _ k => XS.iload X5.here hx rfl (hb hby d6_63) rfl k) ?_
  refine own_g (T5.setTop (mkF m 66 #[.val (.ref r0), .val (.int 0), .val (.int 10), .val (.ref u), .val (.int 0), .unset] [(.int 10), (.int 0)])) (fun _ k => XS.iloadN X5.here hx rfl (hb hby d6_65) rfl k) ?_
  refine own_g (T5.setTop (mkF m 69 #[.val (.ref r0), .val (.int 0), .val (.int 10), .val (.ref u), .val (.int 0), .unset] [])) (fun _ k => XS.icmpNo X5.here hx rfl (hb hby d6_66) rfl (tlt (by decide : (0 : Int32) < (10 : Int32))).2.1 k) ?_
  refine own_g (T5.setTop (mkF m 70 #[.val (.ref r0), .val (.int 0), .val (.int 10), .val (.ref u), .val (.int 0), .unset] [(.ref u)])) (fun _ k => XS.aloadN X5.here hx rfl (hb hby d6_69) rfl rfl k) ?_
  refine own_g (T5.setTop (mkF m 72 #[.val (.ref r0), .val (.int 0), .val (.int 10), .val (.ref u), .val (.int 0), .unset] [(.int 0), (.ref u)])) (fun _ k => XS.iload X5.here hx rfl (hb hby d6_70) rfl k) ?_
  obtain ⟨cl7, Ar7, hin7, hat7⟩ := own_I.at I5 (0 : Int32) (by decide) (by decide)
  refine own_g (T5.setTop (mkF m 73 #[.val (.ref r0), .val (.int 0), .val (.int 10), .val (.ref u), .val (.int 0), .unset] [(.int 60)])) (X5.caload hx (j := (0 : Int32)) (v := (.int 60)) (by rw [e5]; exact Ar7.1) (State.isArrayOf_alike hZ.alike Ar7.2.1) Ar7.2.2 hin7 hat7 (g := (mkF m 72 #[.val (.ref r0), .val (.int 0), .val (.int 10), .val (.ref u), .val (.int 0), .unset] [(.int 0), (.ref u)])) rfl rfl (hb hby d6_72)) ?_
  refine own_g (T5.setTop (mkF m 75 #[.val (.ref r0), .val (.int 0), .val (.int 10), .val (.ref u), .val (.int 0), .unset] [(.int 60), (.int 60)])) (fun _ k => XS.bipush X5.here hx rfl (hb hby d6_73) k) ?_
  refine own_g (T5.setTop (mkF m 103 #[.val (.ref r0), .val (.int 0), .val (.int 10), .val (.ref u), .val (.int 0), .unset] [])) (fun _ k => XS.icmpYes X5.here hx rfl (pc0 := 75) (pc' := 103) rfl (hb hby d6_75) rfl (teq (by decide : (60 : Int32) = (60 : Int32))).1 (by decide) (by decide) k) ?_
  refine own_g (T5.setTop (mkF m 105 #[.val (.ref r0), .val (.int 0), .val (.int 10), .val (.ref u), .val (.int 0), .unset] [(.int 0)])) (fun _ k => XS.iload X5.here hx rfl (hb hby d6_103) rfl k) ?_
  refine own_g (T5.setTop (mkF m 106 #[.val (.ref r0), .val (.int 0), .val (.int 10), .val (.ref u), .val (.int 0), .unset] [(.int 10), (.int 0)])) (fun _ k => XS.iloadN X5.here hx rfl (hb hby d6_105) rfl k) ?_
  refine own_g (T5.setTop (mkF m 112 #[.val (.ref r0), .val (.int 0), .val (.int 10), .val (.ref u), .val (.int 0), .unset] [])) (fun _ k => XS.icmpYes X5.here hx rfl (pc0 := 106) (pc' := 112) rfl (hb hby d6_106) rfl (feq (by decide : ¬ ((0 : Int32) = (10 : Int32)))).2 (by decide) (by decide) k) ?_
  refine own_g (T5.setTop (mkF m 113 #[.val (.ref r0), .val (.int 0), .val (.int 10), .val (.ref u), .val (.int 0), .unset] [(.ref r0)])) (fun _ k => XS.aloadN X5.here hx rfl (hb hby d6_112) rfl rfl k) ?_
  refine own_g (T5.setTop (mkF m 115 #[.val (.ref r0), .val (.int 0), .val (.int 10), .val (.ref u), .val (.int 0), .unset] [(.int 0), (.ref r0)])) (fun _ k => XS.iload X5.here hx rfl (hb hby d6_113) rfl k) ?_
  refine own_g (T5.setTop (mkF m 116 #[.val (.ref r0), .val (.int 0), .val (.int 10), .val (.ref u), .val (.int 0), .unset] [(.int 1), (.int 0), (.ref r0)])) (fun _ k => XS.iconst X5.here hx rfl (hb hby d6_115) k) ?_
  obtain ⟨cq8, qk8, qk8'⟩ := G5.1.cell
  obtain ⟨_, _, ⟨T8, L8, k8, n8⟩, -, X8, ⟨Lc8, hQ8, l8, y8, z8⟩, st8⟩ := X5.privateBack hx (y := (⟨"com/example/corridor/corridor/iso20022/MarkupScanner", "begin", "(IZ)V"⟩ : MethodName)) hown (mvT hZ (own_w hw 69 rfl)) (mvT hZ (own_w hw 70 rfl)) (mvT hZ (own_selPriv (own_w hw 70 rfl) (own_w hw 71 rfl) (own_w hw 30 rfl) rfl (by decide))) (Cond.privateMethod_at (mvP hZ (own_w hw 71 rfl) (args := #[]))) (mvT hZ (own_w hw 72 rfl)) (by decide) (backOf (W := 0) (beg l Z a0 hw [] r0 u ku cu en EC w sa (.ref (sa 0)) (.int 0) x3 ln (.ref u) x6 x7 x8 x9 x10 x11 x13 x14 x15 x16 x17 x18 x19 x20 x21 x22 h5 n0 Z5 I5 G5 gn_r0) hZ (own_w hw 72 rfl) (own_w hw 7 rfl) (by decide) (by decide)) (g := (mkF m 116 #[.val (.ref r0), .val (.int 0), .val (.int 10), .val (.ref u), .val (.int 0), .unset] [(.int 1), (.int 0), (.ref r0)])) rfl (by rw [hml]; rfl) (Steps.refl _) (a := r0) (by rw [e5]; exact qk8) qk8' (argsL := [(.int 0), (.int 1)]) (rest := []) (lenOf pd3 rfl) rfl (by show 2 * 0 + _ ≤ _; exact Nat.le_of_eq rfl) (hb hby d6_116) (fun _ _ => ⟨rfl, e5, (by decide : 0 + 0 ≤ _), (by decide : 0 + 0 ≤ _)⟩)
  dsimp only [Pt.U, Pt.locs, Pt.cells, Pt.slots] at X8 l8 y8 z8 st8 hQ8
  subst l8 y8 z8
  obtain ⟨rfl, Nq8, Kq8, Gq8⟩ := hQ8
  have N8 := Fr.app N5 Nq8
  have I8 : own_I Z T8.heap r0 u ku cu en EC w sa := I5.keep Kq8 G5.1
  have G8 : own_G Z T8.heap r0 [(.ref (sa 0)), (.int 0), (.int 0), (.long ln), (.long ln), (.ref u), x6, x7, x8, x9, x10, x11, (.int 1), x13, x14, x15, x16, x17, x18, x19, x20, x21, x22] := Gq8
  have Z8 : n0 ≤ T8.heap.size := Nat.le_trans Z5 Kq8.1
  have K8 : Keep h0 T8.heap [r0] := K5.trans Kq8 (allS (Or.inl (List.mem_of_getElem? (i := 0) rfl)) all0)
  refine own_g (T8.setTop (mkF m 119 #[.val (.ref r0), .val (.int 0), .val (.int 10), .val (.ref u), .val (.int 0), .unset] [])) (fun _ k => st8.trans k) ?_
  refine own_g (T8.setTop (mkF m 120 #[.val (.ref r0), .val (.int 0), .val (.int 10), .val (.ref u), .val (.int 0), .unset] [(.ref r0)])) (fun _ k => XS.aloadN X8.here hx rfl (hb hby d6_119) rfl rfl k) ?_
  obtain ⟨T9, X9, e9, st9⟩ := getS2 X8 hx hZ hown (host := "") (Or.inl (own_w hw 75 rfl)) Via.refl rfl (show Sta Z T8.heap "com/example/corridor/corridor/iso20022/MarkupScanner$State" "OPEN" "Lcom/example/corridor/corridor/iso20022/MarkupScanner$State;" (.ref (sa 1)) from (I8.1 1 _ rfl).1) (g := (mkF m 120 #[.val (.ref r0), .val (.int 0), .val (.int 10), .val (.ref u), .val (.int 0), .unset] [(.ref r0)])) rfl (hb hby d6_120)
  refine own_g (T9.setTop (mkF m 123 #[.val (.ref r0), .val (.int 0), .val (.int 10), .val (.ref u), .val (.int 0), .unset] [(.ref (sa 1)), (.ref r0)])) (st9) ?_
  obtain ⟨T10, h10, X10, e10, W10, st10⟩ := putF X9 hx hZ hown (host := "") (Or.inl (own_w hw 17 rfl)) Via.refl e9 (own_Gf G8 0 rfl rfl) G8.1 (Or.inl (own_w hw 18 rfl)) (own_w hw 6 rfl) (ty := (.object "com/example/corridor/corridor/iso20022/MarkupScanner$State")) (by decide) rfl rfl (g := (mkF m 123 #[.val (.ref r0), .val (.int 0), .val (.int 10), .val (.ref u), .val (.int 0), .unset] [(.ref (sa 1)), (.ref r0)])) rfl rfl (hb hby d6_123)
  have G10 : own_G Z h10 r0 [(.ref (sa 1)), (.int 0), (.int 0), (.long ln), (.long ln), (.ref u), x6, x7, x8, x9, x10, x11, (.int 1), x13, x14, x15, x16, x17, x18, x19, x20, x21, x22] := own_G.put hw G8 0 rfl (Nat.le_of_ble_eq_true rfl) W10
  have I10 : own_I Z h10 r0 u ku cu en EC w sa := I8.wr W10 G8.1
  have N10 := Fr.snoc X10 N8 gn_r0
  have Z10 : n0 ≤ h10.size := Nat.le_trans Z8 (Keep.of_wr W10).1
  have K10 : Keep h0 h10 [r0] := K8.wr W10 (Or.inl (List.mem_of_getElem? (i := 0) rfl))
  refine own_g (T10.setTop (mkF m 126 #[.val (.ref r0), .val (.int 0), .val (.int 10), .val (.ref u), .val (.int 0), .unset] [])) (st10) ?_
  refine own_g (T10.setTop (mkF m 129 #[.val (.ref r0), .val (.int 0), .val (.int 10), .val (.ref u), .val (.int ((0 : Int32) + (1 : Int32))), .unset] [])) (fun _ k => XS.iinc X10.here hx rfl (hb hby d6_126) rfl (l' := #[.val (.ref r0), .val (.int 0), .val (.int 10), .val (.ref u), .val (.int ((0 : Int32) + (1 : Int32))), .unset]) rfl k) ?_
  rw [show ((0 : Int32) + (1 : Int32)) = (1 : Int32) from by decide]
  refine own_g (T10.setTop (mkF m 8 #[.val (.ref r0), .val (.int 0), .val (.int 10), .val (.ref u), .val (.int 1), .unset] [])) (fun _ k => XS.goto X10.here hx rfl (pc0 := 129) (pc' := 8) rfl (hb hby d6_129) (by decide) (by decide) k) ?_
  refine own_g (T10.setTop (mkF m 10 #[.val (.ref r0), .val (.int 0), .val (.int 10), .val (.ref u), .val (.int 1), .unset] [(.int 1)])) (fun _ k => XS.iload X10.here hx rfl (hb hby d6_8) rfl k) ?_
  refine own_g (T10.setTop (mkF m 11 #[.val (.ref r0), .val (.int 0), .val (.int 10), .val (.ref u), .val (.int 1), .unset] [(.int 10), (.int 1)])) (fun _ k => XS.iloadN X10.here hx rfl (hb hby d6_10) rfl k) ?_
  refine own_g (T10.setTop (mkF m 14 #[.val (.ref r0), .val (.int 0), .val (.int 10), .val (.ref u), .val (.int 1), .unset] [])) (fun _ k => XS.icmpNo X10.here hx rfl (hb hby d6_11) rfl (tlt (by decide : (1 : Int32) < (10 : Int32))).2.1 k) ?_
  refine own_g (T10.setTop (mkF m 15 #[.val (.ref r0), .val (.int 0), .val (.int 10), .val (.ref u), .val (.int 1), .unset] [(.ref r0)])) (fun _ k => XS.aloadN X10.here hx rfl (hb hby d6_14) rfl rfl k) ?_
  obtain ⟨T11, X11, e11, st11⟩ := getF X10 hx hZ hown (host := "") (Or.inl (own_w hw 17 rfl)) Via.refl e10 (own_Gf G10 0 rfl rfl) (g := (mkF m 15 #[.val (.ref r0), .val (.int 0), .val (.int 10), .val (.ref u), .val (.int 1), .unset] [(.ref r0)])) rfl rfl (hb hby d6_15)
  refine own_g (T11.setTop (mkF m 18 #[.val (.ref r0), .val (.int 0), .val (.int 10), .val (.ref u), .val (.int 1), .unset] [(.ref (sa 1))])) (st11) ?_
  obtain ⟨T12, X12, e12, st12⟩ := getS2 X11 hx hZ hown (host := "") (Or.inl (own_w hw 14 rfl)) Via.refl e11 (show Sta Z h10 "com/example/corridor/corridor/iso20022/MarkupScanner$State" "TEXT" "Lcom/example/corridor/corridor/iso20022/MarkupScanner$State;" (.ref (sa 0)) from (I10.1 0 _ rfl).1) (g := (mkF m 18 #[.val (.ref r0), .val (.int 0), .val (.int 10), .val (.ref u), .val (.int 1), .unset] [(.ref (sa 1))])) rfl (hb hby d6_18)
  refine own_g (T12.setTop (mkF m 21 #[.val (.ref r0), .val (.int 0), .val (.int 10), .val (.ref u), .val (.int 1), .unset] [(.ref (sa 0)), (.ref (sa 1))])) (st12) ?_
  refine own_g (T12.setTop (mkF m 132 #[.val (.ref r0), .val (.int 0), .val (.int 10), .val (.ref u), .val (.int 1), .unset] [])) (fun _ k => Jvm.RoadKit.acmp (g := (mkF m 21 #[.val (.ref r0), .val (.int 0), .val (.int 10), .val (.ref u), .val (.int 1), .unset] [(.ref (sa 0)), (.ref (sa 1))])) X12 hx rfl rfl rfl (pc0 := 21) (pc' := 132) (same := false) rfl (hb hby d6_21) rfl (decide_eq_false fun q => own_I.ne I10 1 0 rfl rfl (by decide) (Value.ref.inj q)) (by decide) (by decide) k) ?_
  refine own_g (T12.setTop (mkF m 133 #[.val (.ref r0), .val (.int 0), .val (.int 10), .val (.ref u), .val (.int 1), .unset] [(.ref r0)])) (fun _ k => XS.aloadN X12.here hx rfl (hb hby d6_132) rfl rfl k) ?_
  obtain ⟨T13, X13, e13, st13⟩ := getF X12 hx hZ hown (host := "") (Or.inl (own_w hw 17 rfl)) Via.refl e12 (own_Gf G10 0 rfl rfl) (g := (mkF m 133 #[.val (.ref r0), .val (.int 0), .val (.int 10), .val (.ref u), .val (.int 1), .unset] [(.ref r0)])) rfl rfl (hb hby d6_133)
  refine own_g (T13.setTop (mkF m 136 #[.val (.ref r0), .val (.int 0), .val (.int 10), .val (.ref u), .val (.int 1), .unset] [(.ref (sa 1))])) (st13) ?_
  obtain ⟨T14, X14, e14, st14⟩ := getS2 X13 hx hZ hown (host := "") (Or.inl (own_w hw 75 rfl)) Via.refl e13 (show Sta Z h10 "com/example/corridor/corridor/iso20022/MarkupScanner$State" "OPEN" "Lcom/example/corridor/corridor/iso20022/MarkupScanner$State;" (.ref (sa 1)) from (I10.1 1 _ rfl).1) (g := (mkF m 136 #[.val (.ref r0), .val (.int 0), .val (.int 10), .val (.ref u), .val (.int 1), .unset] [(.ref (sa 1))])) rfl (hb hby d6_136)
  refine own_g (T14.setTop (mkF m 139 #[.val (.ref r0), .val (.int 0), .val (.int 10), .val (.ref u), .val (.int 1), .unset] [(.ref (sa 1)), (.ref (sa 1))])) (st14) ?_
  refine own_g (T14.setTop (mkF m 142 #[.val (.ref r0), .val (.int 0), .val (.int 10), .val (.ref u), .val (.int 1), .unset] [])) (fun _ k => Jvm.RoadKit.acmp (g := (mkF m 139 #[.val (.ref r0), .val (.int 0), .val (.int 10), .val (.ref u), .val (.int 1), .unset] [(.ref (sa 1)), (.ref (sa 1))])) X14 hx rfl rfl rfl (pc0 := 139) (pc' := 142) (same := true) rfl (hb hby d6_139) rfl (decide_eq_true rfl) (by decide) (by decide) k) ?_
  refine own_g (T14.setTop (mkF m 143 #[.val (.ref r0), .val (.int 0), .val (.int 10), .val (.ref u), .val (.int 1), .unset] [(.ref u)])) (fun _ k => XS.aloadN X14.here hx rfl (hb hby d6_142) rfl rfl k) ?_
  refine own_g (T14.setTop (mkF m 145 #[.val (.ref r0), .val (.int 0), .val (.int 10), .val (.ref u), .val (.int 1), .unset] [(.int 1), (.ref u)])) (fun _ k => XS.iload X14.here hx rfl (hb hby d6_143) rfl k) ?_
  obtain ⟨cl15, Ar15, hin15, hat15⟩ := own_I.at I10 (1 : Int32) (by decide) (by decide)
  refine own_g (T14.setTop (mkF m 146 #[.val (.ref r0), .val (.int 0), .val (.int 10), .val (.ref u), .val (.int 1), .unset] [(.int 33)])) (X14.caload hx (j := (1 : Int32)) (v := (.int 33)) (by rw [e14]; exact Ar15.1) (State.isArrayOf_alike hZ.alike Ar15.2.1) Ar15.2.2 hin15 hat15 (g := (mkF m 145 #[.val (.ref r0), .val (.int 0), .val (.int 10), .val (.ref u), .val (.int 1), .unset] [(.int 1), (.ref u)])) rfl rfl (hb hby d6_145)) ?_
  refine own_g (T14.setTop (mkF m 148 #[.val (.ref r0), .val (.int 0), .val (.int 10), .val (.ref u), .val (.int 1), .val (.int 33)] [])) (fun _ k => XS.istore X14.here hx rfl (hb hby d6_146) rfl (l' := #[.val (.ref r0), .val (.int 0), .val (.int 10), .val (.ref u), .val (.int 1), .val (.int 33)]) rfl k) ?_
  refine own_g (T14.setTop (mkF m 150 #[.val (.ref r0), .val (.int 0), .val (.int 10), .val (.ref u), .val (.int 1), .val (.int 33)] [(.int 33)])) (fun _ k => XS.iload X14.here hx rfl (hb hby d6_148) rfl k) ?_
  refine own_g (T14.setTop (mkF m 152 #[.val (.ref r0), .val (.int 0), .val (.int 10), .val (.ref u), .val (.int 1), .val (.int 33)] [(.int 33), (.int 33)])) (fun _ k => XS.bipush X14.here hx rfl (hb hby d6_150) k) ?_
  refine own_g (T14.setTop (mkF m 155 #[.val (.ref r0), .val (.int 0), .val (.int 10), .val (.ref u), .val (.int 1), .val (.int 33)] [])) (fun _ k => XS.icmpNo X14.here hx rfl (hb hby d6_152) rfl (teq (by decide : (33 : Int32) = (33 : Int32))).2 k) ?_
  refine own_g (T14.setTop (mkF m 156 #[.val (.ref r0), .val (.int 0), .val (.int 10), .val (.ref u), .val (.int 1), .val (.int 33)] [(.ref r0)])) (fun _ k => XS.aloadN X14.here hx rfl (hb hby d6_155) rfl rfl k) ?_
  obtain ⟨T16, X16, e16, st16⟩ := getS2 X14 hx hZ hown (host := "") (Or.inl (own_w hw 77 rfl)) Via.refl e14 (show Sta Z h10 "com/example/corridor/corridor/iso20022/MarkupScanner$State" "BANG" "Lcom/example/corridor/corridor/iso20022/MarkupScanner$State;" (.ref (sa 3)) from (I10.1 3 _ rfl).1) (g := (mkF m 156 #[.val (.ref r0), .val (.int 0), .val (.int 10), .val (.ref u), .val (.int 1), .val (.int 33)] [(.ref r0)])) rfl (hb hby d6_156)
  refine own_g (T16.setTop (mkF m 159 #[.val (.ref r0), .val (.int 0), .val (.int 10), .val (.ref u), .val (.int 1), .val (.int 33)] [(.ref (sa 3)), (.ref r0)])) (st16) ?_
  obtain ⟨T17, h17, X17, e17, W17, st17⟩ := putF X16 hx hZ hown (host := "") (Or.inl (own_w hw 17 rfl)) Via.refl e16 (own_Gf G10 0 rfl rfl) G10.1 (Or.inl (own_w hw 18 rfl)) (own_w hw 6 rfl) (ty := (.object "com/example/corridor/corridor/iso20022/MarkupScanner$State")) (by decide) rfl rfl (g := (mkF m 159 #[.val (.ref r0), .val (.int 0), .val (.int 10), .val (.ref u), .val (.int 1), .val (.int 33)] [(.ref (sa 3)), (.ref r0)])) rfl rfl (hb hby d6_159)
  have G17 : own_G Z h17 r0 [(.ref (sa 3)), (.int 0), (.int 0), (.long ln), (.long ln), (.ref u), x6, x7, x8, x9, x10, x11, (.int 1), x13, x14, x15, x16, x17, x18, x19, x20, x21, x22] := own_G.put hw G10 0 rfl (Nat.le_of_ble_eq_true rfl) W17
  have I17 : own_I Z h17 r0 u ku cu en EC w sa := I10.wr W17 G10.1
  have N17 := Fr.snoc X17 N10 gn_r0
  have Z17 : n0 ≤ h17.size := Nat.le_trans Z10 (Keep.of_wr W17).1
  have K17 : Keep h0 h17 [r0] := K10.wr W17 (Or.inl (List.mem_of_getElem? (i := 0) rfl))
  refine own_g (T17.setTop (mkF m 162 #[.val (.ref r0), .val (.int 0), .val (.int 10), .val (.ref u), .val (.int 1), .val (.int 33)] [])) (st17) ?_
  refine own_g (T17.setTop (mkF m 164 #[.val (.ref r0), .val (.int 0), .val (.int 10), .val (.ref u), .val (.int 1), .val (.int 33)] [(.int 1)])) (fun _ k => XS.iload X17.here hx rfl (hb hby d6_162) rfl k) ?_
  refine own_g (T17.setTop (mkF m 165 #[.val (.ref r0), .val (.int 0), .val (.int 10), .val (.ref u), .val (.int 1), .val (.int 33)] [(.int 1), (.int 1)])) (fun _ k => XS.iconst X17.here hx rfl (hb hby d6_164) k) ?_
  refine own_g (T17.setTop (mkF m 166 #[.val (.ref r0), .val (.int 0), .val (.int 10), .val (.ref u), .val (.int 1), .val (.int 33)] [(.int ((1 : Int32) + (1 : Int32)))])) (fun _ k => XS.iadd X17.here hx rfl (hb hby d6_165) rfl k) ?_
  rw [show ((1 : Int32) + (1 : Int32)) = (2 : Int32) from by decide]
  exact own_retI X17 hx Bd.returns (hb hby d6_166) Bd.notSynchronized (by decide) (by decide) (by rw [e17]; exact ⟨rfl, N17, K17, G17⟩)
theorem d8_0 : decode prog_34_method_24_code 0 = .ok (.aload_n 0, 1) := by decide +kernel
theorem d8_1 : decode prog_34_method_24_code 1 = .ok (.getfield 40, 3) := by decide +kernel
theorem d8_4 : decode prog_34_method_24_code 4 = .ok (.iload_n 1, 1) := by decide +kernel
theorem d8_5 : decode prog_34_method_24_code 5 = .ok (.caload, 1) := by decide +kernel
theorem d8_6 : decode prog_34_method_24_code 6 = .ok (.istore_n 2, 1) := by decide +kernel
theorem d8_7 : decode prog_34_method_24_code 7 = .ok (.aload_n 0, 1) := by decide +kernel
theorem d8_8 : decode prog_34_method_24_code 8 = .ok (.getfield 13, 3) := by decide +kernel
theorem d8_11 : decode prog_34_method_24_code 11 = .ok (.invokevirtual 73, 3) := by decide +kernel
theorem d8_14 : decode prog_34_method_24_code 14 = .ok (.tableswitch 228 3 8 #[38, 83, 112, 183, 195, 220], 38) := by decide +kernel
theorem d8_52 : decode prog_34_method_24_code 52 = .ok (.iload_n 2, 1) := by decide +kernel
theorem d8_53 : decode prog_34_method_24_code 53 = .ok (.bipush 45, 2) := by decide +kernel
theorem d8_55 : decode prog_34_method_24_code 55 = .ok (.if_icmp .ne 13, 3) := by decide +kernel
theorem d8_68 : decode prog_34_method_24_code 68 = .ok (.iload_n 2, 1) := by decide +kernel
theorem d8_69 : decode prog_34_method_24_code 69 = .ok (.bipush 91, 2) := by decide +kernel
theorem d8_71 : decode prog_34_method_24_code 71 = .ok (.if_icmp .ne 18, 3) := by decide +kernel
theorem d8_74 : decode prog_34_method_24_code 74 = .ok (.aload_n 0, 1) := by decide +kernel
theorem d8_75 : decode prog_34_method_24_code 75 = .ok (.iconst 0, 1) := by decide +kernel
theorem d8_76 : decode prog_34_method_24_code 76 = .ok (.putfield 205, 3) := by decide +kernel
theorem d8_79 : decode prog_34_method_24_code 79 = .ok (.aload_n 0, 1) := by decide +kernel
theorem d8_80 : decode prog_34_method_24_code 80 = .ok (.getstatic 208, 3) := by decide +kernel
theorem d8_83 : decode prog_34_method_24_code 83 = .ok (.putfield 13, 3) := by decide +kernel
theorem d8_86 : decode prog_34_method_24_code 86 = .ok (.goto 171, 3) := by decide +kernel
theorem d8_257 : decode prog_34_method_24_code 257 = .ok (.aload_n 0, 1) := by decide +kernel
theorem d8_258 : decode prog_34_method_24_code 258 = .ok (.iload_n 2, 1) := by decide +kernel
theorem d8_259 : decode prog_34_method_24_code 259 = .ok (.iload_n 1, 1) := by decide +kernel
theorem d8_260 : decode prog_34_method_24_code 260 = .ok (.invokevirtual 139, 3) := by decide +kernel
theorem d8_263 : decode prog_34_method_24_code 263 = .ok (.iload_n 1, 1) := by decide +kernel
theorem d8_264 : decode prog_34_method_24_code 264 = .ok (.iconst 1, 1) := by decide +kernel
theorem d8_265 : decode prog_34_method_24_code 265 = .ok (.iadd, 1) := by decide +kernel
theorem d8_266 : decode prog_34_method_24_code 266 = .ok (.ireturn, 1) := by decide +kernel
theorem pn8 : plainName "com/example/corridor/corridor/iso20022/MarkupScanner" = true := by first | (simp [plainName, overriddenIn]; done) | decide +kernel
theorem pd4 : parseMethodDescriptor "()I" = some ⟨[], some .int⟩ := by decide +kernel
theorem pd5 : parseMethodDescriptor "(CI)V" = some ⟨[.char, .int], none⟩ := by decide +kernel
theorem ef_oth2 (m : MethodId) (r0 : Addr) : entryFrame m #[(.ref r0), (.int 2)] 3 = mkF m 0 #[.val (.ref r0), .val (.int 2), .unset] [] := by first | (simp [entryFrame, mkF, argsToLocals, Value.category]; done) | rfl
set_option maxRecDepth 65536 in
set_option maxHeartbeats 40000000 in
theorem oth2 (l : Launch) (Z : State) (a0 : Array Value) (hw : ∀ d ∈ tables_1, d.before a0 Z = true) (ws : List Jvm.Cond) (r0 : Addr) (u : Addr) (ku : ClassId) (cu : Int32) (en : Addr) (EC : String) (w : Int32) (sa : Nat → Addr) (x1 : Value) (x2 : Value) (x3 : Value) (x4 : Value) (x6 : Value) (x7 : Value) (x8 : Value) (x9 : Value) (x10 : Value) (x11 : Value) (x12 : Value) (x13 : Value) (x14 : Value) (x15 : Value) (x16 : Value) (x17 : Value) (x18 : Value) (x19 : Value) (x20 : Value) (x21 : Value) (x22 : Value) (h0 : Heap) (n0 : Nat) (Z0 : n0 ≤ h0.size) (I : own_I Z h0 r0 u ku cu en EC w sa) (G : own_G Z h0 r0 [(.ref (sa 3)), x1, x2, x3, x4, (.ref u), x6, x7, x8, x9, x10, x11, x12, x13, x14, x15, x16, x17, x18, x19, x20, x21, x22]) (gn_r0 : n0 ≤ r0) :
    MetFree l (⟨"com/example/corridor/corridor/iso20022/MarkupScanner", "other", "(I)I"⟩ : MethodName) (head1 (Jvm.Cond.code (⟨"com/example/corridor/corridor/iso20022/MarkupScanner", "other", "(I)I"⟩ : MethodName) prog_34_method_24_code 3 (some .int) :: ws) ({ frames := 1, cells := 0, slots := 0, locals := 14 } : Room)) (fun a U => a = #[(.ref r0), (.int 2)] ∧ Z.Warmed39 U.vm ∧ U.heap = h0) (fun _ _ _ _ _ => True) (fun _ U o U' => ∃ v L, o = .returned v ∧ (own_QG Z r0 n0 h0 (some (.int 3)) [(.ref (sa 5)), x1, x2, x3, x4, (.ref u), x6, x7, x8, x9, x10, x11, x12, (.int 0), x14, x15, x16, x17, x18, x19, x20, x21, x22]) v U'.heap L ∧ FrameEnd U o U' L 0 0) := by
  refine MetFree.of_bodySF (plainFor_of_name pn8) hisR ?_
  intro p e s m args below meth c s₁ Bd hml0 hP hK
  obtain ⟨rfl, hZ, hh⟩ := hP
  have hx := Bd.exec
  have hby := Bd.bytes
  have hml : c.maxLocals = 3 := hml0
  have hown : s.vm.findClass "com/example/corridor/corridor/iso20022/MarkupScanner" = some m.cls := findClass_of_methodNamed Bd.named
  have hnm := (name_of_methodNamed Bd.named Bd.method).1
  have X0 : Stand p l e ({ frames := 1, cells := 0, slots := 0, locals := 14 } : Room) s m #[(.ref r0), (.int 2)] below meth c s₁ [] 0 0 := Stand.of_body Bd
  have e0 : s₁.heap = h0 := by rw [← hh, Bd.state]; rfl
  have N0 := Fr.nil n0
  have K0 : Keep h0 h0 [r0] := Keep.refl h0 [r0]
  show own_Goes p e below (own_End s (own_QG Z r0 n0 h0 (some (.int 3)) [(.ref (sa 5)), x1, x2, x3, x4, (.ref u), x6, x7, x8, x9, x10, x11, x12, (.int 0), x14, x15, x16, x17, x18, x19, x20, x21, x22]) 0 0) _
  refine own_g (s₁.setTop (mkF m 0 #[.val (.ref r0), .val (.int 2), .unset] [])) (fun t k => castTop (ef_oth2 m r0) k) ?_
  refine own_g (s₁.setTop (mkF m 1 #[.val (.ref r0), .val (.int 2), .unset] [(.ref r0)])) (fun _ k => XS.aloadN X0.here hx rfl (hb hby d8_0) rfl rfl k) ?_
  obtain ⟨T1, X1, e1, st1⟩ := getF X0 hx hZ hown (host := "") (Or.inl (own_w hw 32 rfl)) Via.refl e0 (own_Gf G 5 rfl rfl) (g := (mkF m 1 #[.val (.ref r0), .val (.int 2), .unset] [(.ref r0)])) rfl rfl (hb hby d8_1)
  refine own_g (T1.setTop (mkF m 4 #[.val (.ref r0), .val (.int 2), .unset] [(.ref u)])) (st1) ?_
  refine own_g (T1.setTop (mkF m 5 #[.val (.ref r0), .val (.int 2), .unset] [(.int 2), (.ref u)])) (fun _ k => XS.iloadN X1.here hx rfl (hb hby d8_4) rfl k) ?_
  obtain ⟨cl2, Ar2, hin2, hat2⟩ := own_I.at I (2 : Int32) (by decide) (by decide)
  refine own_g (T1.setTop (mkF m 6 #[.val (.ref r0), .val (.int 2), .unset] [(.int 91)])) (X1.caload hx (j := (2 : Int32)) (v := (.int 91)) (by rw [e1]; exact Ar2.1) (State.isArrayOf_alike hZ.alike Ar2.2.1) Ar2.2.2 hin2 hat2 (g := (mkF m 5 #[.val (.ref r0), .val (.int 2), .unset] [(.int 2), (.ref u)])) rfl rfl (hb hby d8_5)) ?_
  refine own_g (T1.setTop (mkF m 7 #[.val (.ref r0), .val (.int 2), .val (.int 91)] [])) (fun _ k => XS.istoreN X1.here hx rfl (hb hby d8_6) rfl (l' := #[.val (.ref r0), .val (.int 2), .val (.int 91)]) rfl k) ?_
  refine own_g (T1.setTop (mkF m 8 #[.val (.ref r0), .val (.int 2), .val (.int 91)] [(.ref r0)])) (fun _ k => XS.aloadN X1.here hx rfl (hb hby d8_7) rfl rfl k) ?_
  obtain ⟨T3, X3, e3, st3⟩ := getF X1 hx hZ hown (host := "") (Or.inl (own_w hw 17 rfl)) Via.refl e1 (own_Gf G 0 rfl rfl) (g := (mkF m 8 #[.val (.ref r0), .val (.int 2), .val (.int 91)] [(.ref r0)])) rfl rfl (hb hby d8_8)
  refine own_g (T3.setTop (mkF m 11 #[.val (.ref r0), .val (.int 2), .val (.int 91)] [(.ref (sa 3))])) (st3) ?_
  obtain ⟨cq4, kq4, qk4a, qk4b, qk4c⟩ := isOf hZ e3 (show Exa Z h0 (sa 3) "com/example/corridor/corridor/iso20022/MarkupScanner$State" from (I.1 3 _ rfl).2.1)
  obtain ⟨_, _, ⟨T4, L4, k4, n4⟩, -, X4, ⟨Lc4, hQ4, l4, y4, z4⟩, st4⟩ := X3.virtualBackUp hx (x := (⟨"com/example/corridor/corridor/iso20022/MarkupScanner$State", "ordinal", "()I"⟩ : MethodName)) (y := (⟨"java/lang/Enum", "ordinal", "()I"⟩ : MethodName)) (owner := "java/lang/Enum") hown (mvT hZ (own_w hw 56 rfl)) (mvT hZ (own_w hw 57 rfl)) (mvT hZ (own_w hw 58 rfl)) (by decide) (mvT hZ (own_w hw 60 rfl)) (mvT hZ (own_w hw 59 rfl)) (backOf (W := 0) (ord l Z a0 hw [] (sa 3) (3 : Int32) h0 n0 Z0 (show Fld Z h0 (sa 3) "java/lang/Enum" "ordinal" "I" (.int 3) from (I.1 3 _ rfl).2.2.1)) hZ (own_w hw 62 rfl) (own_w hw 61 rfl) (by decide) (by decide)) qk4a qk4c (g := (mkF m 11 #[.val (.ref r0), .val (.int 2), .val (.int 91)] [(.ref (sa 3))])) rfl (by rw [hml]; rfl) (Steps.refl _) (argsL := []) (rest := []) (lenOf pd4 rfl) rfl (by show 2 * 0 + _ ≤ _; exact Nat.le_of_eq rfl) (hb hby d8_11) (fun _ _ => ⟨rfl, e3, (by decide : 0 + 0 ≤ _), (by decide : 0 + 0 ≤ _)⟩)
  dsimp only [Pt.U, Pt.locs, Pt.cells, Pt.slots] at X4 l4 y4 z4 st4 hQ4
  subst l4 y4 z4
  obtain ⟨rfl, Nq4, e4⟩ := hQ4
  have N4 := Fr.app N0 Nq4
  refine own_g (T4.setTop (mkF m 14 #[.val (.ref r0), .val (.int 2), .val (.int 91)] [(.int 3)])) (fun _ k => st4.trans k) ?_
  refine own_g (T4.setTop (mkF m 52 #[.val (.ref r0), .val (.int 2), .val (.int 91)] [])) (fun _ k => XS.tswIn X4.here hx rfl (pc0 := 14) (pc' := 52) (o := 38) rfl (hb hby d8_14) rfl (by decide) rfl (by decide) (by decide) k) ?_
  refine own_g (T4.setTop (mkF m 53 #[.val (.ref r0), .val (.int 2), .val (.int 91)] [(.int 91)])) (fun _ k => XS.iloadN X4.here hx rfl (hb hby d8_52) rfl k) ?_
  refine own_g (T4.setTop (mkF m 55 #[.val (.ref r0), .val (.int 2), .val (.int 91)] [(.int 45), (.int 91)])) (fun _ k => XS.bipush X4.here hx rfl (hb hby d8_53) k) ?_
  refine own_g (T4.setTop (mkF m 68 #[.val (.ref r0), .val (.int 2), .val (.int 91)] [])) (fun _ k => XS.icmpYes X4.here hx rfl (pc0 := 55) (pc' := 68) rfl (hb hby d8_55) rfl (feq (by decide : ¬ ((91 : Int32) = (45 : Int32)))).2 (by decide) (by decide) k) ?_
  refine own_g (T4.setTop (mkF m 69 #[.val (.ref r0), .val (.int 2), .val (.int 91)] [(.int 91)])) (fun _ k => XS.iloadN X4.here hx rfl (hb hby d8_68) rfl k) ?_
  refine own_g (T4.setTop (mkF m 71 #[.val (.ref r0), .val (.int 2), .val (.int 91)] [(.int 91), (.int 91)])) (fun _ k => XS.bipush X4.here hx rfl (hb hby d8_69) k) ?_
  refine own_g (T4.setTop (mkF m 74 #[.val (.ref r0), .val (.int 2), .val (.int 91)] [])) (fun _ k => XS.icmpNo X4.here hx rfl (hb hby d8_71) rfl (teq (by decide : (91 : Int32) = (91 : Int32))).2 k) ?_
  refine own_g (T4.setTop (mkF m 75 #[.val (.ref r0), .val (.int 2), .val (.int 91)] [(.ref r0)])) (fun _ k => XS.aloadN X4.here hx rfl (hb hby d8_74) rfl rfl k) ?_
  refine own_g (T4.setTop (mkF m 76 #[.val (.ref r0), .val (.int 2), .val (.int 91)] [(.int 0), (.ref r0)])) (fun _ k => XS.iconst X4.here hx rfl (hb hby d8_75) k) ?_
  obtain ⟨T5, h5, X5, e5, W5, st5⟩ := putF X4 hx hZ hown (host := "") (Or.inl (own_w hw 83 rfl)) Via.refl e4 (own_Gf G 13 rfl rfl) G.1 (Or.inl (own_w hw 84 rfl)) (own_w hw 6 rfl) (ty := .int) (by decide) rfl rfl (g := (mkF m 76 #[.val (.ref r0), .val (.int 2), .val (.int 91)] [(.int 0), (.ref r0)])) rfl rfl (hb hby d8_76)
  have G5 : own_G Z h5 r0 [(.ref (sa 3)), x1, x2, x3, x4, (.ref u), x6, x7, x8, x9, x10, x11, x12, (.int 0), x14, x15, x16, x17, x18, x19, x20, x21, x22] := own_G.put hw G 13 rfl (Nat.le_of_ble_eq_true rfl) W5
  have I5 : own_I Z h5 r0 u ku cu en EC w sa := I.wr W5 G.1
  have N5 := Fr.snoc X5 N4 gn_r0
  have Z5 : n0 ≤ h5.size := Nat.le_trans Z0 (Keep.of_wr W5).1
  have K5 : Keep h0 h5 [r0] := K0.wr W5 (Or.inl (List.mem_of_getElem? (i := 0) rfl))
  refine own_g (T5.setTop (mkF m 79 #[.val (.ref r0), .val (.int 2), .val (.int 91)] [])) (st5) ?_
  refine own_g (T5.setTop (mkF m 80 #[.val (.ref r0), .val (.int 2), .val (.int 91)] [(.ref r0)])) (fun _ k => XS.aloadN X5.here hx rfl (hb hby d8_79) rfl rfl k) ?_
  obtain ⟨T6, X6, e6, st6⟩ := getS2 X5 hx hZ hown (host := "") (Or.inl (own_w hw 85 rfl)) Via.refl e5 (show Sta Z h5 "com/example/corridor/corridor/iso20022/MarkupScanner$State" "CDATA_OPEN" "Lcom/example/corridor/corridor/iso20022/MarkupScanner$State;" (.ref (sa 5)) from (I5.1 4 _ rfl).1) (g := (mkF m 80 #[.val (.ref r0), .val (.int 2), .val (.int 91)] [(.ref r0)])) rfl (hb hby d8_80)
  refine own_g (T6.setTop (mkF m 83 #[.val (.ref r0), .val (.int 2), .val (.int 91)] [(.ref (sa 5)), (.ref r0)])) (st6) ?_
  obtain ⟨T7, h7, X7, e7, W7, st7⟩ := putF X6 hx hZ hown (host := "") (Or.inl (own_w hw 17 rfl)) Via.refl e6 (own_Gf G5 0 rfl rfl) G5.1 (Or.inl (own_w hw 18 rfl)) (own_w hw 6 rfl) (ty := (.object "com/example/corridor/corridor/iso20022/MarkupScanner$State")) (by decide) rfl rfl (g := (mkF m 83 #[.val (.ref r0), .val (.int 2), .val (.int 91)] [(.ref (sa 5)), (.ref r0)])) rfl rfl (hb hby d8_83)
  have G7 : own_G Z h7 r0 [(.ref (sa 5)), x1, x2, x3, x4, (.ref u), x6, x7, x8, x9, x10, x11, x12, (.int 0), x14, x15, x16, x17, x18, x19, x20, x21, x22] := own_G.put hw G5 0 rfl (Nat.le_of_ble_eq_true rfl) W7
  have I7 : own_I Z h7 r0 u ku cu en EC w sa := I5.wr W7 G5.1
  have N7 := Fr.snoc X7 N5 gn_r0
  have Z7 : n0 ≤ h7.size := Nat.le_trans Z5 (Keep.of_wr W7).1
  have K7 : Keep h0 h7 [r0] := K5.wr W7 (Or.inl (List.mem_of_getElem? (i := 0) rfl))
  refine own_g (T7.setTop (mkF m 86 #[.val (.ref r0), .val (.int 2), .val (.int 91)] [])) (st7) ?_
  refine own_g (T7.setTop (mkF m 257 #[.val (.ref r0), .val (.int 2), .val (.int 91)] [])) (fun _ k => XS.goto X7.here hx rfl (pc0 := 86) (pc' := 257) rfl (hb hby d8_86) (by decide) (by decide) k) ?_
  refine own_g (T7.setTop (mkF m 258 #[.val (.ref r0), .val (.int 2), .val (.int 91)] [(.ref r0)])) (fun _ k => XS.aloadN X7.here hx rfl (hb hby d8_257) rfl rfl k) ?_
  refine own_g (T7.setTop (mkF m 259 #[.val (.ref r0), .val (.int 2), .val (.int 91)] [(.int 91), (.ref r0)])) (fun _ k => XS.iloadN X7.here hx rfl (hb hby d8_258) rfl k) ?_
  refine own_g (T7.setTop (mkF m 260 #[.val (.ref r0), .val (.int 2), .val (.int 91)] [(.int 2), (.int 91), (.ref r0)])) (fun _ k => XS.iloadN X7.here hx rfl (hb hby d8_259) rfl k) ?_
  obtain ⟨cq8, qk8, qk8'⟩ := G7.1.cell
  obtain ⟨_, _, ⟨T8, L8, k8, n8⟩, -, X8, ⟨Lc8, hQ8, l8, y8, z8⟩, st8⟩ := X7.privateBack hx (y := (⟨"com/example/corridor/corridor/iso20022/MarkupScanner", "lineEnd", "(CI)V"⟩ : MethodName)) hown (mvT hZ (own_w hw 87 rfl)) (mvT hZ (own_w hw 88 rfl)) (mvT hZ (own_selPriv (own_w hw 88 rfl) (own_w hw 89 rfl) (own_w hw 30 rfl) rfl (by decide))) (Cond.privateMethod_at (mvP hZ (own_w hw 89 rfl) (args := #[]))) (mvT hZ (own_w hw 90 rfl)) (by decide) (backOf (W := 0) (leg l Z a0 hw [] r0 (91 : Int32) (2 : Int32) u ku cu en EC w sa (.ref (sa 5)) x1 x2 x3 x4 (.ref u) x6 x7 x8 x9 x10 x11 x12 (.int 0) x14 x15 x16 x17 x18 x19 x20 x21 x22 h7 n0 Z7 I7 G7 gn_r0 (by decide)) hZ (own_w hw 90 rfl) (own_w hw 7 rfl) (by decide) (by decide)) (g := (mkF m 260 #[.val (.ref r0), .val (.int 2), .val (.int 91)] [(.int 2), (.int 91), (.ref r0)])) rfl (by rw [hml]; rfl) (Steps.refl _) (a := r0) (by rw [e7]; exact qk8) qk8' (argsL := [(.int 91), (.int 2)]) (rest := []) (lenOf pd5 rfl) rfl (by show 2 * 0 + _ ≤ _; exact Nat.le_of_eq rfl) (hb hby d8_260) (fun _ _ => ⟨rfl, e7, (by decide : 0 + 0 ≤ _), (by decide : 0 + 0 ≤ _)⟩)
  dsimp only [Pt.U, Pt.locs, Pt.cells, Pt.slots] at X8 l8 y8 z8 st8 hQ8
  subst l8 y8 z8
  obtain ⟨rfl, Nq8, e8⟩ := hQ8
  have N8 := Fr.app N7 Nq8
  refine own_g (T8.setTop (mkF m 263 #[.val (.ref r0), .val (.int 2), .val (.int 91)] [])) (fun _ k => st8.trans k) ?_
  refine own_g (T8.setTop (mkF m 264 #[.val (.ref r0), .val (.int 2), .val (.int 91)] [(.int 2)])) (fun _ k => XS.iloadN X8.here hx rfl (hb hby d8_263) rfl k) ?_
  refine own_g (T8.setTop (mkF m 265 #[.val (.ref r0), .val (.int 2), .val (.int 91)] [(.int 1), (.int 2)])) (fun _ k => XS.iconst X8.here hx rfl (hb hby d8_264) k) ?_
  refine own_g (T8.setTop (mkF m 266 #[.val (.ref r0), .val (.int 2), .val (.int 91)] [(.int ((2 : Int32) + (1 : Int32)))])) (fun _ k => XS.iadd X8.here hx rfl (hb hby d8_265) rfl k) ?_
  rw [show ((2 : Int32) + (1 : Int32)) = (3 : Int32) from by decide]
  exact own_retI X8 hx Bd.returns (hb hby d8_266) Bd.notSynchronized (by decide) (by decide) (by rw [e8]; exact ⟨rfl, N8, K7, G7⟩)
theorem d23_0 : decode prog_34_method_4_code 0 = .ok (.aload_n 0, 1) := by decide +kernel
theorem d23_1 : decode prog_34_method_4_code 1 = .ok (.iconst 0, 1) := by decide +kernel
theorem d23_2 : decode prog_34_method_4_code 2 = .ok (.putfield 70, 3) := by decide +kernel
theorem d23_5 : decode prog_34_method_4_code 5 = .ok (.aload_n 0, 1) := by decide +kernel
theorem d23_6 : decode prog_34_method_4_code 6 = .ok (.aload_n 0, 1) := by decide +kernel
theorem d23_7 : decode prog_34_method_4_code 7 = .ok (.getfield 47, 3) := by decide +kernel
theorem d23_10 : decode prog_34_method_4_code 10 = .ok (.putfield 114, 3) := by decide +kernel
theorem d23_13 : decode prog_34_method_4_code 13 = .ok (.aload_n 0, 1) := by decide +kernel
theorem d23_14 : decode prog_34_method_4_code 14 = .ok (.aload_n 0, 1) := by decide +kernel
theorem d23_15 : decode prog_34_method_4_code 15 = .ok (.getfield 47, 3) := by decide +kernel
theorem d23_18 : decode prog_34_method_4_code 18 = .ok (.putfield 96, 3) := by decide +kernel
theorem d23_21 : decode prog_34_method_4_code 21 = .ok (.aload_n 0, 1) := by decide +kernel
theorem d23_22 : decode prog_34_method_4_code 22 = .ok (.aload_n 0, 1) := by decide +kernel
theorem d23_23 : decode prog_34_method_4_code 23 = .ok (.getfield 30, 3) := by decide +kernel
theorem d23_26 : decode prog_34_method_4_code 26 = .ok (.putfield 26, 3) := by decide +kernel
theorem d23_29 : decode prog_34_method_4_code 29 = .ok (.return_, 1) := by decide +kernel
theorem pn23 : plainName "com/example/corridor/corridor/iso20022/MarkupScanner" = true := by first | (simp [plainName, overriddenIn]; done) | decide +kernel
theorem ef_cut (m : MethodId) (r0 : Addr) : entryFrame m #[(.ref r0)] 1 = mkF m 0 #[.val (.ref r0)] [] := by first | (simp [entryFrame, mkF, argsToLocals, Value.category]; done) | rfl
set_option maxRecDepth 65536 in
set_option maxHeartbeats 40000000 in
theorem cut (l : Launch) (Z : State) (a0 : Array Value) (hw : ∀ d ∈ tables_1, d.before a0 Z = true) (ws : List Jvm.Cond) (r0 : Addr) (u : Addr) (ku : ClassId) (cu : Int32) (en : Addr) (EC : String) (w : Int32) (sa : Nat → Addr) (x0 : Value) (x1 : Value) (x2 : Value) (x3 : Value) (ln : Int64) (x5 : Value) (x6 : Value) (of : Int64) (x8 : Value) (x9 : Value) (x10 : Value) (x11 : Value) (x12 : Value) (x13 : Value) (x14 : Value) (x15 : Value) (x16 : Value) (x17 : Value) (x18 : Value) (x19 : Value) (x20 : Value) (x21 : Value) (x22 : Value) (h0 : Heap) (n0 : Nat) (Z0 : n0 ≤ h0.size) (I : own_I Z h0 r0 u ku cu en EC w sa) (G : own_G Z h0 r0 [x0, x1, x2, x3, (.long ln), x5, x6, (.long of), x8, x9, x10, x11, x12, x13, x14, x15, x16, x17, x18, x19, x20, x21, x22]) (gn_r0 : n0 ≤ r0) :
    MetFree l (⟨"com/example/corridor/corridor/iso20022/MarkupScanner", "cut", "()V"⟩ : MethodName) (head1 (Jvm.Cond.code (⟨"com/example/corridor/corridor/iso20022/MarkupScanner", "cut", "()V"⟩ : MethodName) prog_34_method_4_code 1 none :: ws) ({ frames := 0, cells := 0, slots := 0, locals := 0 } : Room)) (fun a U => a = #[(.ref r0)] ∧ Z.Warmed39 U.vm ∧ U.heap = h0) (fun _ _ _ _ _ => True) (fun _ U o U' => ∃ v L, o = .returned v ∧ (own_QG Z r0 n0 h0 none [x0, x1, x2, (.long ln), (.long ln), x5, x6, (.long of), x8, x9, x10, (.int 0), x12, x13, x14, (.long of), x16, (.long of), x18, x19, x20, x21, x22]) v U'.heap L ∧ FrameEnd U o U' L 0 0) := by
  refine MetFree.of_bodySF (plainFor_of_name pn23) hisR ?_
  intro p e s m args below meth c s₁ Bd hml0 hP hK
  obtain ⟨rfl, hZ, hh⟩ := hP
  have hx := Bd.exec
  have hby := Bd.bytes
  have hml : c.maxLocals = 1 := hml0
  have hown : s.vm.findClass "com/example/corridor/corridor/iso20022/MarkupScanner" = some m.cls := findClass_of_methodNamed Bd.named
  have hnm := (name_of_methodNamed Bd.named Bd.method).1
  have X0 : Stand p l e ({ frames := 0, cells := 0, slots := 0, locals := 0 } : Room) s m #[(.ref r0)] below meth c s₁ [] 0 0 := Stand.of_body Bd
  have e0 : s₁.heap = h0 := by rw [← hh, Bd.state]; rfl
  have N0 := Fr.nil n0
  have K0 : Keep h0 h0 [r0] := Keep.refl h0 [r0]
  show own_Goes p e below (own_End s (own_QG Z r0 n0 h0 none [x0, x1, x2, (.long ln), (.long ln), x5, x6, (.long of), x8, x9, x10, (.int 0), x12, x13, x14, (.long of), x16, (.long of), x18, x19, x20, x21, x22]) 0 0) _
  refine own_g (s₁.setTop (mkF m 0 #[.val (.ref r0)] [])) (fun t k => castTop (ef_cut m r0) k) ?_
  refine own_g (s₁.setTop (mkF m 1 #[.val (.ref r0)] [(.ref r0)])) (fun _ k => XS.aloadN X0.here hx rfl (hb hby d23_0) rfl rfl k) ?_
  refine own_g (s₁.setTop (mkF m 2 #[.val (.ref r0)] [(.int 0), (.ref r0)])) (fun _ k => XS.iconst X0.here hx rfl (hb hby d23_1) k) ?_
  obtain ⟨T1, h1, X1, e1, W1, st1⟩ := putFN X0 hx hZ hown (own_w hw 54 rfl) Via.refl e0 (own_Gf G 11 rfl rfl) G.1 (Or.inl (own_w hw 55 rfl)) (own_w hw 6 rfl) (ty := .boolean) (v' := (.int 0)) (by decide) rfl rfl (g := (mkF m 2 #[.val (.ref r0)] [(.int 0), (.ref r0)])) rfl rfl (hb hby d23_2)
  have G1 : own_G Z h1 r0 [x0, x1, x2, x3, (.long ln), x5, x6, (.long of), x8, x9, x10, (.int 0), x12, x13, x14, x15, x16, x17, x18, x19, x20, x21, x22] := own_G.put hw G 11 rfl (Nat.le_of_ble_eq_true rfl) W1
  have I1 : own_I Z h1 r0 u ku cu en EC w sa := I.wr W1 G.1
  have N1 := Fr.snoc X1 N0 gn_r0
  have Z1 : n0 ≤ h1.size := Nat.le_trans Z0 (Keep.of_wr W1).1
  have K1 : Keep h0 h1 [r0] := K0.wr W1 (Or.inl (List.mem_of_getElem? (i := 0) rfl))
  refine own_g (T1.setTop (mkF m 5 #[.val (.ref r0)] [])) (st1) ?_
  refine own_g (T1.setTop (mkF m 6 #[.val (.ref r0)] [(.ref r0)])) (fun _ k => XS.aloadN X1.here hx rfl (hb hby d23_5) rfl rfl k) ?_
  refine own_g (T1.setTop (mkF m 7 #[.val (.ref r0)] [(.ref r0), (.ref r0)])) (fun _ k => XS.aloadN X1.here hx rfl (hb hby d23_6) rfl rfl k) ?_
  obtain ⟨T2, X2, e2, st2⟩ := getF X1 hx hZ hown (host := "") (Or.inl (own_w hw 36 rfl)) Via.refl e1 (own_Gf G1 7 rfl rfl) (g := (mkF m 7 #[.val (.ref r0)] [(.ref r0), (.ref r0)])) rfl rfl (hb hby d23_7)
  refine own_g (T2.setTop (mkF m 10 #[.val (.ref r0)] [(.long of), (.ref r0)])) (st2) ?_
  obtain ⟨T3, h3, X3, e3, W3, st3⟩ := putF X2 hx hZ hown (host := "") (Or.inl (own_w hw 140 rfl)) Via.refl e2 (own_Gf G1 15 rfl rfl) G1.1 (Or.inl (own_w hw 141 rfl)) (own_w hw 6 rfl) (ty := .long) (by decide) rfl rfl (g := (mkF m 10 #[.val (.ref r0)] [(.long of), (.ref r0)])) rfl rfl (hb hby d23_10)
  have G3 : own_G Z h3 r0 [x0, x1, x2, x3, (.long ln), x5, x6, (.long of), x8, x9, x10, (.int 0), x12, x13, x14, (.long of), x16, x17, x18, x19, x20, x21, x22] := own_G.put hw G1 15 rfl (Nat.le_of_ble_eq_true rfl) W3
  have I3 : own_I Z h3 r0 u ku cu en EC w sa := I1.wr W3 G1.1
  have N3 := Fr.snoc X3 N1 gn_r0
  have Z3 : n0 ≤ h3.size := Nat.le_trans Z1 (Keep.of_wr W3).1
  have K3 : Keep h0 h3 [r0] := K1.wr W3 (Or.inl (List.mem_of_getElem? (i := 0) rfl))
  refine own_g (T3.setTop (mkF m 13 #[.val (.ref r0)] [])) (st3) ?_
  refine own_g (T3.setTop (mkF m 14 #[.val (.ref r0)] [(.ref r0)])) (fun _ k => XS.aloadN X3.here hx rfl (hb hby d23_13) rfl rfl k) ?_
  refine own_g (T3.setTop (mkF m 15 #[.val (.ref r0)] [(.ref r0), (.ref r0)])) (fun _ k => XS.aloadN X3.here hx rfl (hb hby d23_14) rfl rfl k) ?_
  obtain ⟨T4, X4, e4, st4⟩ := getF X3 hx hZ hown (host := "") (Or.inl (own_w hw 36 rfl)) Via.refl e3 (own_Gf G3 7 rfl rfl) (g := (mkF m 15 #[.val (.ref r0)] [(.ref r0), (.ref r0)])) rfl rfl (hb hby d23_15)
  refine own_g (T4.setTop (mkF m 18 #[.val (.ref r0)] [(.long of), (.ref r0)])) (st4) ?_
  obtain ⟨T5, h5, X5, e5, W5, st5⟩ := putF X4 hx hZ hown (host := "") (Or.inl (own_w hw 162 rfl)) Via.refl e4 (own_Gf G3 17 rfl rfl) G3.1 (Or.inl (own_w hw 163 rfl)) (own_w hw 6 rfl) (ty := .long) (by decide) rfl rfl (g := (mkF m 18 #[.val (.ref r0)] [(.long of), (.ref r0)])) rfl rfl (hb hby d23_18)
  have G5 : own_G Z h5 r0 [x0, x1, x2, x3, (.long ln), x5, x6, (.long of), x8, x9, x10, (.int 0), x12, x13, x14, (.long of), x16, (.long of), x18, x19, x20, x21, x22] := own_G.put hw G3 17 rfl (Nat.le_of_ble_eq_true rfl) W5
  have I5 : own_I Z h5 r0 u ku cu en EC w sa := I3.wr W5 G3.1
  have N5 := Fr.snoc X5 N3 gn_r0
  have Z5 : n0 ≤ h5.size := Nat.le_trans Z3 (Keep.of_wr W5).1
  have K5 : Keep h0 h5 [r0] := K3.wr W5 (Or.inl (List.mem_of_getElem? (i := 0) rfl))
  refine own_g (T5.setTop (mkF m 21 #[.val (.ref r0)] [])) (st5) ?_
  refine own_g (T5.setTop (mkF m 22 #[.val (.ref r0)] [(.ref r0)])) (fun _ k => XS.aloadN X5.here hx rfl (hb hby d23_21) rfl rfl k) ?_
  refine own_g (T5.setTop (mkF m 23 #[.val (.ref r0)] [(.ref r0), (.ref r0)])) (fun _ k => XS.aloadN X5.here hx rfl (hb hby d23_22) rfl rfl k) ?_
  obtain ⟨T6, X6, e6, st6⟩ := getF X5 hx hZ hown (host := "") (Or.inl (own_w hw 25 rfl)) Via.refl e5 (own_Gf G5 4 rfl rfl) (g := (mkF m 23 #[.val (.ref r0)] [(.ref r0), (.ref r0)])) rfl rfl (hb hby d23_23)
  refine own_g (T6.setTop (mkF m 26 #[.val (.ref r0)] [(.long ln), (.ref r0)])) (st6) ?_
  obtain ⟨T7, h7, X7, e7, W7, st7⟩ := putF X6 hx hZ hown (host := "") (Or.inl (own_w hw 23 rfl)) Via.refl e6 (own_Gf G5 3 rfl rfl) G5.1 (Or.inl (own_w hw 24 rfl)) (own_w hw 6 rfl) (ty := .long) (by decide) rfl rfl (g := (mkF m 26 #[.val (.ref r0)] [(.long ln), (.ref r0)])) rfl rfl (hb hby d23_26)
  have G7 : own_G Z h7 r0 [x0, x1, x2, (.long ln), (.long ln), x5, x6, (.long of), x8, x9, x10, (.int 0), x12, x13, x14, (.long of), x16, (.long of), x18, x19, x20, x21, x22] := own_G.put hw G5 3 rfl (Nat.le_of_ble_eq_true rfl) W7
  have I7 : own_I Z h7 r0 u ku cu en EC w sa := I5.wr W7 G5.1
  have N7 := Fr.snoc X7 N5 gn_r0
  have Z7 : n0 ≤ h7.size := Nat.le_trans Z5 (Keep.of_wr W7).1
  have K7 : Keep h0 h7 [r0] := K5.wr W7 (Or.inl (List.mem_of_getElem? (i := 0) rfl))
  refine own_g (T7.setTop (mkF m 29 #[.val (.ref r0)] [])) (st7) ?_
  exact own_retV X7 hx Bd.returns (hb hby d23_29) Bd.notSynchronized (by decide) (by decide) (by rw [e7]; exact ⟨rfl, N7, K7, G7⟩)
theorem d24_0 : decode prog_34_method_3_code 0 = .ok (.aload_n 0, 1) := by decide +kernel
theorem d24_1 : decode prog_34_method_3_code 1 = .ok (.getfield 70, 3) := by decide +kernel
theorem d24_4 : decode prog_34_method_3_code 4 = .ok (.ireturn, 1) := by decide +kernel
theorem pn24 : plainName "com/example/corridor/corridor/iso20022/MarkupScanner" = true := by first | (simp [plainName, overriddenIn]; done) | decide +kernel
theorem ef_cr0 (m : MethodId) (r0 : Addr) : entryFrame m #[(.ref r0)] 1 = mkF m 0 #[.val (.ref r0)] [] := by first | (simp [entryFrame, mkF, argsToLocals, Value.category]; done) | rfl
set_option maxRecDepth 65536 in
set_option maxHeartbeats 40000000 in
theorem cr0 (l : Launch) (Z : State) (a0 : Array Value) (hw : ∀ d ∈ tables_1, d.before a0 Z = true) (ws : List Jvm.Cond) (r0 : Addr) (u : Addr) (ku : ClassId) (cu : Int32) (en : Addr) (EC : String) (w : Int32) (sa : Nat → Addr) (x0 : Value) (x1 : Value) (x2 : Value) (x3 : Value) (x4 : Value) (x5 : Value) (x6 : Value) (x7 : Value) (x8 : Value) (x9 : Value) (x10 : Value) (x12 : Value) (x13 : Value) (x14 : Value) (x15 : Value) (x16 : Value) (x17 : Value) (x18 : Value) (x19 : Value) (x20 : Value) (x21 : Value) (x22 : Value) (h0 : Heap) (n0 : Nat) (Z0 : n0 ≤ h0.size) (I : own_I Z h0 r0 u ku cu en EC w sa) (G : own_G Z h0 r0 [x0, x1, x2, x3, x4, x5, x6, x7, x8, x9, x10, (.int 0), x12, x13, x14, x15, x16, x17, x18, x19, x20, x21, x22]) (gn_r0 : n0 ≤ r0) :
    MetFree l (⟨"com/example/corridor/corridor/iso20022/MarkupScanner", "cutReady", "()Z"⟩ : MethodName) (head1 (Jvm.Cond.code (⟨"com/example/corridor/corridor/iso20022/MarkupScanner", "cutReady", "()Z"⟩ : MethodName) prog_34_method_3_code 1 (some .boolean) :: ws) ({ frames := 0, cells := 0, slots := 0, locals := 0 } : Room)) (fun a U => a = #[(.ref r0)] ∧ Z.Warmed39 U.vm ∧ U.heap = h0) (fun _ _ _ _ _ => True) (fun _ U o U' => ∃ v L, o = .returned v ∧ (own_Same (.int 0) h0 n0) v U'.heap L ∧ FrameEnd U o U' L 0 0) := by
  refine MetFree.of_bodySF (plainFor_of_name pn24) hisR ?_
  intro p e s m args below meth c s₁ Bd hml0 hP hK
  obtain ⟨rfl, hZ, hh⟩ := hP
  have hx := Bd.exec
  have hby := Bd.bytes
  have hml : c.maxLocals = 1 := hml0
  have hown : s.vm.findClass "com/example/corridor/corridor/iso20022/MarkupScanner" = some m.cls := findClass_of_methodNamed Bd.named
  have hnm := (name_of_methodNamed Bd.named Bd.method).1
  have X0 : Stand p l e ({ frames := 0, cells := 0, slots := 0, locals := 0 } : Room) s m #[(.ref r0)] below meth c s₁ [] 0 0 := Stand.of_body Bd
  have e0 : s₁.heap = h0 := by rw [← hh, Bd.state]; rfl
  have N0 := Fr.nil n0
  have K0 : Keep h0 h0 [r0] := Keep.refl h0 [r0]
  show own_Goes p e below (own_End s (own_Same (.int 0) h0 n0) 0 0) _
  refine own_g (s₁.setTop (mkF m 0 #[.val (.ref r0)] [])) (fun t k => castTop (ef_cr0 m r0) k) ?_
  refine own_g (s₁.setTop (mkF m 1 #[.val (.ref r0)] [(.ref r0)])) (fun _ k => XS.aloadN X0.here hx rfl (hb hby d24_0) rfl rfl k) ?_
  obtain ⟨T1, X1, e1, st1⟩ := getF X0 hx hZ hown (host := "") (Or.inl (own_w hw 54 rfl)) Via.refl e0 (own_Gf G 11 rfl rfl) (g := (mkF m 1 #[.val (.ref r0)] [(.ref r0)])) rfl rfl (hb hby d24_1)
  refine own_g (T1.setTop (mkF m 4 #[.val (.ref r0)] [(.int 0)])) (st1) ?_
  exact own_ret0 X1 hx Bd.returns (hb hby d24_4) Bd.notSynchronized (by decide) (by decide) ⟨rfl, N0, e1⟩
theorem ef_cr1 (m : MethodId) (r0 : Addr) : entryFrame m #[(.ref r0)] 1 = mkF m 0 #[.val (.ref r0)] [] := by first | (simp [entryFrame, mkF, argsToLocals, Value.category]; done) | rfl
set_option maxRecDepth 65536 in
set_option maxHeartbeats 40000000 in
theorem cr1 (l : Launch) (Z : State) (a0 : Array Value) (hw : ∀ d ∈ tables_1, d.before a0 Z = true) (ws : List Jvm.Cond) (r0 : Addr) (u : Addr) (ku : ClassId) (cu : Int32) (en : Addr) (EC : String) (w : Int32) (sa : Nat → Addr) (x0 : Value) (x1 : Value) (x2 : Value) (x3 : Value) (x4 : Value) (x5 : Value) (x6 : Value) (x7 : Value) (x8 : Value) (x9 : Value) (x10 : Value) (x12 : Value) (x13 : Value) (x14 : Value) (x15 : Value) (x16 : Value) (x17 : Value) (x18 : Value) (x19 : Value) (x20 : Value) (x21 : Value) (x22 : Value) (h0 : Heap) (n0 : Nat) (Z0 : n0 ≤ h0.size) (I : own_I Z h0 r0 u ku cu en EC w sa) (G : own_G Z h0 r0 [x0, x1, x2, x3, x4, x5, x6, x7, x8, x9, x10, (.int 1), x12, x13, x14, x15, x16, x17, x18, x19, x20, x21, x22]) (gn_r0 : n0 ≤ r0) :
    MetFree l (⟨"com/example/corridor/corridor/iso20022/MarkupScanner", "cutReady", "()Z"⟩ : MethodName) (head1 (Jvm.Cond.code (⟨"com/example/corridor/corridor/iso20022/MarkupScanner", "cutReady", "()Z"⟩ : MethodName) prog_34_method_3_code 1 (some .boolean) :: ws) ({ frames := 0, cells := 0, slots := 0, locals := 0 } : Room)) (fun a U => a = #[(.ref r0)] ∧ Z.Warmed39 U.vm ∧ U.heap = h0) (fun _ _ _ _ _ => True) (fun _ U o U' => ∃ v L, o = .returned v ∧ (own_Same (.int 1) h0 n0) v U'.heap L ∧ FrameEnd U o U' L 0 0) := by
  refine MetFree.of_bodySF (plainFor_of_name pn24) hisR ?_
  intro p e s m args below meth c s₁ Bd hml0 hP hK
  obtain ⟨rfl, hZ, hh⟩ := hP
  have hx := Bd.exec
  have hby := Bd.bytes
  have hml : c.maxLocals = 1 := hml0
  have hown : s.vm.findClass "com/example/corridor/corridor/iso20022/MarkupScanner" = some m.cls := findClass_of_methodNamed Bd.named
  have hnm := (name_of_methodNamed Bd.named Bd.method).1
  have X0 : Stand p l e ({ frames := 0, cells := 0, slots := 0, locals := 0 } : Room) s m #[(.ref r0)] below meth c s₁ [] 0 0 := Stand.of_body Bd
  have e0 : s₁.heap = h0 := by rw [← hh, Bd.state]; rfl
  have N0 := Fr.nil n0
  have K0 : Keep h0 h0 [r0] := Keep.refl h0 [r0]
  show own_Goes p e below (own_End s (own_Same (.int 1) h0 n0) 0 0) _
  refine own_g (s₁.setTop (mkF m 0 #[.val (.ref r0)] [])) (fun t k => castTop (ef_cr1 m r0) k) ?_
  refine own_g (s₁.setTop (mkF m 1 #[.val (.ref r0)] [(.ref r0)])) (fun _ k => XS.aloadN X0.here hx rfl (hb hby d24_0) rfl rfl k) ?_
  obtain ⟨T1, X1, e1, st1⟩ := getF X0 hx hZ hown (host := "") (Or.inl (own_w hw 54 rfl)) Via.refl e0 (own_Gf G 11 rfl rfl) (g := (mkF m 1 #[.val (.ref r0)] [(.ref r0)])) rfl rfl (hb hby d24_1)
  refine own_g (T1.setTop (mkF m 4 #[.val (.ref r0)] [(.int 1)])) (st1) ?_
  exact own_ret1 X1 hx Bd.returns (hb hby d24_4) Bd.notSynchronized (by decide) (by decide) ⟨rfl, N0, e1⟩
theorem d25_0 : decode prog_34_method_5_code 0 = .ok (.aload_n 0, 1) := by decide +kernel
theorem d25_1 : decode prog_34_method_5_code 1 = .ok (.getfield 96, 3) := by decide +kernel
theorem d25_4 : decode prog_34_method_5_code 4 = .ok (.lreturn, 1) := by decide +kernel
theorem pn25 : plainName "com/example/corridor/corridor/iso20022/MarkupScanner" = true := by first | (simp [plainName, overriddenIn]; done) | decide +kernel
theorem ef_po (m : MethodId) (r0 : Addr) : entryFrame m #[(.ref r0)] 1 = mkF m 0 #[.val (.ref r0)] [] := by first | (simp [entryFrame, mkF, argsToLocals, Value.category]; done) | rfl
set_option maxRecDepth 65536 in
set_option maxHeartbeats 40000000 in
theorem po (l : Launch) (Z : State) (a0 : Array Value) (hw : ∀ d ∈ tables_1, d.before a0 Z = true) (ws : List Jvm.Cond) (r0 : Addr) (u : Addr) (ku : ClassId) (cu : Int32) (en : Addr) (EC : String) (w : Int32) (sa : Nat → Addr) (x0 : Value) (x1 : Value) (x2 : Value) (x3 : Value) (x4 : Value) (x5 : Value) (x6 : Value) (x7 : Value) (x8 : Value) (x9 : Value) (x10 : Value) (x11 : Value) (x12 : Value) (x13 : Value) (x14 : Value) (x15 : Value) (x16 : Value) (po : Int64) (x18 : Value) (x19 : Value) (x20 : Value) (x21 : Value) (x22 : Value) (h0 : Heap) (n0 : Nat) (Z0 : n0 ≤ h0.size) (I : own_I Z h0 r0 u ku cu en EC w sa) (G : own_G Z h0 r0 [x0, x1, x2, x3, x4, x5, x6, x7, x8, x9, x10, x11, x12, x13, x14, x15, x16, (.long po), x18, x19, x20, x21, x22]) (gn_r0 : n0 ≤ r0) :
    MetFree l (⟨"com/example/corridor/corridor/iso20022/MarkupScanner", "pieceOffset", "()J"⟩ : MethodName) (head1 (Jvm.Cond.code (⟨"com/example/corridor/corridor/iso20022/MarkupScanner", "pieceOffset", "()J"⟩ : MethodName) prog_34_method_5_code 1 (some .long) :: ws) ({ frames := 0, cells := 0, slots := 0, locals := 0 } : Room)) (fun a U => a = #[(.ref r0)] ∧ Z.Warmed39 U.vm ∧ U.heap = h0) (fun _ _ _ _ _ => True) (fun _ U o U' => ∃ v L, o = .returned v ∧ (own_Same (.long po) h0 n0) v U'.heap L ∧ FrameEnd U o U' L 0 0) := by
  refine MetFree.of_bodySF (plainFor_of_name pn25) hisR ?_
  intro p e s m args below meth c s₁ Bd hml0 hP hK
  obtain ⟨rfl, hZ, hh⟩ := hP
  have hx := Bd.exec
  have hby := Bd.bytes
  have hml : c.maxLocals = 1 := hml0
  have hown : s.vm.findClass "com/example/corridor/corridor/iso20022/MarkupScanner" = some m.cls := findClass_of_methodNamed Bd.named
  have hnm := (name_of_methodNamed Bd.named Bd.method).1
  have X0 : Stand p l e ({ frames := 0, cells := 0, slots := 0, locals := 0 } : Room) s m #[(.ref r0)] below meth c s₁ [] 0 0 := Stand.of_body Bd
  have e0 : s₁.heap = h0 := by rw [← hh, Bd.state]; rfl
  have N0 := Fr.nil n0
  have K0 : Keep h0 h0 [r0] := Keep.refl h0 [r0]
  show own_Goes p e below (own_End s (own_Same (.long po) h0 n0) 0 0) _
  refine own_g (s₁.setTop (mkF m 0 #[.val (.ref r0)] [])) (fun t k => castTop (ef_po m r0) k) ?_
  refine own_g (s₁.setTop (mkF m 1 #[.val (.ref r0)] [(.ref r0)])) (fun _ k => XS.aloadN X0.here hx rfl (hb hby d25_0) rfl rfl k) ?_
  obtain ⟨T1, X1, e1, st1⟩ := getF X0 hx hZ hown (host := "") (Or.inl (own_w hw 162 rfl)) Via.refl e0 (own_Gf G 17 rfl rfl) (g := (mkF m 1 #[.val (.ref r0)] [(.ref r0)])) rfl rfl (hb hby d25_1)
  refine own_g (T1.setTop (mkF m 4 #[.val (.ref r0)] [(.long po)])) (st1) ?_
  exact own_retJ X1 hx Bd.returns (hb hby d25_4) Bd.notSynchronized (by decide) (by decide) ⟨rfl, N0, e1⟩
theorem d26_0 : decode prog_34_method_6_code 0 = .ok (.aload_n 0, 1) := by decide +kernel
theorem d26_1 : decode prog_34_method_6_code 1 = .ok (.getfield 30, 3) := by decide +kernel
theorem d26_4 : decode prog_34_method_6_code 4 = .ok (.lreturn, 1) := by decide +kernel
theorem pn26 : plainName "com/example/corridor/corridor/iso20022/MarkupScanner" = true := by first | (simp [plainName, overriddenIn]; done) | decide +kernel
theorem ef_lnn (m : MethodId) (r0 : Addr) : entryFrame m #[(.ref r0)] 1 = mkF m 0 #[.val (.ref r0)] [] := by first | (simp [entryFrame, mkF, argsToLocals, Value.category]; done) | rfl
set_option maxRecDepth 65536 in
set_option maxHeartbeats 40000000 in
theorem lnn (l : Launch) (Z : State) (a0 : Array Value) (hw : ∀ d ∈ tables_1, d.before a0 Z = true) (ws : List Jvm.Cond) (r0 : Addr) (u : Addr) (ku : ClassId) (cu : Int32) (en : Addr) (EC : String) (w : Int32) (sa : Nat → Addr) (x0 : Value) (x1 : Value) (x2 : Value) (x3 : Value) (ln : Int64) (x5 : Value) (x6 : Value) (x7 : Value) (x8 : Value) (x9 : Value) (x10 : Value) (x11 : Value) (x12 : Value) (x13 : Value) (x14 : Value) (x15 : Value) (x16 : Value) (x17 : Value) (x18 : Value) (x19 : Value) (x20 : Value) (x21 : Value) (x22 : Value) (h0 : Heap) (n0 : Nat) (Z0 : n0 ≤ h0.size) (I : own_I Z h0 r0 u ku cu en EC w sa) (G : own_G Z h0 r0 [x0, x1, x2, x3, (.long ln), x5, x6, x7, x8, x9, x10, x11, x12, x13, x14, x15, x16, x17, x18, x19, x20, x21, x22]) (gn_r0 : n0 ≤ r0) :
    MetFree l (⟨"com/example/corridor/corridor/iso20022/MarkupScanner", "line", "()J"⟩ : MethodName) (head1 (Jvm.Cond.code (⟨"com/example/corridor/corridor/iso20022/MarkupScanner", "line", "()J"⟩ : MethodName) prog_34_method_6_code 1 (some .long) :: ws) ({ frames := 0, cells := 0, slots := 0, locals := 0 } : Room)) (fun a U => a = #[(.ref r0)] ∧ Z.Warmed39 U.vm ∧ U.heap = h0) (fun _ _ _ _ _ => True) (fun _ U o U' => ∃ v L, o = .returned v ∧ (own_Same (.long ln) h0 n0) v U'.heap L ∧ FrameEnd U o U' L 0 0) := by
  refine MetFree.of_bodySF (plainFor_of_name pn26) hisR ?_
  intro p e s m args below meth c s₁ Bd hml0 hP hK
  obtain ⟨rfl, hZ, hh⟩ := hP
  have hx := Bd.exec
  have hby := Bd.bytes
  have hml : c.maxLocals = 1 := hml0
  have hown : s.vm.findClass "com/example/corridor/corridor/iso20022/MarkupScanner" = some m.cls := findClass_of_methodNamed Bd.named
  have hnm := (name_of_methodNamed Bd.named Bd.method).1
  have X0 : Stand p l e ({ frames := 0, cells := 0, slots := 0, locals := 0 } : Room) s m #[(.ref r0)] below meth c s₁ [] 0 0 := Stand.of_body Bd
  have e0 : s₁.heap = h0 := by rw [← hh, Bd.state]; rfl
  have N0 := Fr.nil n0
  have K0 : Keep h0 h0 [r0] := Keep.refl h0 [r0]
  show own_Goes p e below (own_End s (own_Same (.long ln) h0 n0) 0 0) _
  refine own_g (s₁.setTop (mkF m 0 #[.val (.ref r0)] [])) (fun t k => castTop (ef_lnn m r0) k) ?_
  refine own_g (s₁.setTop (mkF m 1 #[.val (.ref r0)] [(.ref r0)])) (fun _ k => XS.aloadN X0.here hx rfl (hb hby d26_0) rfl rfl k) ?_
  obtain ⟨T1, X1, e1, st1⟩ := getF X0 hx hZ hown (host := "") (Or.inl (own_w hw 25 rfl)) Via.refl e0 (own_Gf G 4 rfl rfl) (g := (mkF m 1 #[.val (.ref r0)] [(.ref r0)])) rfl rfl (hb hby d26_1)
  refine own_g (T1.setTop (mkF m 4 #[.val (.ref r0)] [(.long ln)])) (st1) ?_
  exact own_retJ X1 hx Bd.returns (hb hby d26_4) Bd.notSynchronized (by decide) (by decide) ⟨rfl, N0, e1⟩
theorem d1_0 : decode prog_34_method_1_code 0 = .ok (.aload_n 0, 1) := by decide +kernel
theorem d1_1 : decode prog_34_method_1_code 1 = .ok (.invokespecial 1, 3) := by decide +kernel
theorem d1_4 : decode prog_34_method_1_code 4 = .ok (.aload_n 0, 1) := by decide +kernel
theorem d1_5 : decode prog_34_method_1_code 5 = .ok (.getstatic 7, 3) := by decide +kernel
theorem d1_8 : decode prog_34_method_1_code 8 = .ok (.putfield 13, 3) := by decide +kernel
theorem d1_11 : decode prog_34_method_1_code 11 = .ok (.aload_n 0, 1) := by decide +kernel
theorem d1_12 : decode prog_34_method_1_code 12 = .ok (.iconst 1, 1) := by decide +kernel
theorem d1_13 : decode prog_34_method_1_code 13 = .ok (.putfield 18, 3) := by decide +kernel
theorem d1_16 : decode prog_34_method_1_code 16 = .ok (.aload_n 0, 1) := by decide +kernel
theorem d1_17 : decode prog_34_method_1_code 17 = .ok (.iconst (-1), 1) := by decide +kernel
theorem d1_18 : decode prog_34_method_1_code 18 = .ok (.putfield 22, 3) := by decide +kernel
theorem d1_21 : decode prog_34_method_1_code 21 = .ok (.aload_n 0, 1) := by decide +kernel
theorem d1_22 : decode prog_34_method_1_code 22 = .ok (.lconst 1, 1) := by decide +kernel
theorem d1_23 : decode prog_34_method_1_code 23 = .ok (.putfield 26, 3) := by decide +kernel
theorem d1_26 : decode prog_34_method_1_code 26 = .ok (.aload_n 0, 1) := by decide +kernel
theorem d1_27 : decode prog_34_method_1_code 27 = .ok (.lconst 1, 1) := by decide +kernel
theorem d1_28 : decode prog_34_method_1_code 28 = .ok (.putfield 30, 3) := by decide +kernel
theorem d1_31 : decode prog_34_method_1_code 31 = .ok (.return_, 1) := by decide +kernel
theorem pn1 : plainName "com/example/corridor/corridor/iso20022/MarkupScanner" = true := by first | (simp [plainName, overriddenIn]; done) | decide +kernel
theorem ef_ini (m : MethodId) (r0 : Addr) : entryFrame m #[(.ref r0)] 1 = mkF m 0 #[.val (.ref r0)] [] := by first | (simp [entryFrame, mkF, argsToLocals, Value.category]; done) | rfl
set_option maxRecDepth 65536 in
set_option maxHeartbeats 40000000 in
theorem ini (l : Launch) (Z : State) (a0 : Array Value) (hw : ∀ d ∈ tables_1, d.before a0 Z = true) (ws : List Jvm.Cond) (r0 : Addr) (u : Addr) (ku : ClassId) (cu : Int32) (en : Addr) (EC : String) (w : Int32) (sa : Nat → Addr) (h0 : Heap) (n0 : Nat) (Z0 : n0 ≤ h0.size) (I : own_I Z h0 r0 u ku cu en EC w sa) (G : own_G Z h0 r0 [.null, (.int 0), (.int 0), (.long 0), (.long 0), .null, (.int 0), (.long 0), (.long 0), .null, (.int 0), (.int 0), (.int 0), (.int 0), (.int 0), (.long 0), (.int 0), (.long 0), (.int 0), (.int 0), (.int 0), (.int 0), (.int 0)]) (gn_r0 : n0 ≤ r0) :
    MetFree l (⟨"com/example/corridor/corridor/iso20022/MarkupScanner", "<init>", "()V"⟩ : MethodName) (head1 (Jvm.Cond.code (⟨"com/example/corridor/corridor/iso20022/MarkupScanner", "<init>", "()V"⟩ : MethodName) prog_34_method_1_code 1 none :: ws) ({ frames := 1, cells := 0, slots := 0, locals := 12 } : Room)) (fun a U => a = #[(.ref r0)] ∧ Z.Warmed39 U.vm ∧ U.heap = h0) (fun _ _ _ _ _ => True) (fun _ U o U' => ∃ v L, o = .returned v ∧ (own_QG Z r0 n0 h0 none [(.ref (sa 0)), (.int 1), (.int (-1)), (.long 1), (.long 1), .null, (.int 0), (.long 0), (.long 0), .null, (.int 0), (.int 0), (.int 0), (.int 0), (.int 0), (.long 0), (.int 0), (.long 0), (.int 0), (.int 0), (.int 0), (.int 0), (.int 0)]) v U'.heap L ∧ FrameEnd U o U' L 0 0) := by
  refine MetFree.of_bodySF (plainFor_of_name pn1) hisR ?_
  intro p e s m args below meth c s₁ Bd hml0 hP hK
  obtain ⟨rfl, hZ, hh⟩ := hP
  have hx := Bd.exec
  have hby := Bd.bytes
  have hml : c.maxLocals = 1 := hml0
  have hown : s.vm.findClass "com/example/corridor/corridor/iso20022/MarkupScanner" = some m.cls := findClass_of_methodNamed Bd.named
  have hnm := (name_of_methodNamed Bd.named Bd.method).1
  have X0 : Stand p l e ({ frames := 1, cells := 0, slots := 0, locals := 12 } : Room) s m #[(.ref r0)] below meth c s₁ [] 0 0 := Stand.of_body Bd
  have e0 : s₁.heap = h0 := by rw [← hh, Bd.state]; rfl
  have N0 := Fr.nil n0
  have K0 : Keep h0 h0 [r0] := Keep.refl h0 [r0]
  show own_Goes p e below (own_End s (own_QG Z r0 n0 h0 none [(.ref (sa 0)), (.int 1), (.int (-1)), (.long 1), (.long 1), .null, (.int 0), (.long 0), (.long 0), .null, (.int 0), (.int 0), (.int 0), (.int 0), (.int 0), (.long 0), (.int 0), (.long 0), (.int 0), (.int 0), (.int 0), (.int 0), (.int 0)]) 0 0) _
  refine own_g (s₁.setTop (mkF m 0 #[.val (.ref r0)] [])) (fun t k => castTop (ef_ini m r0) k) ?_
  refine own_g (s₁.setTop (mkF m 1 #[.val (.ref r0)] [(.ref r0)])) (fun _ k => XS.aloadN X0.here hx rfl (hb hby d1_0) rfl rfl k) ?_
  obtain ⟨T1, X1, e1, st1⟩ := initO X0 hx hZ hown (own_w hw 11 rfl) (own_w hw 12 rfl) (own_w hw 13 rfl) e0 (g := (mkF m 1 #[.val (.ref r0)] [(.ref r0)])) rfl (by rw [hml]; rfl) rfl (hb hby d1_1) (by decide) (W := 0) (by show 2 * 0 + _ ≤ _; exact Nat.le_of_eq rfl) (by decide)
  refine own_g (T1.setTop (mkF m 4 #[.val (.ref r0)] [])) (st1) ?_
  refine own_g (T1.setTop (mkF m 5 #[.val (.ref r0)] [(.ref r0)])) (fun _ k => XS.aloadN X1.here hx rfl (hb hby d1_4) rfl rfl k) ?_
  obtain ⟨T2, X2, e2, st2⟩ := getS2 X1 hx hZ hown (host := "") (Or.inl (own_w hw 14 rfl)) Via.refl e1 (show Sta Z h0 "com/example/corridor/corridor/iso20022/MarkupScanner$State" "TEXT" "Lcom/example/corridor/corridor/iso20022/MarkupScanner$State;" (.ref (sa 0)) from (I.1 0 _ rfl).1) (g := (mkF m 5 #[.val (.ref r0)] [(.ref r0)])) rfl (hb hby d1_5)
  refine own_g (T2.setTop (mkF m 8 #[.val (.ref r0)] [(.ref (sa 0)), (.ref r0)])) (st2) ?_
  obtain ⟨T3, h3, X3, e3, W3, st3⟩ := putF X2 hx hZ hown (host := "") (Or.inl (own_w hw 17 rfl)) Via.refl e2 (own_Gf G 0 rfl rfl) G.1 (Or.inl (own_w hw 18 rfl)) (own_w hw 6 rfl) (ty := (.object "com/example/corridor/corridor/iso20022/MarkupScanner$State")) (by decide) rfl rfl (g := (mkF m 8 #[.val (.ref r0)] [(.ref (sa 0)), (.ref r0)])) rfl rfl (hb hby d1_8)
  have G3 : own_G Z h3 r0 [(.ref (sa 0)), (.int 0), (.int 0), (.long 0), (.long 0), .null, (.int 0), (.long 0), (.long 0), .null, (.int 0), (.int 0), (.int 0), (.int 0), (.int 0), (.long 0), (.int 0), (.long 0), (.int 0), (.int 0), (.int 0), (.int 0), (.int 0)] := own_G.put hw G 0 rfl (Nat.le_of_ble_eq_true rfl) W3
  have I3 : own_I Z h3 r0 u ku cu en EC w sa := I.wr W3 G.1
  have N3 := Fr.snoc X3 N0 gn_r0
  have Z3 : n0 ≤ h3.size := Nat.le_trans Z0 (Keep.of_wr W3).1
  have K3 : Keep h0 h3 [r0] := K0.wr W3 (Or.inl (List.mem_of_getElem? (i := 0) rfl))
  refine own_g (T3.setTop (mkF m 11 #[.val (.ref r0)] [])) (st3) ?_
  refine own_g (T3.setTop (mkF m 12 #[.val (.ref r0)] [(.ref r0)])) (fun _ k => XS.aloadN X3.here hx rfl (hb hby d1_11) rfl rfl k) ?_
  refine own_g (T3.setTop (mkF m 13 #[.val (.ref r0)] [(.int 1), (.ref r0)])) (fun _ k => XS.iconst X3.here hx rfl (hb hby d1_12) k) ?_
  obtain ⟨T4, h4, X4, e4, W4, st4⟩ := putFN X3 hx hZ hown (own_w hw 19 rfl) Via.refl e3 (own_Gf G3 1 rfl rfl) G3.1 (Or.inl (own_w hw 20 rfl)) (own_w hw 6 rfl) (ty := .boolean) (v' := (.int 1)) (by decide) rfl rfl (g := (mkF m 13 #[.val (.ref r0)] [(.int 1), (.ref r0)])) rfl rfl (hb hby d1_13)
  have G4 : own_G Z h4 r0 [(.ref (sa 0)), (.int 1), (.int 0), (.long 0), (.long 0), .null, (.int 0), (.long 0), (.long 0), .null, (.int 0), (.int 0), (.int 0), (.int 0), (.int 0), (.long 0), (.int 0), (.long 0), (.int 0), (.int 0), (.int 0), (.int 0), (.int 0)] := own_G.put hw G3 1 rfl (Nat.le_of_ble_eq_true rfl) W4
  have I4 : own_I Z h4 r0 u ku cu en EC w sa := I3.wr W4 G3.1
  have N4 := Fr.snoc X4 N3 gn_r0
  have Z4 : n0 ≤ h4.size := Nat.le_trans Z3 (Keep.of_wr W4).1
  have K4 : Keep h0 h4 [r0] := K3.wr W4 (Or.inl (List.mem_of_getElem? (i := 0) rfl))
  refine own_g (T4.setTop (mkF m 16 #[.val (.ref r0)] [])) (st4) ?_
  refine own_g (T4.setTop (mkF m 17 #[.val (.ref r0)] [(.ref r0)])) (fun _ k => XS.aloadN X4.here hx rfl (hb hby d1_16) rfl rfl k) ?_
  refine own_g (T4.setTop (mkF m 18 #[.val (.ref r0)] [(.int (-1)), (.ref r0)])) (fun _ k => XS.iconst X4.here hx rfl (hb hby d1_17) k) ?_
  obtain ⟨T5, h5, X5, e5, W5, st5⟩ := putF X4 hx hZ hown (host := "") (Or.inl (own_w hw 21 rfl)) Via.refl e4 (own_Gf G4 2 rfl rfl) G4.1 (Or.inl (own_w hw 22 rfl)) (own_w hw 6 rfl) (ty := .int) (by decide) rfl rfl (g := (mkF m 18 #[.val (.ref r0)] [(.int (-1)), (.ref r0)])) rfl rfl (hb hby d1_18)
  have G5 : own_G Z h5 r0 [(.ref (sa 0)), (.int 1), (.int (-1)), (.long 0), (.long 0), .null, (.int 0), (.long 0), (.long 0), .null, (.int 0), (.int 0), (.int 0), (.int 0), (.int 0), (.long 0), (.int 0), (.long 0), (.int 0), (.int 0), (.int 0), (.int 0), (.int 0)] := own_G.put hw G4 2 rfl (Nat.le_of_ble_eq_true rfl) W5
  have I5 : own_I Z h5 r0 u ku cu en EC w sa := I4.wr W5 G4.1
  have N5 := Fr.snoc X5 N4 gn_r0
  have Z5 : n0 ≤ h5.size := Nat.le_trans Z4 (Keep.of_wr W5).1
  have K5 : Keep h0 h5 [r0] := K4.wr W5 (Or.inl (List.mem_of_getElem? (i := 0) rfl))
  refine own_g (T5.setTop (mkF m 21 #[.val (.ref r0)] [])) (st5) ?_
  refine own_g (T5.setTop (mkF m 22 #[.val (.ref r0)] [(.ref r0)])) (fun _ k => XS.aloadN X5.here hx rfl (hb hby d1_21) rfl rfl k) ?_
  refine own_g (T5.setTop (mkF m 23 #[.val (.ref r0)] [(.long 1), (.ref r0)])) (fun _ k => XS.lconst X5.here hx rfl (hb hby d1_22) k) ?_
  obtain ⟨T6, h6, X6, e6, W6, st6⟩ := putF X5 hx hZ hown (host := "") (Or.inl (own_w hw 23 rfl)) Via.refl e5 (own_Gf G5 3 rfl rfl) G5.1 (Or.inl (own_w hw 24 rfl)) (own_w hw 6 rfl) (ty := .long) (by decide) rfl rfl (g := (mkF m 23 #[.val (.ref r0)] [(.long 1), (.ref r0)])) rfl rfl (hb hby d1_23)
  have G6 : own_G Z h6 r0 [(.ref (sa 0)), (.int 1), (.int (-1)), (.long 1), (.long 0), .null, (.int 0), (.long 0), (.long 0), .null, (.int 0), (.int 0), (.int 0), (.int 0), (.int 0), (.long 0), (.int 0), (.long 0), (.int 0), (.int 0), (.int 0), (.int 0), (.int 0)] := own_G.put hw G5 3 rfl (Nat.le_of_ble_eq_true rfl) W6
  have I6 : own_I Z h6 r0 u ku cu en EC w sa := I5.wr W6 G5.1
  have N6 := Fr.snoc X6 N5 gn_r0
  have Z6 : n0 ≤ h6.size := Nat.le_trans Z5 (Keep.of_wr W6).1
  have K6 : Keep h0 h6 [r0] := K5.wr W6 (Or.inl (List.mem_of_getElem? (i := 0) rfl))
  refine own_g (T6.setTop (mkF m 26 #[.val (.ref r0)] [])) (st6) ?_
  refine own_g (T6.setTop (mkF m 27 #[.val (.ref r0)] [(.ref r0)])) (fun _ k => XS.aloadN X6.here hx rfl (hb hby d1_26) rfl rfl k) ?_
  refine own_g (T6.setTop (mkF m 28 #[.val (.ref r0)] [(.long 1), (.ref r0)])) (fun _ k => XS.lconst X6.here hx rfl (hb hby d1_27) k) ?_
  obtain ⟨T7, h7, X7, e7, W7, st7⟩ := putF X6 hx hZ hown (host := "") (Or.inl (own_w hw 25 rfl)) Via.refl e6 (own_Gf G6 4 rfl rfl) G6.1 (Or.inl (own_w hw 26 rfl)) (own_w hw 6 rfl) (ty := .long) (by decide) rfl rfl (g := (mkF m 28 #[.val (.ref r0)] [(.long 1), (.ref r0)])) rfl rfl (hb hby d1_28)
  have G7 : own_G Z h7 r0 [(.ref (sa 0)), (.int 1), (.int (-1)), (.long 1), (.long 1), .null, (.int 0), (.long 0), (.long 0), .null, (.int 0), (.int 0), (.int 0), (.int 0), (.int 0), (.long 0), (.int 0), (.long 0), (.int 0), (.int 0), (.int 0), (.int 0), (.int 0)] := own_G.put hw G6 4 rfl (Nat.le_of_ble_eq_true rfl) W7
  have I7 : own_I Z h7 r0 u ku cu en EC w sa := I6.wr W7 G6.1
  have N7 := Fr.snoc X7 N6 gn_r0
  have Z7 : n0 ≤ h7.size := Nat.le_trans Z6 (Keep.of_wr W7).1
  have K7 : Keep h0 h7 [r0] := K6.wr W7 (Or.inl (List.mem_of_getElem? (i := 0) rfl))
  refine own_g (T7.setTop (mkF m 31 #[.val (.ref r0)] [])) (st7) ?_
  exact own_retV X7 hx Bd.returns (hb hby d1_31) Bd.notSynchronized (by decide) (by decide) (by rw [e7]; exact ⟨rfl, N7, K7, G7⟩)
theorem d18_0 : decode prog_34_method_23_code 0 = .ok (.iload_n 1, 1) := by decide +kernel
theorem d18_1 : decode prog_34_method_23_code 1 = .ok (.istore_n 3, 1) := by decide +kernel
theorem d18_2 : decode prog_34_method_23_code 2 = .ok (.iload_n 3, 1) := by decide +kernel
theorem d18_3 : decode prog_34_method_23_code 3 = .ok (.iload_n 2, 1) := by decide +kernel
theorem d18_4 : decode prog_34_method_23_code 4 = .ok (.if_icmp .ge 93, 3) := by decide +kernel
theorem d18_7 : decode prog_34_method_23_code 7 = .ok (.aload_n 0, 1) := by decide +kernel
theorem d18_8 : decode prog_34_method_23_code 8 = .ok (.getfield 40, 3) := by decide +kernel
theorem d18_11 : decode prog_34_method_23_code 11 = .ok (.iload_n 3, 1) := by decide +kernel
theorem d18_12 : decode prog_34_method_23_code 12 = .ok (.caload, 1) := by decide +kernel
theorem d18_13 : decode prog_34_method_23_code 13 = .ok (.istore 4, 2) := by decide +kernel
theorem d18_15 : decode prog_34_method_23_code 15 = .ok (.aload_n 0, 1) := by decide +kernel
theorem d18_16 : decode prog_34_method_23_code 16 = .ok (.getfield 149, 3) := by decide +kernel
theorem d18_19 : decode prog_34_method_23_code 19 = .ok (.ifCond .ne 49, 3) := by decide +kernel
theorem d18_22 : decode prog_34_method_23_code 22 = .ok (.aload_n 0, 1) := by decide +kernel
theorem d18_23 : decode prog_34_method_23_code 23 = .ok (.iload_n 3, 1) := by decide +kernel
theorem d18_24 : decode prog_34_method_23_code 24 = .ok (.invokevirtual 92, 3) := by decide +kernel
theorem d18_27 : decode prog_34_method_23_code 27 = .ok (.aload_n 0, 1) := by decide +kernel
theorem d18_28 : decode prog_34_method_23_code 28 = .ok (.getfield 114, 3) := by decide +kernel
theorem d18_31 : decode prog_34_method_23_code 31 = .ok (.lsub, 1) := by decide +kernel
theorem d18_32 : decode prog_34_method_23_code 32 = .ok (.ldc2_w 196, 3) := by decide +kernel
theorem d18_35 : decode prog_34_method_23_code 35 = .ok (.lcmp, 1) := by decide +kernel
theorem d18_36 : decode prog_34_method_23_code 36 = .ok (.ifCond .lt 32, 3) := by decide +kernel
theorem d18_68 : decode prog_34_method_23_code 68 = .ok (.aload_n 0, 1) := by decide +kernel
theorem d18_69 : decode prog_34_method_23_code 69 = .ok (.iload 4, 2) := by decide +kernel
theorem d18_71 : decode prog_34_method_23_code 71 = .ok (.bipush 93, 2) := by decide +kernel
theorem d18_73 : decode prog_34_method_23_code 73 = .ok (.iconst 2, 1) := by decide +kernel
theorem d18_74 : decode prog_34_method_23_code 74 = .ok (.invokevirtual 198, 3) := by decide +kernel
theorem d18_77 : decode prog_34_method_23_code 77 = .ok (.ifCond .eq 7, 3) := by decide +kernel
theorem d18_84 : decode prog_34_method_23_code 84 = .ok (.aload_n 0, 1) := by decide +kernel
theorem d18_85 : decode prog_34_method_23_code 85 = .ok (.iload 4, 2) := by decide +kernel
theorem d18_87 : decode prog_34_method_23_code 87 = .ok (.iload_n 3, 1) := by decide +kernel
theorem d18_88 : decode prog_34_method_23_code 88 = .ok (.invokevirtual 139, 3) := by decide +kernel
theorem d18_91 : decode prog_34_method_23_code 91 = .ok (.iinc 3 1, 3) := by decide +kernel
theorem d18_94 : decode prog_34_method_23_code 94 = .ok (.goto (-92), 3) := by decide +kernel
theorem d18_97 : decode prog_34_method_23_code 97 = .ok (.iload_n 2, 1) := by decide +kernel
theorem d18_98 : decode prog_34_method_23_code 98 = .ok (.ireturn, 1) := by decide +kernel
theorem pn18 : plainName "com/example/corridor/corridor/iso20022/MarkupScanner" = true := by first | (simp [plainName, overriddenIn]; done) | decide +kernel
theorem pd6 : parseMethodDescriptor "(I)J" = some ⟨[.int], some .long⟩ := by decide +kernel
theorem pd7 : parseMethodDescriptor "(CCI)Z" = some ⟨[.char, .char, .int], some .boolean⟩ := by decide +kernel
theorem ef_cd9 (m : MethodId) (r0 : Addr) : entryFrame m #[(.ref r0), (.int 9), (.int 10)] 5 = mkF m 0 #[.val (.ref r0), .val (.int 9), .val (.int 10), .unset, .unset] [] := by first | (simp [entryFrame, mkF, argsToLocals, Value.category]; done) | rfl
set_option maxRecDepth 65536 in
set_option maxHeartbeats 40000000 in
theorem cd9 (l : Launch) (Z : State) (a0 : Array Value) (hw : ∀ d ∈ tables_1, d.before a0 Z = true) (ws : List Jvm.Cond) (r0 : Addr) (u : Addr) (ku : ClassId) (cu : Int32) (en : Addr) (EC : String) (w : Int32) (sa : Nat → Addr) (x0 : Value) (x1 : Value) (x2 : Value) (x3 : Value) (ln : Int64) (x7 : Value) (fo : Int64) (x9 : Value) (wd : Int32) (x11 : Value) (x12 : Value) (x13 : Value) (co : Int64) (x16 : Value) (x17 : Value) (x18 : Value) (x19 : Value) (x20 : Value) (x21 : Value) (x22 : Value) (h0 : Heap) (n0 : Nat) (Z0 : n0 ≤ h0.size) (I : own_I Z h0 r0 u ku cu en EC w sa) (G : own_G Z h0 r0 [x0, x1, x2, x3, (.long ln), (.ref u), (.int 0), x7, (.long fo), x9, (.int wd), x11, x12, x13, (.int 0), (.long co), x16, x17, x18, x19, x20, x21, x22]) (gn_r0 : n0 ≤ r0) (hlt : lcmpW ((fo + ((((9 : Int32) - (0 : Int32)).toInt64) * (wd.toInt64))) - co) (8192 : Int64) < (0 : Int32)) :
    MetFree l (⟨"com/example/corridor/corridor/iso20022/MarkupScanner", "cdata", "(II)I"⟩ : MethodName) (head1 (Jvm.Cond.code (⟨"com/example/corridor/corridor/iso20022/MarkupScanner", "cdata", "(II)I"⟩ : MethodName) prog_34_method_23_code 5 (some .int) :: ws) ({ frames := 2, cells := 0, slots := 0, locals := 28 } : Room)) (fun a U => a = #[(.ref r0), (.int 9), (.int 10)] ∧ Z.Warmed39 U.vm ∧ U.heap = h0) (fun _ _ _ _ _ => True) (fun _ U o U' => ∃ v L, o = .returned v ∧ (own_QG Z r0 n0 h0 (some (.int 10)) [x0, x1, x2, x3, (.long (own_lx cu ln)), (.ref u), (.int 0), x7, (.long fo), x9, (.int wd), x11, x12, x13, (.int (own_mk cu)), (.long co), x16, x17, x18, x19, x20, x21, x22]) v U'.heap L ∧ FrameEnd U o U' L 0 0) := by
  refine MetFree.of_bodySF (plainFor_of_name pn18) hisR ?_
  intro p e s m args below meth c s₁ Bd hml0 hP hK
  obtain ⟨rfl, hZ, hh⟩ := hP
  have hx := Bd.exec
  have hby := Bd.bytes
  have hml : c.maxLocals = 5 := hml0
  have hown : s.vm.findClass "com/example/corridor/corridor/iso20022/MarkupScanner" = some m.cls := findClass_of_methodNamed Bd.named
  have hnm := (name_of_methodNamed Bd.named Bd.method).1
  have X0 : Stand p l e ({ frames := 2, cells := 0, slots := 0, locals := 28 } : Room) s m #[(.ref r0), (.int 9), (.int 10)] below meth c s₁ [] 0 0 := Stand.of_body Bd
  have e0 : s₁.heap = h0 := by rw [← hh, Bd.state]; rfl
  have N0 := Fr.nil n0
  have K0 : Keep h0 h0 [r0] := Keep.refl h0 [r0]
  show own_Goes p e below (own_End s (own_QG Z r0 n0 h0 (some (.int 10)) [x0, x1, x2, x3, (.long (own_lx cu ln)), (.ref u), (.int 0), x7, (.long fo), x9, (.int wd), x11, x12, x13, (.int (own_mk cu)), (.long co), x16, x17, x18, x19, x20, x21, x22]) 0 0) _
  refine own_g (s₁.setTop (mkF m 0 #[.val (.ref r0), .val (.int 9), .val (.int 10), .unset, .unset] [])) (fun t k => castTop (ef_cd9 m r0) k) ?_
  refine own_g (s₁.setTop (mkF m 1 #[.val (.ref r0), .val (.int 9), .val (.int 10), .unset, .unset] [(.int 9)])) (fun _ k => XS.iloadN X0.here hx rfl (hb hby d18_0) rfl k) ?_
  refine own_g (s₁.setTop (mkF m 2 #[.val (.ref r0), .val (.int 9), .val (.int 10), .val (.int 9), .unset] [])) (fun _ k => XS.istoreN X0.here hx rfl (hb hby d18_1) rfl (l' := #[.val (.ref r0), .val (.int 9), .val (.int 10), .val (.int 9), .unset]) rfl k) ?_
  refine own_g (s₁.setTop (mkF m 3 #[.val (.ref r0), .val (.int 9), .val (.int 10), .val (.int 9), .unset] [(.int 9)])) (fun _ k => XS.iloadN X0.here hx rfl (hb hby d18_2) rfl k) ?_
  refine own_g (s₁.setTop (mkF m 4 #[.val (.ref r0), .val (.int 9), .val (.int 10), .val (.int 9), .unset] [(.int 10), (.int 9)])) (fun _ k => XS.iloadN X0.here hx rfl (hb hby d18_3) rfl k) ?_
  refine own_g (s₁.setTop (mkF m 7 #[.val (.ref r0), .val (.int 9), .val (.int 10), .val (.int 9), .unset] [])) (fun _ k => XS.icmpNo X0.here hx rfl (hb hby d18_4) rfl (tlt (by decide : (9 : Int32) < (10 : Int32))).2.1 k) ?_
  refine own_g (s₁.setTop (mkF m 8 #[.val (.ref r0), .val (.int 9), .val (.int 10), .val (.int 9), .unset] [(.ref r0)])) (fun _ k => XS.aloadN X0.here hx rfl (hb hby d18_7) rfl rfl k) ?_
  obtain ⟨T1, X1, e1, st1⟩ := getF X0 hx hZ hown (host := "") (Or.inl (own_w hw 32 rfl)) Via.refl e0 (own_Gf G 5 rfl rfl) (g := (mkF m 8 #[.val (.ref r0), .val (.int 9), .val (.int 10), .val (.int 9), .unset] [(.ref r0)])) rfl rfl (hb hby d18_8)
  refine own_g (T1.setTop (mkF m 11 #[.val (.ref r0), .val (.int 9), .val (.int 10), .val (.int 9), .unset] [(.ref u)])) (st1) ?_
  refine own_g (T1.setTop (mkF m 12 #[.val (.ref r0), .val (.int 9), .val (.int 10), .val (.int 9), .unset] [(.int 9), (.ref u)])) (fun _ k => XS.iloadN X1.here hx rfl (hb hby d18_11) rfl k) ?_
  obtain ⟨cl2, Ar2, hin2, hat2⟩ := own_I.at I (9 : Int32) (by decide) (by decide)
  refine own_g (T1.setTop (mkF m 13 #[.val (.ref r0), .val (.int 9), .val (.int 10), .val (.int 9), .unset] [(.int cu)])) (X1.caload hx (j := (9 : Int32)) (v := (.int cu)) (by rw [e1]; exact Ar2.1) (State.isArrayOf_alike hZ.alike Ar2.2.1) Ar2.2.2 hin2 hat2 (g := (mkF m 12 #[.val (.ref r0), .val (.int 9), .val (.int 10), .val (.int 9), .unset] [(.int 9), (.ref u)])) rfl rfl (hb hby d18_12)) ?_
  refine own_g (T1.setTop (mkF m 15 #[.val (.ref r0), .val (.int 9), .val (.int 10), .val (.int 9), .val (.int cu)] [])) (fun _ k => XS.istore X1.here hx rfl (hb hby d18_13) rfl (l' := #[.val (.ref r0), .val (.int 9), .val (.int 10), .val (.int 9), .val (.int cu)]) rfl k) ?_
  refine own_g (T1.setTop (mkF m 16 #[.val (.ref r0), .val (.int 9), .val (.int 10), .val (.int 9), .val (.int cu)] [(.ref r0)])) (fun _ k => XS.aloadN X1.here hx rfl (hb hby d18_15) rfl rfl k) ?_
  obtain ⟨T3, X3, e3, st3⟩ := getF X1 hx hZ hown (host := "") (Or.inl (own_w hw 134 rfl)) Via.refl e1 (own_Gf G 14 rfl rfl) (g := (mkF m 16 #[.val (.ref r0), .val (.int 9), .val (.int 10), .val (.int 9), .val (.int cu)] [(.ref r0)])) rfl rfl (hb hby d18_16)
  refine own_g (T3.setTop (mkF m 19 #[.val (.ref r0), .val (.int 9), .val (.int 10), .val (.int 9), .val (.int cu)] [(.int 0)])) (st3) ?_
  refine own_g (T3.setTop (mkF m 22 #[.val (.ref r0), .val (.int 9), .val (.int 10), .val (.int 9), .val (.int cu)] [])) (fun _ k => XS.ifNo X3.here hx rfl (hb hby d18_19) rfl ((if0 _ _).trans (teq (by decide : (0 : Int32) = (0 : Int32))).2) k) ?_
  refine own_g (T3.setTop (mkF m 23 #[.val (.ref r0), .val (.int 9), .val (.int 10), .val (.int 9), .val (.int cu)] [(.ref r0)])) (fun _ k => XS.aloadN X3.here hx rfl (hb hby d18_22) rfl rfl k) ?_
  refine own_g (T3.setTop (mkF m 24 #[.val (.ref r0), .val (.int 9), .val (.int 10), .val (.int 9), .val (.int cu)] [(.int 9), (.ref r0)])) (fun _ k => XS.iloadN X3.here hx rfl (hb hby d18_23) rfl k) ?_
  obtain ⟨cq4, qk4, qk4'⟩ := G.1.cell
  obtain ⟨_, _, ⟨T4, L4, k4, n4⟩, -, X4, ⟨Lc4, hQ4, l4, y4, z4⟩, st4⟩ := X3.privateBack hx (y := (⟨"com/example/corridor/corridor/iso20022/MarkupScanner", "offsetAt", "(I)J"⟩ : MethodName)) hown (mvT hZ (own_w hw 136 rfl)) (mvT hZ (own_w hw 137 rfl)) (mvT hZ (own_selPriv (own_w hw 137 rfl) (own_w hw 138 rfl) (own_w hw 30 rfl) rfl (by decide))) (Cond.privateMethod_at (mvP hZ (own_w hw 138 rfl) (args := #[]))) (mvT hZ (own_w hw 139 rfl)) (by decide) (backOf (W := 0) (off l Z a0 hw [] r0 (9 : Int32) u ku cu en EC w sa x0 x1 x2 x3 (.long ln) (.ref u) (0 : Int32) x7 fo x9 wd x11 x12 x13 (.int 0) (.long co) x16 x17 x18 x19 x20 x21 x22 h0 n0 Z0 I G gn_r0) hZ (own_w hw 139 rfl) (own_w hw 7 rfl) (by decide) (by decide)) (g := (mkF m 24 #[.val (.ref r0), .val (.int 9), .val (.int 10), .val (.int 9), .val (.int cu)] [(.int 9), (.ref r0)])) rfl (by rw [hml]; rfl) (Steps.refl _) (a := r0) (by rw [e3]; exact qk4) qk4' (argsL := [(.int 9)]) (rest := []) (lenOf pd6 rfl) rfl (by show 2 * 0 + _ ≤ _; exact Nat.le_of_eq rfl) (hb hby d18_24) (fun _ _ => ⟨rfl, e3, (by decide : 0 + 0 ≤ _), (by decide : 0 + 0 ≤ _)⟩)
  dsimp only [Pt.U, Pt.locs, Pt.cells, Pt.slots] at X4 l4 y4 z4 st4 hQ4
  subst l4 y4 z4
  obtain ⟨rfl, Nq4, e4⟩ := hQ4
  have N4 := Fr.app N0 Nq4
  refine own_g (T4.setTop (mkF m 27 #[.val (.ref r0), .val (.int 9), .val (.int 10), .val (.int 9), .val (.int cu)] [(.long (fo + ((((9 : Int32) - (0 : Int32)).toInt64) * (wd.toInt64))))])) (fun _ k => st4.trans k) ?_
  refine own_g (T4.setTop (mkF m 28 #[.val (.ref r0), .val (.int 9), .val (.int 10), .val (.int 9), .val (.int cu)] [(.ref r0), (.long (fo + ((((9 : Int32) - (0 : Int32)).toInt64) * (wd.toInt64))))])) (fun _ k => XS.aloadN X4.here hx rfl (hb hby d18_27) rfl rfl k) ?_
  obtain ⟨T5, X5, e5, st5⟩ := getF X4 hx hZ hown (host := "") (Or.inl (own_w hw 140 rfl)) Via.refl e4 (own_Gf G 15 rfl rfl) (g := (mkF m 28 #[.val (.ref r0), .val (.int 9), .val (.int 10), .val (.int 9), .val (.int cu)] [(.ref r0), (.long (fo + ((((9 : Int32) - (0 : Int32)).toInt64) * (wd.toInt64))))])) rfl rfl (hb hby d18_28)
  refine own_g (T5.setTop (mkF m 31 #[.val (.ref r0), .val (.int 9), .val (.int 10), .val (.int 9), .val (.int cu)] [(.long co), (.long (fo + ((((9 : Int32) - (0 : Int32)).toInt64) * (wd.toInt64))))])) (st5) ?_
  refine own_g (T5.setTop (mkF m 32 #[.val (.ref r0), .val (.int 9), .val (.int 10), .val (.int 9), .val (.int cu)] [(.long ((fo + ((((9 : Int32) - (0 : Int32)).toInt64) * (wd.toInt64))) - co))])) (fun _ k => XS.lsub X5.here hx rfl (hb hby d18_31) rfl k) ?_
  refine own_g (T5.setTop (mkF m 35 #[.val (.ref r0), .val (.int 9), .val (.int 10), .val (.int 9), .val (.int cu)] [(.long 8192), (.long ((fo + ((((9 : Int32) - (0 : Int32)).toInt64) * (wd.toInt64))) - co))])) (X5.ldc2Long hx hown (mvT hZ (own_w hw 148 rfl)) (g := (mkF m 32 #[.val (.ref r0), .val (.int 9), .val (.int 10), .val (.int 9), .val (.int cu)] [(.long ((fo + ((((9 : Int32) - (0 : Int32)).toInt64) * (wd.toInt64))) - co))])) rfl (hb hby d18_32)) ?_
  refine own_g (T5.setTop (mkF m 36 #[.val (.ref r0), .val (.int 9), .val (.int 10), .val (.int 9), .val (.int cu)] [(.int (lcmpW ((fo + ((((9 : Int32) - (0 : Int32)).toInt64) * (wd.toInt64))) - co) (8192 : Int64)))])) (fun _ k => XS.lcmp X5.here hx rfl (hb hby d18_35) rfl k) ?_
  refine own_g (T5.setTop (mkF m 68 #[.val (.ref r0), .val (.int 9), .val (.int 10), .val (.int 9), .val (.int cu)] [])) (fun _ k => XS.ifYes X5.here hx rfl (pc0 := 36) (pc' := 68) rfl (hb hby d18_36) rfl ((if0 _ _).trans (tlt (hlt : (lcmpW ((fo + ((((9 : Int32) - (0 : Int32)).toInt64) * (wd.toInt64))) - co) (8192 : Int64)) < (0 : Int32))).1) (by decide) (by decide) k) ?_
  refine own_g (T5.setTop (mkF m 69 #[.val (.ref r0), .val (.int 9), .val (.int 10), .val (.int 9), .val (.int cu)] [(.ref r0)])) (fun _ k => XS.aloadN X5.here hx rfl (hb hby d18_68) rfl rfl k) ?_
  refine own_g (T5.setTop (mkF m 71 #[.val (.ref r0), .val (.int 9), .val (.int 10), .val (.int 9), .val (.int cu)] [(.int cu), (.ref r0)])) (fun _ k => XS.iload X5.here hx rfl (hb hby d18_69) rfl k) ?_
  refine own_g (T5.setTop (mkF m 73 #[.val (.ref r0), .val (.int 9), .val (.int 10), .val (.int 9), .val (.int cu)] [(.int 93), (.int cu), (.ref r0)])) (fun _ k => XS.bipush X5.here hx rfl (hb hby d18_71) k) ?_
  refine own_g (T5.setTop (mkF m 74 #[.val (.ref r0), .val (.int 9), .val (.int 10), .val (.int 9), .val (.int cu)] [(.int 2), (.int 93), (.int cu), (.ref r0)])) (fun _ k => XS.iconst X5.here hx rfl (hb hby d18_73) k) ?_
  obtain ⟨cq6, qk6, qk6'⟩ := G.1.cell
  obtain ⟨_, _, ⟨T6, L6, k6, n6⟩, -, X6, ⟨Lc6, hQ6, l6, y6, z6⟩, st6⟩ := X5.privateBack hx (y := (⟨"com/example/corridor/corridor/iso20022/MarkupScanner", "closes", "(CCI)Z"⟩ : MethodName)) hown (mvT hZ (own_w hw 149 rfl)) (mvT hZ (own_w hw 150 rfl)) (mvT hZ (own_selPriv (own_w hw 150 rfl) (own_w hw 151 rfl) (own_w hw 30 rfl) rfl (by decide))) (Cond.privateMethod_at (mvP hZ (own_w hw 151 rfl) (args := #[]))) (mvT hZ (own_w hw 152 rfl)) (by decide) (backOf (W := 0) (clc l Z a0 hw [] r0 cu u ku en EC w sa x0 x1 x2 x3 (.long ln) (.ref u) (.int 0) x7 (.long fo) x9 (.int wd) x11 x12 x13 (.long co) x16 x17 x18 x19 x20 x21 x22 h0 n0 Z0 I G gn_r0) hZ (own_w hw 152 rfl) (own_w hw 7 rfl) (by decide) (by decide)) (g := (mkF m 74 #[.val (.ref r0), .val (.int 9), .val (.int 10), .val (.int 9), .val (.int cu)] [(.int 2), (.int 93), (.int cu), (.ref r0)])) rfl (by rw [hml]; rfl) (Steps.refl _) (a := r0) (by rw [e5]; exact qk6) qk6' (argsL := [(.int cu), (.int 93), (.int 2)]) (rest := []) (lenOf pd7 rfl) rfl (by show 2 * 0 + _ ≤ _; exact Nat.le_of_eq rfl) (hb hby d18_74) (fun _ _ => ⟨rfl, e5, (by decide : 0 + 0 ≤ _), (by decide : 0 + 0 ≤ _)⟩)
  dsimp only [Pt.U, Pt.locs, Pt.cells, Pt.slots] at X6 l6 y6 z6 st6 hQ6
  subst l6 y6 z6
  obtain ⟨rfl, Nq6, Kq6, Gq6⟩ := hQ6
  have N6 := Fr.app N4 Nq6
  have I6 : own_I Z T6.heap r0 u ku cu en EC w sa := I.keep Kq6 G.1
  have G6 : own_G Z T6.heap r0 [x0, x1, x2, x3, (.long ln), (.ref u), (.int 0), x7, (.long fo), x9, (.int wd), x11, x12, x13, (.int (own_mk cu)), (.long co), x16, x17, x18, x19, x20, x21, x22] := Gq6
  have Z6 : n0 ≤ T6.heap.size := Nat.le_trans Z0 Kq6.1
  have K6 : Keep h0 T6.heap [r0] := K0.trans Kq6 (allS (Or.inl (List.mem_of_getElem? (i := 0) rfl)) all0)
  refine own_g (T6.setTop (mkF m 77 #[.val (.ref r0), .val (.int 9), .val (.int 10), .val (.int 9), .val (.int cu)] [(.int 0)])) (fun _ k => st6.trans k) ?_
  refine own_g (T6.setTop (mkF m 84 #[.val (.ref r0), .val (.int 9), .val (.int 10), .val (.int 9), .val (.int cu)] [])) (fun _ k => XS.ifYes X6.here hx rfl (pc0 := 77) (pc' := 84) rfl (hb hby d18_77) rfl ((if0 _ _).trans (teq (by decide : (0 : Int32) = (0 : Int32))).1) (by decide) (by decide) k) ?_
  refine own_g (T6.setTop (mkF m 85 #[.val (.ref r0), .val (.int 9), .val (.int 10), .val (.int 9), .val (.int cu)] [(.ref r0)])) (fun _ k => XS.aloadN X6.here hx rfl (hb hby d18_84) rfl rfl k) ?_
  refine own_g (T6.setTop (mkF m 87 #[.val (.ref r0), .val (.int 9), .val (.int 10), .val (.int 9), .val (.int cu)] [(.int cu), (.ref r0)])) (fun _ k => XS.iload X6.here hx rfl (hb hby d18_85) rfl k) ?_
  refine own_g (T6.setTop (mkF m 88 #[.val (.ref r0), .val (.int 9), .val (.int 10), .val (.int 9), .val (.int cu)] [(.int 9), (.int cu), (.ref r0)])) (fun _ k => XS.iloadN X6.here hx rfl (hb hby d18_87) rfl k) ?_
  obtain ⟨cq7, qk7, qk7'⟩ := G6.1.cell
  obtain ⟨_, _, ⟨T7, L7, k7, n7⟩, -, X7, ⟨Lc7, hQ7, l7, y7, z7⟩, st7⟩ := X6.privateBack hx (y := (⟨"com/example/corridor/corridor/iso20022/MarkupScanner", "lineEnd", "(CI)V"⟩ : MethodName)) hown (mvT hZ (own_w hw 87 rfl)) (mvT hZ (own_w hw 88 rfl)) (mvT hZ (own_selPriv (own_w hw 88 rfl) (own_w hw 89 rfl) (own_w hw 30 rfl) rfl (by decide))) (Cond.privateMethod_at (mvP hZ (own_w hw 89 rfl) (args := #[]))) (mvT hZ (own_w hw 90 rfl)) (by decide) (backOf (W := 0) (le9 l Z a0 hw [] r0 cu u ku en EC w sa x0 x1 x2 x3 ln x7 (.long fo) x9 (.int wd) x11 x12 x13 (.int (own_mk cu)) (.long co) x16 x17 x18 x19 x20 x21 x22 T6.heap n0 Z6 I6 G6 gn_r0) hZ (own_w hw 90 rfl) (own_w hw 7 rfl) (by decide) (by decide)) (g := (mkF m 88 #[.val (.ref r0), .val (.int 9), .val (.int 10), .val (.int 9), .val (.int cu)] [(.int 9), (.int cu), (.ref r0)])) rfl (by rw [hml]; rfl) (Steps.refl _) (a := r0) qk7 qk7' (argsL := [(.int cu), (.int 9)]) (rest := []) (lenOf pd5 rfl) rfl (by show 2 * 0 + _ ≤ _; exact Nat.le_of_eq rfl) (hb hby d18_88) (fun _ _ => ⟨rfl, rfl, (by decide : 0 + 0 ≤ _), (by decide : 0 + 0 ≤ _)⟩)
  dsimp only [Pt.U, Pt.locs, Pt.cells, Pt.slots] at X7 l7 y7 z7 st7 hQ7
  subst l7 y7 z7
  obtain ⟨rfl, Nq7, Kq7, Gq7⟩ := hQ7
  have N7 := Fr.app N6 Nq7
  have I7 : own_I Z T7.heap r0 u ku cu en EC w sa := I6.keep Kq7 G6.1
  have G7 : own_G Z T7.heap r0 [x0, x1, x2, x3, (.long (own_lx cu ln)), (.ref u), (.int 0), x7, (.long fo), x9, (.int wd), x11, x12, x13, (.int (own_mk cu)), (.long co), x16, x17, x18, x19, x20, x21, x22] := Gq7
  have Z7 : n0 ≤ T7.heap.size := Nat.le_trans Z6 Kq7.1
  have K7 : Keep h0 T7.heap [r0] := K6.trans Kq7 (allS (Or.inl (List.mem_of_getElem? (i := 0) rfl)) all0)
  refine own_g (T7.setTop (mkF m 91 #[.val (.ref r0), .val (.int 9), .val (.int 10), .val (.int 9), .val (.int cu)] [])) (fun _ k => st7.trans k) ?_
  refine own_g (T7.setTop (mkF m 94 #[.val (.ref r0), .val (.int 9), .val (.int 10), .val (.int ((9 : Int32) + (1 : Int32))), .val (.int cu)] [])) (fun _ k => XS.iinc X7.here hx rfl (hb hby d18_91) rfl (l' := #[.val (.ref r0), .val (.int 9), .val (.int 10), .val (.int ((9 : Int32) + (1 : Int32))), .val (.int cu)]) rfl k) ?_
  rw [show ((9 : Int32) + (1 : Int32)) = (10 : Int32) from by decide]
  refine own_g (T7.setTop (mkF m 2 #[.val (.ref r0), .val (.int 9), .val (.int 10), .val (.int 10), .val (.int cu)] [])) (fun _ k => XS.goto X7.here hx rfl (pc0 := 94) (pc' := 2) rfl (hb hby d18_94) (by decide) (by decide) k) ?_
  refine own_g (T7.setTop (mkF m 3 #[.val (.ref r0), .val (.int 9), .val (.int 10), .val (.int 10), .val (.int cu)] [(.int 10)])) (fun _ k => XS.iloadN X7.here hx rfl (hb hby d18_2) rfl k) ?_
  refine own_g (T7.setTop (mkF m 4 #[.val (.ref r0), .val (.int 9), .val (.int 10), .val (.int 10), .val (.int cu)] [(.int 10), (.int 10)])) (fun _ k => XS.iloadN X7.here hx rfl (hb hby d18_3) rfl k) ?_
  refine own_g (T7.setTop (mkF m 97 #[.val (.ref r0), .val (.int 9), .val (.int 10), .val (.int 10), .val (.int cu)] [])) (fun _ k => XS.icmpYes X7.here hx rfl (pc0 := 4) (pc' := 97) rfl (hb hby d18_4) rfl (flt (by decide : ¬ ((10 : Int32) < (10 : Int32)))).2.1 (by decide) (by decide) k) ?_
  refine own_g (T7.setTop (mkF m 98 #[.val (.ref r0), .val (.int 9), .val (.int 10), .val (.int 10), .val (.int cu)] [(.int 10)])) (fun _ k => XS.iloadN X7.here hx rfl (hb hby d18_97) rfl k) ?_
  exact own_retI X7 hx Bd.returns (hb hby d18_98) Bd.notSynchronized (by decide) (by decide) ⟨rfl, N7, K7, G7⟩
theorem ef_cdA (m : MethodId) (r0 : Addr) (p1 : Int32) (p2 : Int32) : entryFrame m #[(.ref r0), (.int p1), (.int p2)] 5 = mkF m 0 #[.val (.ref r0), .val (.int p1), .val (.int p2), .unset, .unset] [] := by first | (simp [entryFrame, mkF, argsToLocals, Value.category]; done) | rfl
set_option maxRecDepth 65536 in
set_option maxHeartbeats 40000000 in
theorem cdA (l : Launch) (Z : State) (a0 : Array Value) (hw : ∀ d ∈ tables_1, d.before a0 Z = true) (ws : List Jvm.Cond) (r0 : Addr) (p1 : Int32) (p2 : Int32) (u : Addr) (ku : ClassId) (cu : Int32) (en : Addr) (EC : String) (w : Int32) (sa : Nat → Addr) (x0 : Value) (x1 : Value) (x2 : Value) (x3 : Value) (x4 : Value) (fr : Int32) (x7 : Value) (fo : Int64) (x12 : Value) (x13 : Value) (mk : Int32) (co : Int64) (pr : Int32) (x17 : Value) (x18 : Value) (x19 : Value) (x20 : Value) (x21 : Value) (x22 : Value) (qi : Int32) (h0 : Heap) (n0 : Nat) (Z0 : n0 ≤ h0.size) (I : own_I Z h0 r0 u ku cu en EC w sa) (G : own_G Z h0 r0 [x0, x1, x2, x3, x4, (.ref u), (.int fr), x7, (.long fo), (.ref en), (.int w), (.int 0), x12, x13, (.int mk), (.long co), (.int pr), x17, x18, x19, x20, x21, x22]) (gn_r0 : n0 ≤ r0) (HC : own_C fo co fr w qi) (b1 : 10 ≤ fr.toInt) (b2 : fr.toInt ≤ p1.toInt) (b4 : p1.toInt < p2.toInt) (b5 : qi.toInt < 16394) (b6 : p2.toInt ≤ qi.toInt) :
    MetFree l (⟨"com/example/corridor/corridor/iso20022/MarkupScanner", "cdata", "(II)I"⟩ : MethodName) (head1 (Jvm.Cond.code (⟨"com/example/corridor/corridor/iso20022/MarkupScanner", "cdata", "(II)I"⟩ : MethodName) prog_34_method_23_code 5 (some .int) :: ws) ({ frames := 2, cells := 0, slots := 0, locals := 28 } : Room)) (fun a U => a = #[(.ref r0), (.int p1), (.int p2)] ∧ Z.Warmed39 U.vm ∧ U.heap = h0) (fun _ _ _ _ _ => True) (fun _ U o U' => ∃ v L, o = .returned v ∧ (own_QG Z r0 n0 h0 (some (.int p2)) [x0, x1, x2, x3, x4, (.ref u), (.int fr), x7, (.long fo), (.ref en), (.int w), (.int 0), x12, x13, (.int 0), (.long co), (.int pr), x17, x18, x19, x20, x21, x22]) v U'.heap L ∧ FrameEnd U o U' L 0 0) := by
  refine MetFree.of_bodySF (plainFor_of_name pn18) hisR ?_
  intro p e s m args below meth c s₁ Bd hml0 hP hK
  obtain ⟨rfl, hZ, hh⟩ := hP
  have hx := Bd.exec
  have hby := Bd.bytes
  have hml : c.maxLocals = 5 := hml0
  have hown : s.vm.findClass "com/example/corridor/corridor/iso20022/MarkupScanner" = some m.cls := findClass_of_methodNamed Bd.named
  have hnm := (name_of_methodNamed Bd.named Bd.method).1
  have X0 : Stand p l e ({ frames := 2, cells := 0, slots := 0, locals := 28 } : Room) s m #[(.ref r0), (.int p1), (.int p2)] below meth c s₁ [] 0 0 := Stand.of_body Bd
  have e0 : s₁.heap = h0 := by rw [← hh, Bd.state]; rfl
  have N0 := Fr.nil n0
  have K0 : Keep h0 h0 [r0] := Keep.refl h0 [r0]
  show own_Goes p e below (own_End s (own_QG Z r0 n0 h0 (some (.int p2)) [x0, x1, x2, x3, x4, (.ref u), (.int fr), x7, (.long fo), (.ref en), (.int w), (.int 0), x12, x13, (.int 0), (.long co), (.int pr), x17, x18, x19, x20, x21, x22]) 0 0) _
  refine own_g (s₁.setTop (mkF m 0 #[.val (.ref r0), .val (.int p1), .val (.int p2), .unset, .unset] [])) (fun t k => castTop (ef_cdA m r0 p1 p2) k) ?_
  refine own_g (s₁.setTop (mkF m 1 #[.val (.ref r0), .val (.int p1), .val (.int p2), .unset, .unset] [(.int p1)])) (fun _ k => XS.iloadN X0.here hx rfl (hb hby d18_0) rfl k) ?_
  refine own_g (s₁.setTop (mkF m 2 #[.val (.ref r0), .val (.int p1), .val (.int p2), .val (.int p1), .unset] [])) (fun _ k => XS.istoreN X0.here hx rfl (hb hby d18_1) rfl (l' := #[.val (.ref r0), .val (.int p1), .val (.int p2), .val (.int p1), .unset]) rfl k) ?_
  have loop : ∀ (k : Nat) (i mk' : Int32) (sl : Slot) (T : State) (locs : List Loc) (h : Heap) (X : Stand p l e ({ frames := 2, cells := 0, slots := 0, locals := 28 } : Room) s m #[(.ref r0), (.int p1), (.int p2)] below meth c T locs 0 0) (eT : T.heap = h) (N : Fr n0 locs) (Zh : n0 ≤ h.size) (Kh : Keep h0 h [r0]) (Ih : own_I Z h r0 u ku cu en EC w sa) (Gh : own_G Z h r0 [x0, x1, x2, x3, x4, (.ref u), (.int fr), x7, (.long fo), (.ref en), (.int w), (.int 0), x12, x13, (.int mk'), (.long co), (.int pr), x17, x18, x19, x20, x21, x22]) (hsl : sl = .unset ∨ sl = .val (.int 0)) (hk : i.toInt + k = p2.toInt) (hi : p1.toInt ≤ i.toInt) (hm : p1.toInt < i.toInt → mk' = (0 : Int32)), own_Goes p e below (own_End s (own_QG Z r0 n0 h0 (some (.int p2)) [x0, x1, x2, x3, x4, (.ref u), (.int fr), x7, (.long fo), (.ref en), (.int w), (.int 0), x12, x13, (.int 0), (.long co), (.int pr), x17, x18, x19, x20, x21, x22]) 0 0) (T.setTop (mkF m 2 #[.val (.ref r0), .val (.int p1), .val (.int p2), .val (.int i), sl] [])) := by
    intro k
    induction k with
    | zero =>
      intro i mk' sl T locs h X eT N Zh Kh Ih Gh hsl hk hi hm
      obtain rfl : mk' = (0 : Int32) := hm (by omega)
      refine own_g (T.setTop (mkF m 3 #[.val (.ref r0), .val (.int p1), .val (.int p2), .val (.int i), sl] [(.int i)])) (fun _ k => XS.iloadN X.here hx rfl (hb hby d18_2) rfl k) ?_
      refine own_g (T.setTop (mkF m 4 #[.val (.ref r0), .val (.int p1), .val (.int p2), .val (.int i), sl] [(.int p2), (.int i)])) (fun _ k => XS.iloadN X.here hx rfl (hb hby d18_3) rfl k) ?_
      refine own_g (T.setTop (mkF m 97 #[.val (.ref r0), .val (.int p1), .val (.int p2), .val (.int i), sl] [])) (fun _ k => XS.icmpYes X.here hx rfl (pc0 := 4) (pc' := 97) rfl (hb hby d18_4) rfl (flt (own_nilt (by omega) : ¬ (i < p2))).2.1 (by decide) (by decide) k) ?_
      refine own_g (T.setTop (mkF m 98 #[.val (.ref r0), .val (.int p1), .val (.int p2), .val (.int i), sl] [(.int p2)])) (fun _ k => XS.iloadN X.here hx rfl (hb hby d18_97) rfl k) ?_
      exact own_retI X hx Bd.returns (hb hby d18_98) Bd.notSynchronized (by decide) (by decide) (by rw [eT]; exact ⟨rfl, N, Kh, Gh⟩)
    | succ k ih =>
      intro i mk' sl T locs h X eT N Zh Kh Ih Gh hsl hk hi hm
      have hi1 := own_inc (i := i) (by omega) (by omega)
      refine own_g (T.setTop (mkF m 3 #[.val (.ref r0), .val (.int p1), .val (.int p2), .val (.int i), sl] [(.int i)])) (fun _ k => XS.iloadN X.here hx rfl (hb hby d18_2) rfl k) ?_
      refine own_g (T.setTop (mkF m 4 #[.val (.ref r0), .val (.int p1), .val (.int p2), .val (.int i), sl] [(.int p2), (.int i)])) (fun _ k => XS.iloadN X.here hx rfl (hb hby d18_3) rfl k) ?_
      refine own_g (T.setTop (mkF m 7 #[.val (.ref r0), .val (.int p1), .val (.int p2), .val (.int i), sl] [])) (fun _ k => XS.icmpNo X.here hx rfl (hb hby d18_4) rfl (tlt (own_ilt (by omega) : i < p2)).2.1 k) ?_
      refine own_g (T.setTop (mkF m 8 #[.val (.ref r0), .val (.int p1), .val (.int p2), .val (.int i), sl] [(.ref r0)])) (fun _ k => XS.aloadN X.here hx rfl (hb hby d18_7) rfl rfl k) ?_
      obtain ⟨T1, X1, e1, st1⟩ := getF X hx hZ hown (host := "") (Or.inl (own_w hw 32 rfl)) Via.refl eT (own_Gf Gh 5 rfl rfl) (g := (mkF m 8 #[.val (.ref r0), .val (.int p1), .val (.int p2), .val (.int i), sl] [(.ref r0)])) rfl rfl (hb hby d18_8)
      refine own_g (T1.setTop (mkF m 11 #[.val (.ref r0), .val (.int p1), .val (.int p2), .val (.int i), sl] [(.ref u)])) (st1) ?_
      refine own_g (T1.setTop (mkF m 12 #[.val (.ref r0), .val (.int p1), .val (.int p2), .val (.int i), sl] [(.int i), (.ref u)])) (fun _ k => XS.iloadN X1.here hx rfl (hb hby d18_11) rfl k) ?_
      obtain ⟨cl2, Ar2, hin2, hat2⟩ := own_I.at0 Ih i (by omega) (by omega)
      refine own_g (T1.setTop (mkF m 13 #[.val (.ref r0), .val (.int p1), .val (.int p2), .val (.int i), sl] [(.int 0)])) (X1.caload hx (j := i) (v := (.int 0)) (by rw [e1]; exact Ar2.1) (State.isArrayOf_alike hZ.alike Ar2.2.1) Ar2.2.2 hin2 hat2 (g := (mkF m 12 #[.val (.ref r0), .val (.int p1), .val (.int p2), .val (.int i), sl] [(.int i), (.ref u)])) rfl rfl (hb hby d18_12)) ?_
      refine own_g (T1.setTop (mkF m 15 #[.val (.ref r0), .val (.int p1), .val (.int p2), .val (.int i), .val (.int 0)] [])) (fun _ k => XS.istore X1.here hx rfl (hb hby d18_13) rfl (l' := #[.val (.ref r0), .val (.int p1), .val (.int p2), .val (.int i), .val (.int 0)]) (by rcases hsl with rfl | rfl <;> rfl) k) ?_
      refine own_g (T1.setTop (mkF m 16 #[.val (.ref r0), .val (.int p1), .val (.int p2), .val (.int i), .val (.int 0)] [(.ref r0)])) (fun _ k => XS.aloadN X1.here hx rfl (hb hby d18_15) rfl rfl k) ?_
      obtain ⟨T3, X3, e3, st3⟩ := getF X1 hx hZ hown (host := "") (Or.inl (own_w hw 134 rfl)) Via.refl e1 (own_Gf Gh 14 rfl rfl) (g := (mkF m 16 #[.val (.ref r0), .val (.int p1), .val (.int p2), .val (.int i), .val (.int 0)] [(.ref r0)])) rfl rfl (hb hby d18_16)
      refine own_g (T3.setTop (mkF m 19 #[.val (.ref r0), .val (.int p1), .val (.int p2), .val (.int i), .val (.int 0)] [(.int mk')])) (st3) ?_
      by_cases hc19 : mk' = (0 : Int32)
      · skip
        refine own_g (T3.setTop (mkF m 22 #[.val (.ref r0), .val (.int p1), .val (.int p2), .val (.int i), .val (.int 0)] [])) (fun _ k => XS.ifNo X3.here hx rfl (hb hby d18_19) rfl ((if0 _ _).trans (teq hc19).2) k) ?_
        refine own_g (T3.setTop (mkF m 23 #[.val (.ref r0), .val (.int p1), .val (.int p2), .val (.int i), .val (.int 0)] [(.ref r0)])) (fun _ k => XS.aloadN X3.here hx rfl (hb hby d18_22) rfl rfl k) ?_
        refine own_g (T3.setTop (mkF m 24 #[.val (.ref r0), .val (.int p1), .val (.int p2), .val (.int i), .val (.int 0)] [(.int i), (.ref r0)])) (fun _ k => XS.iloadN X3.here hx rfl (hb hby d18_23) rfl k) ?_
        obtain ⟨cq4, qk4, qk4'⟩ := Gh.1.cell
        obtain ⟨_, _, ⟨T4, L4, k4, n4⟩, -, X4, ⟨Lc4, hQ4, l4, y4, z4⟩, st4⟩ := X3.privateBack hx (y := (⟨"com/example/corridor/corridor/iso20022/MarkupScanner", "offsetAt", "(I)J"⟩ : MethodName)) hown (mvT hZ (own_w hw 136 rfl)) (mvT hZ (own_w hw 137 rfl)) (mvT hZ (own_selPriv (own_w hw 137 rfl) (own_w hw 138 rfl) (own_w hw 30 rfl) rfl (by decide))) (Cond.privateMethod_at (mvP hZ (own_w hw 138 rfl) (args := #[]))) (mvT hZ (own_w hw 139 rfl)) (by decide) (backOf (W := 0) (off l Z a0 hw [] r0 i u ku cu en EC w sa x0 x1 x2 x3 x4 (.ref u) fr x7 fo (.ref en) w (.int 0) x12 x13 (.int mk') (.long co) (.int pr) x17 x18 x19 x20 x21 x22 h n0 Zh Ih Gh gn_r0) hZ (own_w hw 139 rfl) (own_w hw 7 rfl) (by decide) (by decide)) (g := (mkF m 24 #[.val (.ref r0), .val (.int p1), .val (.int p2), .val (.int i), .val (.int 0)] [(.int i), (.ref r0)])) rfl (by rw [hml]; rfl) (Steps.refl _) (a := r0) (by rw [e3]; exact qk4) qk4' (argsL := [(.int i)]) (rest := []) (lenOf pd6 rfl) rfl (by show 2 * 0 + _ ≤ _; exact Nat.le_of_eq rfl) (hb hby d18_24) (fun _ _ => ⟨rfl, e3, (by decide : 0 + 0 ≤ _), (by decide : 0 + 0 ≤ _)⟩)
        dsimp only [Pt.U, Pt.locs, Pt.cells, Pt.slots] at X4 l4 y4 z4 st4 hQ4
        subst l4 y4 z4
        obtain ⟨rfl, Nq4, e4⟩ := hQ4
        have N4 := Fr.app N Nq4
        refine own_g (T4.setTop (mkF m 27 #[.val (.ref r0), .val (.int p1), .val (.int p2), .val (.int i), .val (.int 0)] [(.long (fo + (((i - fr).toInt64) * (w.toInt64))))])) (fun _ k => st4.trans k) ?_
        refine own_g (T4.setTop (mkF m 28 #[.val (.ref r0), .val (.int p1), .val (.int p2), .val (.int i), .val (.int 0)] [(.ref r0), (.long (fo + (((i - fr).toInt64) * (w.toInt64))))])) (fun _ k => XS.aloadN X4.here hx rfl (hb hby d18_27) rfl rfl k) ?_
        obtain ⟨T5, X5, e5, st5⟩ := getF X4 hx hZ hown (host := "") (Or.inl (own_w hw 140 rfl)) Via.refl e4 (own_Gf Gh 15 rfl rfl) (g := (mkF m 28 #[.val (.ref r0), .val (.int p1), .val (.int p2), .val (.int i), .val (.int 0)] [(.ref r0), (.long (fo + (((i - fr).toInt64) * (w.toInt64))))])) rfl rfl (hb hby d18_28)
        refine own_g (T5.setTop (mkF m 31 #[.val (.ref r0), .val (.int p1), .val (.int p2), .val (.int i), .val (.int 0)] [(.long co), (.long (fo + (((i - fr).toInt64) * (w.toInt64))))])) (st5) ?_
        refine own_g (T5.setTop (mkF m 32 #[.val (.ref r0), .val (.int p1), .val (.int p2), .val (.int i), .val (.int 0)] [(.long ((fo + (((i - fr).toInt64) * (w.toInt64))) - co))])) (fun _ k => XS.lsub X5.here hx rfl (hb hby d18_31) rfl k) ?_
        refine own_g (T5.setTop (mkF m 35 #[.val (.ref r0), .val (.int p1), .val (.int p2), .val (.int i), .val (.int 0)] [(.long 8192), (.long ((fo + (((i - fr).toInt64) * (w.toInt64))) - co))])) (X5.ldc2Long hx hown (mvT hZ (own_w hw 148 rfl)) (g := (mkF m 32 #[.val (.ref r0), .val (.int p1), .val (.int p2), .val (.int i), .val (.int 0)] [(.long ((fo + (((i - fr).toInt64) * (w.toInt64))) - co))])) rfl (hb hby d18_32)) ?_
        refine own_g (T5.setTop (mkF m 36 #[.val (.ref r0), .val (.int p1), .val (.int p2), .val (.int i), .val (.int 0)] [(.int (lcmpW ((fo + (((i - fr).toInt64) * (w.toInt64))) - co) (8192 : Int64)))])) (fun _ k => XS.lcmp X5.here hx rfl (hb hby d18_35) rfl k) ?_
        refine own_g (T5.setTop (mkF m 68 #[.val (.ref r0), .val (.int p1), .val (.int p2), .val (.int i), .val (.int 0)] [])) (fun _ k => XS.ifYes X5.here hx rfl (pc0 := 36) (pc' := 68) rfl (hb hby d18_36) rfl ((if0 _ _).trans (tlt (own_before HC (by omega) (by omega) : (lcmpW ((fo + (((i - fr).toInt64) * (w.toInt64))) - co) (8192 : Int64)) < (0 : Int32))).1) (by decide) (by decide) k) ?_
        refine own_g (T5.setTop (mkF m 69 #[.val (.ref r0), .val (.int p1), .val (.int p2), .val (.int i), .val (.int 0)] [(.ref r0)])) (fun _ k => XS.aloadN X5.here hx rfl (hb hby d18_68) rfl rfl k) ?_
        refine own_g (T5.setTop (mkF m 71 #[.val (.ref r0), .val (.int p1), .val (.int p2), .val (.int i), .val (.int 0)] [(.int 0), (.ref r0)])) (fun _ k => XS.iload X5.here hx rfl (hb hby d18_69) rfl k) ?_
        refine own_g (T5.setTop (mkF m 73 #[.val (.ref r0), .val (.int p1), .val (.int p2), .val (.int i), .val (.int 0)] [(.int 93), (.int 0), (.ref r0)])) (fun _ k => XS.bipush X5.here hx rfl (hb hby d18_71) k) ?_
        refine own_g (T5.setTop (mkF m 74 #[.val (.ref r0), .val (.int p1), .val (.int p2), .val (.int i), .val (.int 0)] [(.int 2), (.int 93), (.int 0), (.ref r0)])) (fun _ k => XS.iconst X5.here hx rfl (hb hby d18_73) k) ?_
        obtain ⟨cq6, qk6, qk6'⟩ := Gh.1.cell
        obtain ⟨_, _, ⟨T6, L6, k6, n6⟩, -, X6, ⟨Lc6, hQ6, l6, y6, z6⟩, st6⟩ := X5.privateBack hx (y := (⟨"com/example/corridor/corridor/iso20022/MarkupScanner", "closes", "(CCI)Z"⟩ : MethodName)) hown (mvT hZ (own_w hw 149 rfl)) (mvT hZ (own_w hw 150 rfl)) (mvT hZ (own_selPriv (own_w hw 150 rfl) (own_w hw 151 rfl) (own_w hw 30 rfl) rfl (by decide))) (Cond.privateMethod_at (mvP hZ (own_w hw 151 rfl) (args := #[]))) (mvT hZ (own_w hw 152 rfl)) (by decide) (backOf (W := 0) (cl0 l Z a0 hw [] r0 u ku cu en EC w sa x0 x1 x2 x3 x4 (.ref u) (.int fr) x7 (.long fo) (.ref en) (.int w) (.int 0) x12 x13 (.int mk') (.long co) (.int pr) x17 x18 x19 x20 x21 x22 h n0 Zh Ih Gh gn_r0) hZ (own_w hw 152 rfl) (own_w hw 7 rfl) (by decide) (by decide)) (g := (mkF m 74 #[.val (.ref r0), .val (.int p1), .val (.int p2), .val (.int i), .val (.int 0)] [(.int 2), (.int 93), (.int 0), (.ref r0)])) rfl (by rw [hml]; rfl) (Steps.refl _) (a := r0) (by rw [e5]; exact qk6) qk6' (argsL := [(.int 0), (.int 93), (.int 2)]) (rest := []) (lenOf pd7 rfl) rfl (by show 2 * 0 + _ ≤ _; exact Nat.le_of_eq rfl) (hb hby d18_74) (fun _ _ => ⟨rfl, e5, (by decide : 0 + 0 ≤ _), (by decide : 0 + 0 ≤ _)⟩)
        dsimp only [Pt.U, Pt.locs, Pt.cells, Pt.slots] at X6 l6 y6 z6 st6 hQ6
        subst l6 y6 z6
        obtain ⟨rfl, Nq6, Kq6, Gq6⟩ := hQ6
        have N6 := Fr.app N4 Nq6
        have I6 : own_I Z T6.heap r0 u ku cu en EC w sa := Ih.keep Kq6 Gh.1
        have G6 : own_G Z T6.heap r0 [x0, x1, x2, x3, x4, (.ref u), (.int fr), x7, (.long fo), (.ref en), (.int w), (.int 0), x12, x13, (.int 0), (.long co), (.int pr), x17, x18, x19, x20, x21, x22] := Gq6
        have Z6 : n0 ≤ T6.heap.size := Nat.le_trans Zh Kq6.1
        have K6 : Keep h0 T6.heap [r0] := Kh.trans Kq6 (allS (Or.inl (List.mem_of_getElem? (i := 0) rfl)) all0)
        refine own_g (T6.setTop (mkF m 77 #[.val (.ref r0), .val (.int p1), .val (.int p2), .val (.int i), .val (.int 0)] [(.int 0)])) (fun _ k => st6.trans k) ?_
        refine own_g (T6.setTop (mkF m 84 #[.val (.ref r0), .val (.int p1), .val (.int p2), .val (.int i), .val (.int 0)] [])) (fun _ k => XS.ifYes X6.here hx rfl (pc0 := 77) (pc' := 84) rfl (hb hby d18_77) rfl ((if0 _ _).trans (teq (by decide : (0 : Int32) = (0 : Int32))).1) (by decide) (by decide) k) ?_
        refine own_g (T6.setTop (mkF m 85 #[.val (.ref r0), .val (.int p1), .val (.int p2), .val (.int i), .val (.int 0)] [(.ref r0)])) (fun _ k => XS.aloadN X6.here hx rfl (hb hby d18_84) rfl rfl k) ?_
        refine own_g (T6.setTop (mkF m 87 #[.val (.ref r0), .val (.int p1), .val (.int p2), .val (.int i), .val (.int 0)] [(.int 0), (.ref r0)])) (fun _ k => XS.iload X6.here hx rfl (hb hby d18_85) rfl k) ?_
        refine own_g (T6.setTop (mkF m 88 #[.val (.ref r0), .val (.int p1), .val (.int p2), .val (.int i), .val (.int 0)] [(.int i), (.int 0), (.ref r0)])) (fun _ k => XS.iloadN X6.here hx rfl (hb hby d18_87) rfl k) ?_
        obtain ⟨cq7, qk7, qk7'⟩ := G6.1.cell
        obtain ⟨_, _, ⟨T7, L7, k7, n7⟩, -, X7, ⟨Lc7, hQ7, l7, y7, z7⟩, st7⟩ := X6.privateBack hx (y := (⟨"com/example/corridor/corridor/iso20022/MarkupScanner", "lineEnd", "(CI)V"⟩ : MethodName)) hown (mvT hZ (own_w hw 87 rfl)) (mvT hZ (own_w hw 88 rfl)) (mvT hZ (own_selPriv (own_w hw 88 rfl) (own_w hw 89 rfl) (own_w hw 30 rfl) rfl (by decide))) (Cond.privateMethod_at (mvP hZ (own_w hw 89 rfl) (args := #[]))) (mvT hZ (own_w hw 90 rfl)) (by decide) (backOf (W := 0) (le0 l Z a0 hw [] r0 i u ku cu en EC w sa x0 x1 x2 x3 x4 fr x7 (.long fo) (.ref en) (.int w) (.int 0) x12 x13 (.int 0) (.long co) pr x17 x18 x19 x20 x21 x22 T6.heap n0 Z6 I6 G6 gn_r0 b1 (by omega)) hZ (own_w hw 90 rfl) (own_w hw 7 rfl) (by decide) (by decide)) (g := (mkF m 88 #[.val (.ref r0), .val (.int p1), .val (.int p2), .val (.int i), .val (.int 0)] [(.int i), (.int 0), (.ref r0)])) rfl (by rw [hml]; rfl) (Steps.refl _) (a := r0) qk7 qk7' (argsL := [(.int 0), (.int i)]) (rest := []) (lenOf pd5 rfl) rfl (by show 2 * 0 + _ ≤ _; exact Nat.le_of_eq rfl) (hb hby d18_88) (fun _ _ => ⟨rfl, rfl, (by decide : 0 + 0 ≤ _), (by decide : 0 + 0 ≤ _)⟩)
        dsimp only [Pt.U, Pt.locs, Pt.cells, Pt.slots] at X7 l7 y7 z7 st7 hQ7
        subst l7 y7 z7
        obtain ⟨rfl, Nq7, e7⟩ := hQ7
        have N7 := Fr.app N6 Nq7
        refine own_g (T7.setTop (mkF m 91 #[.val (.ref r0), .val (.int p1), .val (.int p2), .val (.int i), .val (.int 0)] [])) (fun _ k => st7.trans k) ?_
        refine own_g (T7.setTop (mkF m 94 #[.val (.ref r0), .val (.int p1), .val (.int p2), .val (.int (i + (1 : Int32))), .val (.int 0)] [])) (fun _ k => XS.iinc X7.here hx rfl (hb hby d18_91) rfl (l' := #[.val (.ref r0), .val (.int p1), .val (.int p2), .val (.int (i + (1 : Int32))), .val (.int 0)]) rfl k) ?_
        refine own_g (T7.setTop (mkF m 2 #[.val (.ref r0), .val (.int p1), .val (.int p2), .val (.int (i + (1 : Int32))), .val (.int 0)] [])) (fun _ k => XS.goto X7.here hx rfl (pc0 := 94) (pc' := 2) rfl (hb hby d18_94) (by decide) (by decide) k) ?_
        exact ih (i + (1 : Int32)) (0 : Int32) _ _ _ _ X7 e7 N7 Z6 K6 I6 G6 (Or.inr rfl) (by rw [hi1]; omega) (by rw [hi1]; omega) (fun _ => rfl)
      · skip
        refine own_g (T3.setTop (mkF m 68 #[.val (.ref r0), .val (.int p1), .val (.int p2), .val (.int i), .val (.int 0)] [])) (fun _ k => XS.ifYes X3.here hx rfl (pc0 := 19) (pc' := 68) rfl (hb hby d18_19) rfl ((if0 _ _).trans (feq hc19).2) (by decide) (by decide) k) ?_
        refine own_g (T3.setTop (mkF m 69 #[.val (.ref r0), .val (.int p1), .val (.int p2), .val (.int i), .val (.int 0)] [(.ref r0)])) (fun _ k => XS.aloadN X3.here hx rfl (hb hby d18_68) rfl rfl k) ?_
        refine own_g (T3.setTop (mkF m 71 #[.val (.ref r0), .val (.int p1), .val (.int p2), .val (.int i), .val (.int 0)] [(.int 0), (.ref r0)])) (fun _ k => XS.iload X3.here hx rfl (hb hby d18_69) rfl k) ?_
        refine own_g (T3.setTop (mkF m 73 #[.val (.ref r0), .val (.int p1), .val (.int p2), .val (.int i), .val (.int 0)] [(.int 93), (.int 0), (.ref r0)])) (fun _ k => XS.bipush X3.here hx rfl (hb hby d18_71) k) ?_
        refine own_g (T3.setTop (mkF m 74 #[.val (.ref r0), .val (.int p1), .val (.int p2), .val (.int i), .val (.int 0)] [(.int 2), (.int 93), (.int 0), (.ref r0)])) (fun _ k => XS.iconst X3.here hx rfl (hb hby d18_73) k) ?_
        obtain ⟨cq8, qk8, qk8'⟩ := Gh.1.cell
        obtain ⟨_, _, ⟨T8, L8, k8, n8⟩, -, X8, ⟨Lc8, hQ8, l8, y8, z8⟩, st8⟩ := X3.privateBack hx (y := (⟨"com/example/corridor/corridor/iso20022/MarkupScanner", "closes", "(CCI)Z"⟩ : MethodName)) hown (mvT hZ (own_w hw 149 rfl)) (mvT hZ (own_w hw 150 rfl)) (mvT hZ (own_selPriv (own_w hw 150 rfl) (own_w hw 151 rfl) (own_w hw 30 rfl) rfl (by decide))) (Cond.privateMethod_at (mvP hZ (own_w hw 151 rfl) (args := #[]))) (mvT hZ (own_w hw 152 rfl)) (by decide) (backOf (W := 0) (cl0 l Z a0 hw [] r0 u ku cu en EC w sa x0 x1 x2 x3 x4 (.ref u) (.int fr) x7 (.long fo) (.ref en) (.int w) (.int 0) x12 x13 (.int mk') (.long co) (.int pr) x17 x18 x19 x20 x21 x22 h n0 Zh Ih Gh gn_r0) hZ (own_w hw 152 rfl) (own_w hw 7 rfl) (by decide) (by decide)) (g := (mkF m 74 #[.val (.ref r0), .val (.int p1), .val (.int p2), .val (.int i), .val (.int 0)] [(.int 2), (.int 93), (.int 0), (.ref r0)])) rfl (by rw [hml]; rfl) (Steps.refl _) (a := r0) (by rw [e3]; exact qk8) qk8' (argsL := [(.int 0), (.int 93), (.int 2)]) (rest := []) (lenOf pd7 rfl) rfl (by show 2 * 0 + _ ≤ _; exact Nat.le_of_eq rfl) (hb hby d18_74) (fun _ _ => ⟨rfl, e3, (by decide : 0 + 0 ≤ _), (by decide : 0 + 0 ≤ _)⟩)
        dsimp only [Pt.U, Pt.locs, Pt.cells, Pt.slots] at X8 l8 y8 z8 st8 hQ8
        subst l8 y8 z8
        obtain ⟨rfl, Nq8, Kq8, Gq8⟩ := hQ8
        have N8 := Fr.app N Nq8
        have I8 : own_I Z T8.heap r0 u ku cu en EC w sa := Ih.keep Kq8 Gh.1
        have G8 : own_G Z T8.heap r0 [x0, x1, x2, x3, x4, (.ref u), (.int fr), x7, (.long fo), (.ref en), (.int w), (.int 0), x12, x13, (.int 0), (.long co), (.int pr), x17, x18, x19, x20, x21, x22] := Gq8
        have Z8 : n0 ≤ T8.heap.size := Nat.le_trans Zh Kq8.1
        have K8 : Keep h0 T8.heap [r0] := Kh.trans Kq8 (allS (Or.inl (List.mem_of_getElem? (i := 0) rfl)) all0)
        refine own_g (T8.setTop (mkF m 77 #[.val (.ref r0), .val (.int p1), .val (.int p2), .val (.int i), .val (.int 0)] [(.int 0)])) (fun _ k => st8.trans k) ?_
        refine own_g (T8.setTop (mkF m 84 #[.val (.ref r0), .val (.int p1), .val (.int p2), .val (.int i), .val (.int 0)] [])) (fun _ k => XS.ifYes X8.here hx rfl (pc0 := 77) (pc' := 84) rfl (hb hby d18_77) rfl ((if0 _ _).trans (teq (by decide : (0 : Int32) = (0 : Int32))).1) (by decide) (by decide) k) ?_
        refine own_g (T8.setTop (mkF m 85 #[.val (.ref r0), .val (.int p1), .val (.int p2), .val (.int i), .val (.int 0)] [(.ref r0)])) (fun _ k => XS.aloadN X8.here hx rfl (hb hby d18_84) rfl rfl k) ?_
        refine own_g (T8.setTop (mkF m 87 #[.val (.ref r0), .val (.int p1), .val (.int p2), .val (.int i), .val (.int 0)] [(.int 0), (.ref r0)])) (fun _ k => XS.iload X8.here hx rfl (hb hby d18_85) rfl k) ?_
        refine own_g (T8.setTop (mkF m 88 #[.val (.ref r0), .val (.int p1), .val (.int p2), .val (.int i), .val (.int 0)] [(.int i), (.int 0), (.ref r0)])) (fun _ k => XS.iloadN X8.here hx rfl (hb hby d18_87) rfl k) ?_
        obtain ⟨cq9, qk9, qk9'⟩ := G8.1.cell
        obtain ⟨_, _, ⟨T9, L9, k9, n9⟩, -, X9, ⟨Lc9, hQ9, l9, y9, z9⟩, st9⟩ := X8.privateBack hx (y := (⟨"com/example/corridor/corridor/iso20022/MarkupScanner", "lineEnd", "(CI)V"⟩ : MethodName)) hown (mvT hZ (own_w hw 87 rfl)) (mvT hZ (own_w hw 88 rfl)) (mvT hZ (own_selPriv (own_w hw 88 rfl) (own_w hw 89 rfl) (own_w hw 30 rfl) rfl (by decide))) (Cond.privateMethod_at (mvP hZ (own_w hw 89 rfl) (args := #[]))) (mvT hZ (own_w hw 90 rfl)) (by decide) (backOf (W := 0) (le0 l Z a0 hw [] r0 i u ku cu en EC w sa x0 x1 x2 x3 x4 fr x7 (.long fo) (.ref en) (.int w) (.int 0) x12 x13 (.int 0) (.long co) pr x17 x18 x19 x20 x21 x22 T8.heap n0 Z8 I8 G8 gn_r0 b1 (by omega)) hZ (own_w hw 90 rfl) (own_w hw 7 rfl) (by decide) (by decide)) (g := (mkF m 88 #[.val (.ref r0), .val (.int p1), .val (.int p2), .val (.int i), .val (.int 0)] [(.int i), (.int 0), (.ref r0)])) rfl (by rw [hml]; rfl) (Steps.refl _) (a := r0) qk9 qk9' (argsL := [(.int 0), (.int i)]) (rest := []) (lenOf pd5 rfl) rfl (by show 2 * 0 + _ ≤ _; exact Nat.le_of_eq rfl) (hb hby d18_88) (fun _ _ => ⟨rfl, rfl, (by decide : 0 + 0 ≤ _), (by decide : 0 + 0 ≤ _)⟩)
        dsimp only [Pt.U, Pt.locs, Pt.cells, Pt.slots] at X9 l9 y9 z9 st9 hQ9
        subst l9 y9 z9
        obtain ⟨rfl, Nq9, e9⟩ := hQ9
        have N9 := Fr.app N8 Nq9
        refine own_g (T9.setTop (mkF m 91 #[.val (.ref r0), .val (.int p1), .val (.int p2), .val (.int i), .val (.int 0)] [])) (fun _ k => st9.trans k) ?_
        refine own_g (T9.setTop (mkF m 94 #[.val (.ref r0), .val (.int p1), .val (.int p2), .val (.int (i + (1 : Int32))), .val (.int 0)] [])) (fun _ k => XS.iinc X9.here hx rfl (hb hby d18_91) rfl (l' := #[.val (.ref r0), .val (.int p1), .val (.int p2), .val (.int (i + (1 : Int32))), .val (.int 0)]) rfl k) ?_
        refine own_g (T9.setTop (mkF m 2 #[.val (.ref r0), .val (.int p1), .val (.int p2), .val (.int (i + (1 : Int32))), .val (.int 0)] [])) (fun _ k => XS.goto X9.here hx rfl (pc0 := 94) (pc' := 2) rfl (hb hby d18_94) (by decide) (by decide) k) ?_
        exact ih (i + (1 : Int32)) (0 : Int32) _ _ _ _ X9 e9 N9 Z8 K8 I8 G8 (Or.inr rfl) (by rw [hi1]; omega) (by rw [hi1]; omega) (fun _ => rfl)
  exact loop (p2.toInt - p1.toInt).toNat p1 mk _ _ _ _ X0 e0 N0 Z0 K0 I G (Or.inl rfl) (by omega) (by omega) (fun q => absurd q (by omega))
theorem d18_39 : decode prog_34_method_23_code 39 = .ok (.aload_n 0, 1) := by decide +kernel
theorem d18_40 : decode prog_34_method_23_code 40 = .ok (.iload_n 3, 1) := by decide +kernel
theorem d18_41 : decode prog_34_method_23_code 41 = .ok (.invokevirtual 117, 3) := by decide +kernel
theorem d18_44 : decode prog_34_method_23_code 44 = .ok (.bipush 13, 2) := by decide +kernel
theorem d18_46 : decode prog_34_method_23_code 46 = .ok (.if_icmp .eq 22, 3) := by decide +kernel
theorem d18_49 : decode prog_34_method_23_code 49 = .ok (.aload_n 0, 1) := by decide +kernel
theorem d18_50 : decode prog_34_method_23_code 50 = .ok (.getfield 53, 3) := by decide +kernel
theorem d18_53 : decode prog_34_method_23_code 53 = .ok (.iload 4, 2) := by decide +kernel
theorem d18_55 : decode prog_34_method_23_code 55 = .ok (.invokevirtual 192, 3) := by decide +kernel
theorem d18_58 : decode prog_34_method_23_code 58 = .ok (.ifCond .eq 10, 3) := by decide +kernel
theorem d18_61 : decode prog_34_method_23_code 61 = .ok (.aload_n 0, 1) := by decide +kernel
theorem d18_62 : decode prog_34_method_23_code 62 = .ok (.iconst 1, 1) := by decide +kernel
theorem d18_63 : decode prog_34_method_23_code 63 = .ok (.putfield 70, 3) := by decide +kernel
theorem d18_66 : decode prog_34_method_23_code 66 = .ok (.iload_n 3, 1) := by decide +kernel
theorem d18_67 : decode prog_34_method_23_code 67 = .ok (.ireturn, 1) := by decide +kernel
theorem ef_cdB (m : MethodId) (r0 : Addr) (p1 : Int32) (p2 : Int32) : entryFrame m #[(.ref r0), (.int p1), (.int p2)] 5 = mkF m 0 #[.val (.ref r0), .val (.int p1), .val (.int p2), .unset, .unset] [] := by first | (simp [entryFrame, mkF, argsToLocals, Value.category]; done) | rfl
set_option maxRecDepth 65536 in
set_option maxHeartbeats 40000000 in
theorem cdB (l : Launch) (Z : State) (a0 : Array Value) (hw : ∀ d ∈ tables_1, d.before a0 Z = true) (ws : List Jvm.Cond) (r0 : Addr) (p1 : Int32) (p2 : Int32) (u : Addr) (ku : ClassId) (cu : Int32) (en : Addr) (EC : String) (w : Int32) (sa : Nat → Addr) (x0 : Value) (x1 : Value) (x2 : Value) (x3 : Value) (x4 : Value) (fr : Int32) (x7 : Value) (fo : Int64) (x12 : Value) (x13 : Value) (mk : Int32) (co : Int64) (pr : Int32) (x17 : Value) (x18 : Value) (x19 : Value) (x20 : Value) (x21 : Value) (x22 : Value) (qi : Int32) (h0 : Heap) (n0 : Nat) (Z0 : n0 ≤ h0.size) (I : own_I Z h0 r0 u ku cu en EC w sa) (G : own_G Z h0 r0 [x0, x1, x2, x3, x4, (.ref u), (.int fr), x7, (.long fo), (.ref en), (.int w), (.int 0), x12, x13, (.int mk), (.long co), (.int pr), x17, x18, x19, x20, x21, x22]) (gn_r0 : n0 ≤ r0) (HC : own_C fo co fr w qi) (b1 : 10 ≤ fr.toInt) (b2 : fr.toInt ≤ p1.toInt) (b4 : p1.toInt < p2.toInt) (b5 : qi.toInt < 16394) (b6 : p2.toInt = qi.toInt + 1) (hm0 : p1.toInt = qi.toInt → mk = (0 : Int32)) (hpr : fr.toInt = qi.toInt → ¬ (nar .char pr = (13 : Int32))) (hEC : EC = "com/example/corridor/corridor/iso20022/MarkupScanner$Encoding" ∨ EC = "com/example/corridor/corridor/iso20022/MarkupScanner$Encoding$1" ∨ EC = "com/example/corridor/corridor/iso20022/MarkupScanner$Encoding$2") :
    MetFree l (⟨"com/example/corridor/corridor/iso20022/MarkupScanner", "cdata", "(II)I"⟩ : MethodName) (head1 (Jvm.Cond.code (⟨"com/example/corridor/corridor/iso20022/MarkupScanner", "cdata", "(II)I"⟩ : MethodName) prog_34_method_23_code 5 (some .int) :: ws) ({ frames := 2, cells := 0, slots := 0, locals := 28 } : Room)) (fun a U => a = #[(.ref r0), (.int p1), (.int p2)] ∧ Z.Warmed39 U.vm ∧ U.heap = h0) (fun _ _ _ _ _ => True) (fun _ U o U' => ∃ v L, o = .returned v ∧ (own_QG Z r0 n0 h0 (some (.int qi)) [x0, x1, x2, x3, x4, (.ref u), (.int fr), x7, (.long fo), (.ref en), (.int w), (.int 1), x12, x13, (.int 0), (.long co), (.int pr), x17, x18, x19, x20, x21, x22]) v U'.heap L ∧ FrameEnd U o U' L 0 0) := by
  refine MetFree.of_bodySF (plainFor_of_name pn18) hisR ?_
  intro p e s m args below meth c s₁ Bd hml0 hP hK
  obtain ⟨rfl, hZ, hh⟩ := hP
  have hx := Bd.exec
  have hby := Bd.bytes
  have hml : c.maxLocals = 5 := hml0
  have hown : s.vm.findClass "com/example/corridor/corridor/iso20022/MarkupScanner" = some m.cls := findClass_of_methodNamed Bd.named
  have hnm := (name_of_methodNamed Bd.named Bd.method).1
  have X0 : Stand p l e ({ frames := 2, cells := 0, slots := 0, locals := 28 } : Room) s m #[(.ref r0), (.int p1), (.int p2)] below meth c s₁ [] 0 0 := Stand.of_body Bd
  have e0 : s₁.heap = h0 := by rw [← hh, Bd.state]; rfl
  have N0 := Fr.nil n0
  have K0 : Keep h0 h0 [r0] := Keep.refl h0 [r0]
  show own_Goes p e below (own_End s (own_QG Z r0 n0 h0 (some (.int qi)) [x0, x1, x2, x3, x4, (.ref u), (.int fr), x7, (.long fo), (.ref en), (.int w), (.int 1), x12, x13, (.int 0), (.long co), (.int pr), x17, x18, x19, x20, x21, x22]) 0 0) _
  refine own_g (s₁.setTop (mkF m 0 #[.val (.ref r0), .val (.int p1), .val (.int p2), .unset, .unset] [])) (fun t k => castTop (ef_cdB m r0 p1 p2) k) ?_
  refine own_g (s₁.setTop (mkF m 1 #[.val (.ref r0), .val (.int p1), .val (.int p2), .unset, .unset] [(.int p1)])) (fun _ k => XS.iloadN X0.here hx rfl (hb hby d18_0) rfl k) ?_
  refine own_g (s₁.setTop (mkF m 2 #[.val (.ref r0), .val (.int p1), .val (.int p2), .val (.int p1), .unset] [])) (fun _ k => XS.istoreN X0.here hx rfl (hb hby d18_1) rfl (l' := #[.val (.ref r0), .val (.int p1), .val (.int p2), .val (.int p1), .unset]) rfl k) ?_
  have loop : ∀ (k : Nat) (i mk' : Int32) (sl : Slot) (T : State) (locs : List Loc) (h : Heap) (X : Stand p l e ({ frames := 2, cells := 0, slots := 0, locals := 28 } : Room) s m #[(.ref r0), (.int p1), (.int p2)] below meth c T locs 0 0) (eT : T.heap = h) (N : Fr n0 locs) (Zh : n0 ≤ h.size) (Kh : Keep h0 h [r0]) (Ih : own_I Z h r0 u ku cu en EC w sa) (Gh : own_G Z h r0 [x0, x1, x2, x3, x4, (.ref u), (.int fr), x7, (.long fo), (.ref en), (.int w), (.int 0), x12, x13, (.int mk'), (.long co), (.int pr), x17, x18, x19, x20, x21, x22]) (hsl : sl = .unset ∨ sl = .val (.int 0)) (hk : i.toInt + k = qi.toInt) (hi : p1.toInt ≤ i.toInt) (hm : p1.toInt < i.toInt ∨ i.toInt = qi.toInt → mk' = (0 : Int32)), own_Goes p e below (own_End s (own_QG Z r0 n0 h0 (some (.int qi)) [x0, x1, x2, x3, x4, (.ref u), (.int fr), x7, (.long fo), (.ref en), (.int w), (.int 1), x12, x13, (.int 0), (.long co), (.int pr), x17, x18, x19, x20, x21, x22]) 0 0) (T.setTop (mkF m 2 #[.val (.ref r0), .val (.int p1), .val (.int p2), .val (.int i), sl] [])) := by
    intro k
    induction k with
    | zero =>
      intro i mk' sl T locs h X eT N Zh Kh Ih Gh hsl hk hi hm
      obtain rfl : i = qi := Int32.toInt_inj.mp (by omega)
      obtain rfl : mk' = (0 : Int32) := hm (Or.inr rfl)
      refine own_g (T.setTop (mkF m 3 #[.val (.ref r0), .val (.int p1), .val (.int p2), .val (.int i), sl] [(.int i)])) (fun _ k => XS.iloadN X.here hx rfl (hb hby d18_2) rfl k) ?_
      refine own_g (T.setTop (mkF m 4 #[.val (.ref r0), .val (.int p1), .val (.int p2), .val (.int i), sl] [(.int p2), (.int i)])) (fun _ k => XS.iloadN X.here hx rfl (hb hby d18_3) rfl k) ?_
      refine own_g (T.setTop (mkF m 7 #[.val (.ref r0), .val (.int p1), .val (.int p2), .val (.int i), sl] [])) (fun _ k => XS.icmpNo X.here hx rfl (hb hby d18_4) rfl (tlt (own_ilt (by omega) : i < p2)).2.1 k) ?_
      refine own_g (T.setTop (mkF m 8 #[.val (.ref r0), .val (.int p1), .val (.int p2), .val (.int i), sl] [(.ref r0)])) (fun _ k => XS.aloadN X.here hx rfl (hb hby d18_7) rfl rfl k) ?_
      obtain ⟨T1, X1, e1, st1⟩ := getF X hx hZ hown (host := "") (Or.inl (own_w hw 32 rfl)) Via.refl eT (own_Gf Gh 5 rfl rfl) (g := (mkF m 8 #[.val (.ref r0), .val (.int p1), .val (.int p2), .val (.int i), sl] [(.ref r0)])) rfl rfl (hb hby d18_8)
      refine own_g (T1.setTop (mkF m 11 #[.val (.ref r0), .val (.int p1), .val (.int p2), .val (.int i), sl] [(.ref u)])) (st1) ?_
      refine own_g (T1.setTop (mkF m 12 #[.val (.ref r0), .val (.int p1), .val (.int p2), .val (.int i), sl] [(.int i), (.ref u)])) (fun _ k => XS.iloadN X1.here hx rfl (hb hby d18_11) rfl k) ?_
      obtain ⟨cl2, Ar2, hin2, hat2⟩ := own_I.at0 Ih i (by omega) (by omega)
      refine own_g (T1.setTop (mkF m 13 #[.val (.ref r0), .val (.int p1), .val (.int p2), .val (.int i), sl] [(.int 0)])) (X1.caload hx (j := i) (v := (.int 0)) (by rw [e1]; exact Ar2.1) (State.isArrayOf_alike hZ.alike Ar2.2.1) Ar2.2.2 hin2 hat2 (g := (mkF m 12 #[.val (.ref r0), .val (.int p1), .val (.int p2), .val (.int i), sl] [(.int i), (.ref u)])) rfl rfl (hb hby d18_12)) ?_
      refine own_g (T1.setTop (mkF m 15 #[.val (.ref r0), .val (.int p1), .val (.int p2), .val (.int i), .val (.int 0)] [])) (fun _ k => XS.istore X1.here hx rfl (hb hby d18_13) rfl (l' := #[.val (.ref r0), .val (.int p1), .val (.int p2), .val (.int i), .val (.int 0)]) (by rcases hsl with rfl | rfl <;> rfl) k) ?_
      refine own_g (T1.setTop (mkF m 16 #[.val (.ref r0), .val (.int p1), .val (.int p2), .val (.int i), .val (.int 0)] [(.ref r0)])) (fun _ k => XS.aloadN X1.here hx rfl (hb hby d18_15) rfl rfl k) ?_
      obtain ⟨T3, X3, e3, st3⟩ := getF X1 hx hZ hown (host := "") (Or.inl (own_w hw 134 rfl)) Via.refl e1 (own_Gf Gh 14 rfl rfl) (g := (mkF m 16 #[.val (.ref r0), .val (.int p1), .val (.int p2), .val (.int i), .val (.int 0)] [(.ref r0)])) rfl rfl (hb hby d18_16)
      refine own_g (T3.setTop (mkF m 19 #[.val (.ref r0), .val (.int p1), .val (.int p2), .val (.int i), .val (.int 0)] [(.int 0)])) (st3) ?_
      refine own_g (T3.setTop (mkF m 22 #[.val (.ref r0), .val (.int p1), .val (.int p2), .val (.int i), .val (.int 0)] [])) (fun _ k => XS.ifNo X3.here hx rfl (hb hby d18_19) rfl ((if0 _ _).trans (teq (by decide : (0 : Int32) = (0 : Int32))).2) k) ?_
      refine own_g (T3.setTop (mkF m 23 #[.val (.ref r0), .val (.int p1), .val (.int p2), .val (.int i), .val (.int 0)] [(.ref r0)])) (fun _ k => XS.aloadN X3.here hx rfl (hb hby d18_22) rfl rfl k) ?_
      refine own_g (T3.setTop (mkF m 24 #[.val (.ref r0), .val (.int p1), .val (.int p2), .val (.int i), .val (.int 0)] [(.int i), (.ref r0)])) (fun _ k => XS.iloadN X3.here hx rfl (hb hby d18_23) rfl k) ?_
      obtain ⟨cq4, qk4, qk4'⟩ := Gh.1.cell
      obtain ⟨_, _, ⟨T4, L4, k4, n4⟩, -, X4, ⟨Lc4, hQ4, l4, y4, z4⟩, st4⟩ := X3.privateBack hx (y := (⟨"com/example/corridor/corridor/iso20022/MarkupScanner", "offsetAt", "(I)J"⟩ : MethodName)) hown (mvT hZ (own_w hw 136 rfl)) (mvT hZ (own_w hw 137 rfl)) (mvT hZ (own_selPriv (own_w hw 137 rfl) (own_w hw 138 rfl) (own_w hw 30 rfl) rfl (by decide))) (Cond.privateMethod_at (mvP hZ (own_w hw 138 rfl) (args := #[]))) (mvT hZ (own_w hw 139 rfl)) (by decide) (backOf (W := 0) (off l Z a0 hw [] r0 i u ku cu en EC w sa x0 x1 x2 x3 x4 (.ref u) fr x7 fo (.ref en) w (.int 0) x12 x13 (.int 0) (.long co) (.int pr) x17 x18 x19 x20 x21 x22 h n0 Zh Ih Gh gn_r0) hZ (own_w hw 139 rfl) (own_w hw 7 rfl) (by decide) (by decide)) (g := (mkF m 24 #[.val (.ref r0), .val (.int p1), .val (.int p2), .val (.int i), .val (.int 0)] [(.int i), (.ref r0)])) rfl (by rw [hml]; rfl) (Steps.refl _) (a := r0) (by rw [e3]; exact qk4) qk4' (argsL := [(.int i)]) (rest := []) (lenOf pd6 rfl) rfl (by show 2 * 0 + _ ≤ _; exact Nat.le_of_eq rfl) (hb hby d18_24) (fun _ _ => ⟨rfl, e3, (by decide : 0 + 0 ≤ _), (by decide : 0 + 0 ≤ _)⟩)
      dsimp only [Pt.U, Pt.locs, Pt.cells, Pt.slots] at X4 l4 y4 z4 st4 hQ4
      subst l4 y4 z4
      obtain ⟨rfl, Nq4, e4⟩ := hQ4
      have N4 := Fr.app N Nq4
      refine own_g (T4.setTop (mkF m 27 #[.val (.ref r0), .val (.int p1), .val (.int p2), .val (.int i), .val (.int 0)] [(.long (fo + (((i - fr).toInt64) * (w.toInt64))))])) (fun _ k => st4.trans k) ?_
      refine own_g (T4.setTop (mkF m 28 #[.val (.ref r0), .val (.int p1), .val (.int p2), .val (.int i), .val (.int 0)] [(.ref r0), (.long (fo + (((i - fr).toInt64) * (w.toInt64))))])) (fun _ k => XS.aloadN X4.here hx rfl (hb hby d18_27) rfl rfl k) ?_
      obtain ⟨T5, X5, e5, st5⟩ := getF X4 hx hZ hown (host := "") (Or.inl (own_w hw 140 rfl)) Via.refl e4 (own_Gf Gh 15 rfl rfl) (g := (mkF m 28 #[.val (.ref r0), .val (.int p1), .val (.int p2), .val (.int i), .val (.int 0)] [(.ref r0), (.long (fo + (((i - fr).toInt64) * (w.toInt64))))])) rfl rfl (hb hby d18_28)
      refine own_g (T5.setTop (mkF m 31 #[.val (.ref r0), .val (.int p1), .val (.int p2), .val (.int i), .val (.int 0)] [(.long co), (.long (fo + (((i - fr).toInt64) * (w.toInt64))))])) (st5) ?_
      refine own_g (T5.setTop (mkF m 32 #[.val (.ref r0), .val (.int p1), .val (.int p2), .val (.int i), .val (.int 0)] [(.long ((fo + (((i - fr).toInt64) * (w.toInt64))) - co))])) (fun _ k => XS.lsub X5.here hx rfl (hb hby d18_31) rfl k) ?_
      refine own_g (T5.setTop (mkF m 35 #[.val (.ref r0), .val (.int p1), .val (.int p2), .val (.int i), .val (.int 0)] [(.long 8192), (.long ((fo + (((i - fr).toInt64) * (w.toInt64))) - co))])) (X5.ldc2Long hx hown (mvT hZ (own_w hw 148 rfl)) (g := (mkF m 32 #[.val (.ref r0), .val (.int p1), .val (.int p2), .val (.int i), .val (.int 0)] [(.long ((fo + (((i - fr).toInt64) * (w.toInt64))) - co))])) rfl (hb hby d18_32)) ?_
      refine own_g (T5.setTop (mkF m 36 #[.val (.ref r0), .val (.int p1), .val (.int p2), .val (.int i), .val (.int 0)] [(.int (lcmpW ((fo + (((i - fr).toInt64) * (w.toInt64))) - co) (8192 : Int64)))])) (fun _ k => XS.lcmp X5.here hx rfl (hb hby d18_35) rfl k) ?_
      refine own_g (T5.setTop (mkF m 39 #[.val (.ref r0), .val (.int p1), .val (.int p2), .val (.int i), .val (.int 0)] [])) (fun _ k => XS.ifNo X5.here hx rfl (hb hby d18_36) rfl ((if0 _ _).trans (flt (own_there HC : ¬ ((lcmpW ((fo + (((i - fr).toInt64) * (w.toInt64))) - co) (8192 : Int64)) < (0 : Int32)))).1) k) ?_
      refine own_g (T5.setTop (mkF m 40 #[.val (.ref r0), .val (.int p1), .val (.int p2), .val (.int i), .val (.int 0)] [(.ref r0)])) (fun _ k => XS.aloadN X5.here hx rfl (hb hby d18_39) rfl rfl k) ?_
      refine own_g (T5.setTop (mkF m 41 #[.val (.ref r0), .val (.int p1), .val (.int p2), .val (.int i), .val (.int 0)] [(.int i), (.ref r0)])) (fun _ k => XS.iloadN X5.here hx rfl (hb hby d18_40) rfl k) ?_
      obtain ⟨cq6, qk6, qk6'⟩ := Gh.1.cell
      obtain ⟨_, _, ⟨T6, L6, k6, n6⟩, -, X6, ⟨Lc6, hQ6, l6, y6, z6⟩, st6⟩ := X5.privateBack hx (y := (⟨"com/example/corridor/corridor/iso20022/MarkupScanner", "previousUnit", "(I)C"⟩ : MethodName)) hown (mvT hZ (own_w hw 153 rfl)) (mvT hZ (own_w hw 154 rfl)) (mvT hZ (own_selPriv (own_w hw 154 rfl) (own_w hw 155 rfl) (own_w hw 30 rfl) rfl (by decide))) (Cond.privateMethod_at (mvP hZ (own_w hw 155 rfl) (args := #[]))) (mvT hZ (own_w hw 156 rfl)) (by decide) (backOf (W := 0) (pv l Z a0 hw [] r0 i u ku cu en EC w sa x0 x1 x2 x3 x4 fr x7 (.long fo) (.ref en) (.int w) (.int 0) x12 x13 (.int 0) (.long co) pr x17 x18 x19 x20 x21 x22 h n0 Zh Ih Gh gn_r0 b1 (by omega)) hZ (own_w hw 156 rfl) (own_w hw 7 rfl) (by decide) (by decide)) (g := (mkF m 41 #[.val (.ref r0), .val (.int p1), .val (.int p2), .val (.int i), .val (.int 0)] [(.int i), (.ref r0)])) rfl (by rw [hml]; rfl) (Steps.refl _) (a := r0) (by rw [e5]; exact qk6) qk6' (argsL := [(.int i)]) (rest := []) (lenOf pd1 rfl) rfl (by show 2 * 0 + _ ≤ _; exact Nat.le_of_eq rfl) (hb hby d18_41) (fun _ _ => ⟨rfl, e5, (by decide : 0 + 0 ≤ _), (by decide : 0 + 0 ≤ _)⟩)
      dsimp only [Pt.U, Pt.locs, Pt.cells, Pt.slots] at X6 l6 y6 z6 st6 hQ6
      subst l6 y6 z6
      obtain ⟨pv6, rfl, Nq6, e6, pa6, pb6⟩ := hQ6
      have N6 := Fr.app N4 Nq6
      refine own_g (T6.setTop (mkF m 44 #[.val (.ref r0), .val (.int p1), .val (.int p2), .val (.int i), .val (.int 0)] [(.int pv6)])) (fun _ k => st6.trans k) ?_
      refine own_g (T6.setTop (mkF m 46 #[.val (.ref r0), .val (.int p1), .val (.int p2), .val (.int i), .val (.int 0)] [(.int 13), (.int pv6)])) (fun _ k => XS.bipush X6.here hx rfl (hb hby d18_44) k) ?_
      refine own_g (T6.setTop (mkF m 49 #[.val (.ref r0), .val (.int p1), .val (.int p2), .val (.int i), .val (.int 0)] [])) (fun _ k => XS.icmpNo X6.here hx rfl (hb hby d18_46) rfl (feq (fun q => by rcases Int.lt_or_le fr.toInt i.toInt with z | z; exact own_not13 (own_ilt z) pa6 q; exact hpr (by omega) (by rw [← pb6 (own_nilt z)]; exact q) : ¬ (pv6 = (13 : Int32)))).1 k) ?_
      refine own_g (T6.setTop (mkF m 50 #[.val (.ref r0), .val (.int p1), .val (.int p2), .val (.int i), .val (.int 0)] [(.ref r0)])) (fun _ k => XS.aloadN X6.here hx rfl (hb hby d18_49) rfl rfl k) ?_
      obtain ⟨T7, X7, e7, st7⟩ := getF X6 hx hZ hown (host := "") (Or.inl (own_w hw 40 rfl)) Via.refl e6 (own_Gf Gh 9 rfl rfl) (g := (mkF m 50 #[.val (.ref r0), .val (.int p1), .val (.int p2), .val (.int i), .val (.int 0)] [(.ref r0)])) rfl rfl (hb hby d18_50)
      refine own_g (T7.setTop (mkF m 53 #[.val (.ref r0), .val (.int p1), .val (.int p2), .val (.int i), .val (.int 0)] [(.ref en)])) (st7) ?_
      refine own_g (T7.setTop (mkF m 55 #[.val (.ref r0), .val (.int p1), .val (.int p2), .val (.int i), .val (.int 0)] [(.int 0), (.ref en)])) (fun _ k => XS.iload X7.here hx rfl (hb hby d18_53) rfl k) ?_
      rcases hEC with rfl | rfl | rfl
      · skip
        obtain ⟨cq8, kq8, qk8a, qk8b, qk8c⟩ := isOf hZ e7 Ih.2.1
        obtain ⟨_, _, ⟨T8, L8, k8, n8⟩, -, X8, ⟨Lc8, hQ8, l8, y8, z8⟩, st8⟩ := X7.virtualBack hx (y := (⟨"com/example/corridor/corridor/iso20022/MarkupScanner$Encoding", "begins", "(C)Z"⟩ : MethodName)) (z := (⟨"com/example/corridor/corridor/iso20022/MarkupScanner$Encoding", "begins", "(C)Z"⟩ : MethodName)) hown (mvT hZ (own_w hw 164 rfl)) (mvT hZ (own_w hw 165 rfl)) (notFace_of_selects (args := #[]) (mvT hZ (own_w hw 167 rfl))) (mvT hZ (own_w hw 167 rfl)) (mvT hZ (own_w hw 166 rfl)) (by decide) (backOf (W := 0) (bg l Z a0 hw [] en h n0 Zh) hZ (own_w hw 168 rfl) (own_w hw 2 rfl) (by decide) (by decide)) qk8a qk8c (g := (mkF m 55 #[.val (.ref r0), .val (.int p1), .val (.int p2), .val (.int i), .val (.int 0)] [(.int 0), (.ref en)])) rfl (by rw [hml]; rfl) (Steps.refl _) (argsL := [(.int 0)]) (rest := []) (lenOf pd0 rfl) rfl (by show 2 * 0 + _ ≤ _; exact Nat.le_of_eq rfl) (hb hby d18_55) (fun _ _ => ⟨rfl, e7, (by decide : 0 + 0 ≤ _), (by decide : 0 + 0 ≤ _)⟩)
        dsimp only [Pt.U, Pt.locs, Pt.cells, Pt.slots] at X8 l8 y8 z8 st8 hQ8
        subst l8 y8 z8
        obtain ⟨rfl, Nq8, e8⟩ := hQ8
        have N8 := Fr.app N6 Nq8
        refine own_g (T8.setTop (mkF m 58 #[.val (.ref r0), .val (.int p1), .val (.int p2), .val (.int i), .val (.int 0)] [(.int 1)])) (fun _ k => st8.trans k) ?_
        refine own_g (T8.setTop (mkF m 61 #[.val (.ref r0), .val (.int p1), .val (.int p2), .val (.int i), .val (.int 0)] [])) (fun _ k => XS.ifNo X8.here hx rfl (hb hby d18_58) rfl ((if0 _ _).trans (feq (by decide : ¬ ((1 : Int32) = (0 : Int32)))).1) k) ?_
        refine own_g (T8.setTop (mkF m 62 #[.val (.ref r0), .val (.int p1), .val (.int p2), .val (.int i), .val (.int 0)] [(.ref r0)])) (fun _ k => XS.aloadN X8.here hx rfl (hb hby d18_61) rfl rfl k) ?_
        refine own_g (T8.setTop (mkF m 63 #[.val (.ref r0), .val (.int p1), .val (.int p2), .val (.int i), .val (.int 0)] [(.int 1), (.ref r0)])) (fun _ k => XS.iconst X8.here hx rfl (hb hby d18_62) k) ?_
        obtain ⟨T9, h9, X9, e9, W9, st9⟩ := putFN X8 hx hZ hown (own_w hw 54 rfl) Via.refl e8 (own_Gf Gh 11 rfl rfl) Gh.1 (Or.inl (own_w hw 55 rfl)) (own_w hw 6 rfl) (ty := .boolean) (v' := (.int 1)) (by decide) rfl rfl (g := (mkF m 63 #[.val (.ref r0), .val (.int p1), .val (.int p2), .val (.int i), .val (.int 0)] [(.int 1), (.ref r0)])) rfl rfl (hb hby d18_63)
        have G9 : own_G Z h9 r0 [x0, x1, x2, x3, x4, (.ref u), (.int fr), x7, (.long fo), (.ref en), (.int w), (.int 1), x12, x13, (.int 0), (.long co), (.int pr), x17, x18, x19, x20, x21, x22] := own_G.put hw Gh 11 rfl (Nat.le_of_ble_eq_true rfl) W9
        have I9 : own_I Z h9 r0 u ku cu en "com/example/corridor/corridor/iso20022/MarkupScanner$Encoding" w sa := Ih.wr W9 Gh.1
        have N9 := Fr.snoc X9 N8 gn_r0
        have Z9 : n0 ≤ h9.size := Nat.le_trans Zh (Keep.of_wr W9).1
        have K9 : Keep h0 h9 [r0] := Kh.wr W9 (Or.inl (List.mem_of_getElem? (i := 0) rfl))
        refine own_g (T9.setTop (mkF m 66 #[.val (.ref r0), .val (.int p1), .val (.int p2), .val (.int i), .val (.int 0)] [])) (st9) ?_
        refine own_g (T9.setTop (mkF m 67 #[.val (.ref r0), .val (.int p1), .val (.int p2), .val (.int i), .val (.int 0)] [(.int i)])) (fun _ k => XS.iloadN X9.here hx rfl (hb hby d18_66) rfl k) ?_
        exact own_retI X9 hx Bd.returns (hb hby d18_67) Bd.notSynchronized (by decide) (by decide) (by rw [e9]; exact ⟨rfl, N9, K9, G9⟩)
      · skip
        obtain ⟨cq10, kq10, qk10a, qk10b, qk10c⟩ := isOf hZ e7 Ih.2.1
        obtain ⟨_, _, ⟨T10, L10, k10, n10⟩, -, X10, ⟨Lc10, hQ10, l10, y10, z10⟩, st10⟩ := X7.virtualBack hx (y := (⟨"com/example/corridor/corridor/iso20022/MarkupScanner$Encoding", "begins", "(C)Z"⟩ : MethodName)) (z := (⟨"com/example/corridor/corridor/iso20022/MarkupScanner$Encoding$1", "begins", "(C)Z"⟩ : MethodName)) hown (mvT hZ (own_w hw 164 rfl)) (mvT hZ (own_w hw 165 rfl)) (notFace_of_selects (args := #[]) (mvT hZ (own_w hw 167 rfl))) (mvT hZ (own_w hw 192 rfl)) (mvT hZ (own_w hw 193 rfl)) (by decide) (backOf (W := 0) (bg1 l Z a0 hw [] en h n0 Zh) hZ (own_w hw 195 rfl) (own_w hw 194 rfl) (by decide) (by decide)) qk10a qk10c (g := (mkF m 55 #[.val (.ref r0), .val (.int p1), .val (.int p2), .val (.int i), .val (.int 0)] [(.int 0), (.ref en)])) rfl (by rw [hml]; rfl) (Steps.refl _) (argsL := [(.int 0)]) (rest := []) (lenOf pd0 rfl) rfl (by show 2 * 0 + _ ≤ _; exact Nat.le_of_eq rfl) (hb hby d18_55) (fun _ _ => ⟨rfl, e7, (by decide : 0 + 0 ≤ _), (by decide : 0 + 0 ≤ _)⟩)
        dsimp only [Pt.U, Pt.locs, Pt.cells, Pt.slots] at X10 l10 y10 z10 st10 hQ10
        subst l10 y10 z10
        obtain ⟨rfl, Nq10, e10⟩ := hQ10
        have N10 := Fr.app N6 Nq10
        refine own_g (T10.setTop (mkF m 58 #[.val (.ref r0), .val (.int p1), .val (.int p2), .val (.int i), .val (.int 0)] [(.int 1)])) (fun _ k => st10.trans k) ?_
        refine own_g (T10.setTop (mkF m 61 #[.val (.ref r0), .val (.int p1), .val (.int p2), .val (.int i), .val (.int 0)] [])) (fun _ k => XS.ifNo X10.here hx rfl (hb hby d18_58) rfl ((if0 _ _).trans (feq (by decide : ¬ ((1 : Int32) = (0 : Int32)))).1) k) ?_
        refine own_g (T10.setTop (mkF m 62 #[.val (.ref r0), .val (.int p1), .val (.int p2), .val (.int i), .val (.int 0)] [(.ref r0)])) (fun _ k => XS.aloadN X10.here hx rfl (hb hby d18_61) rfl rfl k) ?_
        refine own_g (T10.setTop (mkF m 63 #[.val (.ref r0), .val (.int p1), .val (.int p2), .val (.int i), .val (.int 0)] [(.int 1), (.ref r0)])) (fun _ k => XS.iconst X10.here hx rfl (hb hby d18_62) k) ?_
        obtain ⟨T11, h11, X11, e11, W11, st11⟩ := putFN X10 hx hZ hown (own_w hw 54 rfl) Via.refl e10 (own_Gf Gh 11 rfl rfl) Gh.1 (Or.inl (own_w hw 55 rfl)) (own_w hw 6 rfl) (ty := .boolean) (v' := (.int 1)) (by decide) rfl rfl (g := (mkF m 63 #[.val (.ref r0), .val (.int p1), .val (.int p2), .val (.int i), .val (.int 0)] [(.int 1), (.ref r0)])) rfl rfl (hb hby d18_63)
        have G11 : own_G Z h11 r0 [x0, x1, x2, x3, x4, (.ref u), (.int fr), x7, (.long fo), (.ref en), (.int w), (.int 1), x12, x13, (.int 0), (.long co), (.int pr), x17, x18, x19, x20, x21, x22] := own_G.put hw Gh 11 rfl (Nat.le_of_ble_eq_true rfl) W11
        have I11 : own_I Z h11 r0 u ku cu en "com/example/corridor/corridor/iso20022/MarkupScanner$Encoding$1" w sa := Ih.wr W11 Gh.1
        have N11 := Fr.snoc X11 N10 gn_r0
        have Z11 : n0 ≤ h11.size := Nat.le_trans Zh (Keep.of_wr W11).1
        have K11 : Keep h0 h11 [r0] := Kh.wr W11 (Or.inl (List.mem_of_getElem? (i := 0) rfl))
        refine own_g (T11.setTop (mkF m 66 #[.val (.ref r0), .val (.int p1), .val (.int p2), .val (.int i), .val (.int 0)] [])) (st11) ?_
        refine own_g (T11.setTop (mkF m 67 #[.val (.ref r0), .val (.int p1), .val (.int p2), .val (.int i), .val (.int 0)] [(.int i)])) (fun _ k => XS.iloadN X11.here hx rfl (hb hby d18_66) rfl k) ?_
        exact own_retI X11 hx Bd.returns (hb hby d18_67) Bd.notSynchronized (by decide) (by decide) (by rw [e11]; exact ⟨rfl, N11, K11, G11⟩)
      · skip
        obtain ⟨cq12, kq12, qk12a, qk12b, qk12c⟩ := isOf hZ e7 Ih.2.1
        obtain ⟨_, _, ⟨T12, L12, k12, n12⟩, -, X12, ⟨Lc12, hQ12, l12, y12, z12⟩, st12⟩ := X7.virtualBack hx (y := (⟨"com/example/corridor/corridor/iso20022/MarkupScanner$Encoding", "begins", "(C)Z"⟩ : MethodName)) (z := (⟨"com/example/corridor/corridor/iso20022/MarkupScanner$Encoding$2", "begins", "(C)Z"⟩ : MethodName)) hown (mvT hZ (own_w hw 164 rfl)) (mvT hZ (own_w hw 165 rfl)) (notFace_of_selects (args := #[]) (mvT hZ (own_w hw 167 rfl))) (mvT hZ (own_w hw 199 rfl)) (mvT hZ (own_w hw 200 rfl)) (by decide) (backOf (W := 0) (bg2 l Z a0 hw [] en h n0 Zh) hZ (own_w hw 202 rfl) (own_w hw 201 rfl) (by decide) (by decide)) qk12a qk12c (g := (mkF m 55 #[.val (.ref r0), .val (.int p1), .val (.int p2), .val (.int i), .val (.int 0)] [(.int 0), (.ref en)])) rfl (by rw [hml]; rfl) (Steps.refl _) (argsL := [(.int 0)]) (rest := []) (lenOf pd0 rfl) rfl (by show 2 * 0 + _ ≤ _; exact Nat.le_of_eq rfl) (hb hby d18_55) (fun _ _ => ⟨rfl, e7, (by decide : 0 + 0 ≤ _), (by decide : 0 + 0 ≤ _)⟩)
        dsimp only [Pt.U, Pt.locs, Pt.cells, Pt.slots] at X12 l12 y12 z12 st12 hQ12
        subst l12 y12 z12
        obtain ⟨rfl, Nq12, e12⟩ := hQ12
        have N12 := Fr.app N6 Nq12
        refine own_g (T12.setTop (mkF m 58 #[.val (.ref r0), .val (.int p1), .val (.int p2), .val (.int i), .val (.int 0)] [(.int 1)])) (fun _ k => st12.trans k) ?_
        refine own_g (T12.setTop (mkF m 61 #[.val (.ref r0), .val (.int p1), .val (.int p2), .val (.int i), .val (.int 0)] [])) (fun _ k => XS.ifNo X12.here hx rfl (hb hby d18_58) rfl ((if0 _ _).trans (feq (by decide : ¬ ((1 : Int32) = (0 : Int32)))).1) k) ?_
        refine own_g (T12.setTop (mkF m 62 #[.val (.ref r0), .val (.int p1), .val (.int p2), .val (.int i), .val (.int 0)] [(.ref r0)])) (fun _ k => XS.aloadN X12.here hx rfl (hb hby d18_61) rfl rfl k) ?_
        refine own_g (T12.setTop (mkF m 63 #[.val (.ref r0), .val (.int p1), .val (.int p2), .val (.int i), .val (.int 0)] [(.int 1), (.ref r0)])) (fun _ k => XS.iconst X12.here hx rfl (hb hby d18_62) k) ?_
        obtain ⟨T13, h13, X13, e13, W13, st13⟩ := putFN X12 hx hZ hown (own_w hw 54 rfl) Via.refl e12 (own_Gf Gh 11 rfl rfl) Gh.1 (Or.inl (own_w hw 55 rfl)) (own_w hw 6 rfl) (ty := .boolean) (v' := (.int 1)) (by decide) rfl rfl (g := (mkF m 63 #[.val (.ref r0), .val (.int p1), .val (.int p2), .val (.int i), .val (.int 0)] [(.int 1), (.ref r0)])) rfl rfl (hb hby d18_63)
        have G13 : own_G Z h13 r0 [x0, x1, x2, x3, x4, (.ref u), (.int fr), x7, (.long fo), (.ref en), (.int w), (.int 1), x12, x13, (.int 0), (.long co), (.int pr), x17, x18, x19, x20, x21, x22] := own_G.put hw Gh 11 rfl (Nat.le_of_ble_eq_true rfl) W13
        have I13 : own_I Z h13 r0 u ku cu en "com/example/corridor/corridor/iso20022/MarkupScanner$Encoding$2" w sa := Ih.wr W13 Gh.1
        have N13 := Fr.snoc X13 N12 gn_r0
        have Z13 : n0 ≤ h13.size := Nat.le_trans Zh (Keep.of_wr W13).1
        have K13 : Keep h0 h13 [r0] := Kh.wr W13 (Or.inl (List.mem_of_getElem? (i := 0) rfl))
        refine own_g (T13.setTop (mkF m 66 #[.val (.ref r0), .val (.int p1), .val (.int p2), .val (.int i), .val (.int 0)] [])) (st13) ?_
        refine own_g (T13.setTop (mkF m 67 #[.val (.ref r0), .val (.int p1), .val (.int p2), .val (.int i), .val (.int 0)] [(.int i)])) (fun _ k => XS.iloadN X13.here hx rfl (hb hby d18_66) rfl k) ?_
        exact own_retI X13 hx Bd.returns (hb hby d18_67) Bd.notSynchronized (by decide) (by decide) (by rw [e13]; exact ⟨rfl, N13, K13, G13⟩)
    | succ k ih =>
      intro i mk' sl T locs h X eT N Zh Kh Ih Gh hsl hk hi hm
      have hi1 := own_inc (i := i) (by omega) (by omega)
      refine own_g (T.setTop (mkF m 3 #[.val (.ref r0), .val (.int p1), .val (.int p2), .val (.int i), sl] [(.int i)])) (fun _ k => XS.iloadN X.here hx rfl (hb hby d18_2) rfl k) ?_
      refine own_g (T.setTop (mkF m 4 #[.val (.ref r0), .val (.int p1), .val (.int p2), .val (.int i), sl] [(.int p2), (.int i)])) (fun _ k => XS.iloadN X.here hx rfl (hb hby d18_3) rfl k) ?_
      refine own_g (T.setTop (mkF m 7 #[.val (.ref r0), .val (.int p1), .val (.int p2), .val (.int i), sl] [])) (fun _ k => XS.icmpNo X.here hx rfl (hb hby d18_4) rfl (tlt (own_ilt (by omega) : i < p2)).2.1 k) ?_
      refine own_g (T.setTop (mkF m 8 #[.val (.ref r0), .val (.int p1), .val (.int p2), .val (.int i), sl] [(.ref r0)])) (fun _ k => XS.aloadN X.here hx rfl (hb hby d18_7) rfl rfl k) ?_
      obtain ⟨T14, X14, e14, st14⟩ := getF X hx hZ hown (host := "") (Or.inl (own_w hw 32 rfl)) Via.refl eT (own_Gf Gh 5 rfl rfl) (g := (mkF m 8 #[.val (.ref r0), .val (.int p1), .val (.int p2), .val (.int i), sl] [(.ref r0)])) rfl rfl (hb hby d18_8)
      refine own_g (T14.setTop (mkF m 11 #[.val (.ref r0), .val (.int p1), .val (.int p2), .val (.int i), sl] [(.ref u)])) (st14) ?_
      refine own_g (T14.setTop (mkF m 12 #[.val (.ref r0), .val (.int p1), .val (.int p2), .val (.int i), sl] [(.int i), (.ref u)])) (fun _ k => XS.iloadN X14.here hx rfl (hb hby d18_11) rfl k) ?_
      obtain ⟨cl15, Ar15, hin15, hat15⟩ := own_I.at0 Ih i (by omega) (by omega)
      refine own_g (T14.setTop (mkF m 13 #[.val (.ref r0), .val (.int p1), .val (.int p2), .val (.int i), sl] [(.int 0)])) (X14.caload hx (j := i) (v := (.int 0)) (by rw [e14]; exact Ar15.1) (State.isArrayOf_alike hZ.alike Ar15.2.1) Ar15.2.2 hin15 hat15 (g := (mkF m 12 #[.val (.ref r0), .val (.int p1), .val (.int p2), .val (.int i), sl] [(.int i), (.ref u)])) rfl rfl (hb hby d18_12)) ?_
      refine own_g (T14.setTop (mkF m 15 #[.val (.ref r0), .val (.int p1), .val (.int p2), .val (.int i), .val (.int 0)] [])) (fun _ k => XS.istore X14.here hx rfl (hb hby d18_13) rfl (l' := #[.val (.ref r0), .val (.int p1), .val (.int p2), .val (.int i), .val (.int 0)]) (by rcases hsl with rfl | rfl <;> rfl) k) ?_
      refine own_g (T14.setTop (mkF m 16 #[.val (.ref r0), .val (.int p1), .val (.int p2), .val (.int i), .val (.int 0)] [(.ref r0)])) (fun _ k => XS.aloadN X14.here hx rfl (hb hby d18_15) rfl rfl k) ?_
      obtain ⟨T16, X16, e16, st16⟩ := getF X14 hx hZ hown (host := "") (Or.inl (own_w hw 134 rfl)) Via.refl e14 (own_Gf Gh 14 rfl rfl) (g := (mkF m 16 #[.val (.ref r0), .val (.int p1), .val (.int p2), .val (.int i), .val (.int 0)] [(.ref r0)])) rfl rfl (hb hby d18_16)
      refine own_g (T16.setTop (mkF m 19 #[.val (.ref r0), .val (.int p1), .val (.int p2), .val (.int i), .val (.int 0)] [(.int mk')])) (st16) ?_
      by_cases hc19 : mk' = (0 : Int32)
      · skip
        refine own_g (T16.setTop (mkF m 22 #[.val (.ref r0), .val (.int p1), .val (.int p2), .val (.int i), .val (.int 0)] [])) (fun _ k => XS.ifNo X16.here hx rfl (hb hby d18_19) rfl ((if0 _ _).trans (teq hc19).2) k) ?_
        refine own_g (T16.setTop (mkF m 23 #[.val (.ref r0), .val (.int p1), .val (.int p2), .val (.int i), .val (.int 0)] [(.ref r0)])) (fun _ k => XS.aloadN X16.here hx rfl (hb hby d18_22) rfl rfl k) ?_
        refine own_g (T16.setTop (mkF m 24 #[.val (.ref r0), .val (.int p1), .val (.int p2), .val (.int i), .val (.int 0)] [(.int i), (.ref r0)])) (fun _ k => XS.iloadN X16.here hx rfl (hb hby d18_23) rfl k) ?_
        obtain ⟨cq17, qk17, qk17'⟩ := Gh.1.cell
        obtain ⟨_, _, ⟨T17, L17, k17, n17⟩, -, X17, ⟨Lc17, hQ17, l17, y17, z17⟩, st17⟩ := X16.privateBack hx (y := (⟨"com/example/corridor/corridor/iso20022/MarkupScanner", "offsetAt", "(I)J"⟩ : MethodName)) hown (mvT hZ (own_w hw 136 rfl)) (mvT hZ (own_w hw 137 rfl)) (mvT hZ (own_selPriv (own_w hw 137 rfl) (own_w hw 138 rfl) (own_w hw 30 rfl) rfl (by decide))) (Cond.privateMethod_at (mvP hZ (own_w hw 138 rfl) (args := #[]))) (mvT hZ (own_w hw 139 rfl)) (by decide) (backOf (W := 0) (off l Z a0 hw [] r0 i u ku cu en EC w sa x0 x1 x2 x3 x4 (.ref u) fr x7 fo (.ref en) w (.int 0) x12 x13 (.int mk') (.long co) (.int pr) x17 x18 x19 x20 x21 x22 h n0 Zh Ih Gh gn_r0) hZ (own_w hw 139 rfl) (own_w hw 7 rfl) (by decide) (by decide)) (g := (mkF m 24 #[.val (.ref r0), .val (.int p1), .val (.int p2), .val (.int i), .val (.int 0)] [(.int i), (.ref r0)])) rfl (by rw [hml]; rfl) (Steps.refl _) (a := r0) (by rw [e16]; exact qk17) qk17' (argsL := [(.int i)]) (rest := []) (lenOf pd6 rfl) rfl (by show 2 * 0 + _ ≤ _; exact Nat.le_of_eq rfl) (hb hby d18_24) (fun _ _ => ⟨rfl, e16, (by decide : 0 + 0 ≤ _), (by decide : 0 + 0 ≤ _)⟩)
        dsimp only [Pt.U, Pt.locs, Pt.cells, Pt.slots] at X17 l17 y17 z17 st17 hQ17
        subst l17 y17 z17
        obtain ⟨rfl, Nq17, e17⟩ := hQ17
        have N17 := Fr.app N Nq17
        refine own_g (T17.setTop (mkF m 27 #[.val (.ref r0), .val (.int p1), .val (.int p2), .val (.int i), .val (.int 0)] [(.long (fo + (((i - fr).toInt64) * (w.toInt64))))])) (fun _ k => st17.trans k) ?_
        refine own_g (T17.setTop (mkF m 28 #[.val (.ref r0), .val (.int p1), .val (.int p2), .val (.int i), .val (.int 0)] [(.ref r0), (.long (fo + (((i - fr).toInt64) * (w.toInt64))))])) (fun _ k => XS.aloadN X17.here hx rfl (hb hby d18_27) rfl rfl k) ?_
        obtain ⟨T18, X18, e18, st18⟩ := getF X17 hx hZ hown (host := "") (Or.inl (own_w hw 140 rfl)) Via.refl e17 (own_Gf Gh 15 rfl rfl) (g := (mkF m 28 #[.val (.ref r0), .val (.int p1), .val (.int p2), .val (.int i), .val (.int 0)] [(.ref r0), (.long (fo + (((i - fr).toInt64) * (w.toInt64))))])) rfl rfl (hb hby d18_28)
        refine own_g (T18.setTop (mkF m 31 #[.val (.ref r0), .val (.int p1), .val (.int p2), .val (.int i), .val (.int 0)] [(.long co), (.long (fo + (((i - fr).toInt64) * (w.toInt64))))])) (st18) ?_
        refine own_g (T18.setTop (mkF m 32 #[.val (.ref r0), .val (.int p1), .val (.int p2), .val (.int i), .val (.int 0)] [(.long ((fo + (((i - fr).toInt64) * (w.toInt64))) - co))])) (fun _ k => XS.lsub X18.here hx rfl (hb hby d18_31) rfl k) ?_
        refine own_g (T18.setTop (mkF m 35 #[.val (.ref r0), .val (.int p1), .val (.int p2), .val (.int i), .val (.int 0)] [(.long 8192), (.long ((fo + (((i - fr).toInt64) * (w.toInt64))) - co))])) (X18.ldc2Long hx hown (mvT hZ (own_w hw 148 rfl)) (g := (mkF m 32 #[.val (.ref r0), .val (.int p1), .val (.int p2), .val (.int i), .val (.int 0)] [(.long ((fo + (((i - fr).toInt64) * (w.toInt64))) - co))])) rfl (hb hby d18_32)) ?_
        refine own_g (T18.setTop (mkF m 36 #[.val (.ref r0), .val (.int p1), .val (.int p2), .val (.int i), .val (.int 0)] [(.int (lcmpW ((fo + (((i - fr).toInt64) * (w.toInt64))) - co) (8192 : Int64)))])) (fun _ k => XS.lcmp X18.here hx rfl (hb hby d18_35) rfl k) ?_
        refine own_g (T18.setTop (mkF m 68 #[.val (.ref r0), .val (.int p1), .val (.int p2), .val (.int i), .val (.int 0)] [])) (fun _ k => XS.ifYes X18.here hx rfl (pc0 := 36) (pc' := 68) rfl (hb hby d18_36) rfl ((if0 _ _).trans (tlt (own_before HC (by omega) (by omega) : (lcmpW ((fo + (((i - fr).toInt64) * (w.toInt64))) - co) (8192 : Int64)) < (0 : Int32))).1) (by decide) (by decide) k) ?_
        refine own_g (T18.setTop (mkF m 69 #[.val (.ref r0), .val (.int p1), .val (.int p2), .val (.int i), .val (.int 0)] [(.ref r0)])) (fun _ k => XS.aloadN X18.here hx rfl (hb hby d18_68) rfl rfl k) ?_
        refine own_g (T18.setTop (mkF m 71 #[.val (.ref r0), .val (.int p1), .val (.int p2), .val (.int i), .val (.int 0)] [(.int 0), (.ref r0)])) (fun _ k => XS.iload X18.here hx rfl (hb hby d18_69) rfl k) ?_
        refine own_g (T18.setTop (mkF m 73 #[.val (.ref r0), .val (.int p1), .val (.int p2), .val (.int i), .val (.int 0)] [(.int 93), (.int 0), (.ref r0)])) (fun _ k => XS.bipush X18.here hx rfl (hb hby d18_71) k) ?_
        refine own_g (T18.setTop (mkF m 74 #[.val (.ref r0), .val (.int p1), .val (.int p2), .val (.int i), .val (.int 0)] [(.int 2), (.int 93), (.int 0), (.ref r0)])) (fun _ k => XS.iconst X18.here hx rfl (hb hby d18_73) k) ?_
        obtain ⟨cq19, qk19, qk19'⟩ := Gh.1.cell
        obtain ⟨_, _, ⟨T19, L19, k19, n19⟩, -, X19, ⟨Lc19, hQ19, l19, y19, z19⟩, st19⟩ := X18.privateBack hx (y := (⟨"com/example/corridor/corridor/iso20022/MarkupScanner", "closes", "(CCI)Z"⟩ : MethodName)) hown (mvT hZ (own_w hw 149 rfl)) (mvT hZ (own_w hw 150 rfl)) (mvT hZ (own_selPriv (own_w hw 150 rfl) (own_w hw 151 rfl) (own_w hw 30 rfl) rfl (by decide))) (Cond.privateMethod_at (mvP hZ (own_w hw 151 rfl) (args := #[]))) (mvT hZ (own_w hw 152 rfl)) (by decide) (backOf (W := 0) (cl0 l Z a0 hw [] r0 u ku cu en EC w sa x0 x1 x2 x3 x4 (.ref u) (.int fr) x7 (.long fo) (.ref en) (.int w) (.int 0) x12 x13 (.int mk') (.long co) (.int pr) x17 x18 x19 x20 x21 x22 h n0 Zh Ih Gh gn_r0) hZ (own_w hw 152 rfl) (own_w hw 7 rfl) (by decide) (by decide)) (g := (mkF m 74 #[.val (.ref r0), .val (.int p1), .val (.int p2), .val (.int i), .val (.int 0)] [(.int 2), (.int 93), (.int 0), (.ref r0)])) rfl (by rw [hml]; rfl) (Steps.refl _) (a := r0) (by rw [e18]; exact qk19) qk19' (argsL := [(.int 0), (.int 93), (.int 2)]) (rest := []) (lenOf pd7 rfl) rfl (by show 2 * 0 + _ ≤ _; exact Nat.le_of_eq rfl) (hb hby d18_74) (fun _ _ => ⟨rfl, e18, (by decide : 0 + 0 ≤ _), (by decide : 0 + 0 ≤ _)⟩)
        dsimp only [Pt.U, Pt.locs, Pt.cells, Pt.slots] at X19 l19 y19 z19 st19 hQ19
        subst l19 y19 z19
        obtain ⟨rfl, Nq19, Kq19, Gq19⟩ := hQ19
        have N19 := Fr.app N17 Nq19
        have I19 : own_I Z T19.heap r0 u ku cu en EC w sa := Ih.keep Kq19 Gh.1
        have G19 : own_G Z T19.heap r0 [x0, x1, x2, x3, x4, (.ref u), (.int fr), x7, (.long fo), (.ref en), (.int w), (.int 0), x12, x13, (.int 0), (.long co), (.int pr), x17, x18, x19, x20, x21, x22] := Gq19
        have Z19 : n0 ≤ T19.heap.size := Nat.le_trans Zh Kq19.1
        have K19 : Keep h0 T19.heap [r0] := Kh.trans Kq19 (allS (Or.inl (List.mem_of_getElem? (i := 0) rfl)) all0)
        refine own_g (T19.setTop (mkF m 77 #[.val (.ref r0), .val (.int p1), .val (.int p2), .val (.int i), .val (.int 0)] [(.int 0)])) (fun _ k => st19.trans k) ?_
        refine own_g (T19.setTop (mkF m 84 #[.val (.ref r0), .val (.int p1), .val (.int p2), .val (.int i), .val (.int 0)] [])) (fun _ k => XS.ifYes X19.here hx rfl (pc0 := 77) (pc' := 84) rfl (hb hby d18_77) rfl ((if0 _ _).trans (teq (by decide : (0 : Int32) = (0 : Int32))).1) (by decide) (by decide) k) ?_
        refine own_g (T19.setTop (mkF m 85 #[.val (.ref r0), .val (.int p1), .val (.int p2), .val (.int i), .val (.int 0)] [(.ref r0)])) (fun _ k => XS.aloadN X19.here hx rfl (hb hby d18_84) rfl rfl k) ?_
        refine own_g (T19.setTop (mkF m 87 #[.val (.ref r0), .val (.int p1), .val (.int p2), .val (.int i), .val (.int 0)] [(.int 0), (.ref r0)])) (fun _ k => XS.iload X19.here hx rfl (hb hby d18_85) rfl k) ?_
        refine own_g (T19.setTop (mkF m 88 #[.val (.ref r0), .val (.int p1), .val (.int p2), .val (.int i), .val (.int 0)] [(.int i), (.int 0), (.ref r0)])) (fun _ k => XS.iloadN X19.here hx rfl (hb hby d18_87) rfl k) ?_
        obtain ⟨cq20, qk20, qk20'⟩ := G19.1.cell
        obtain ⟨_, _, ⟨T20, L20, k20, n20⟩, -, X20, ⟨Lc20, hQ20, l20, y20, z20⟩, st20⟩ := X19.privateBack hx (y := (⟨"com/example/corridor/corridor/iso20022/MarkupScanner", "lineEnd", "(CI)V"⟩ : MethodName)) hown (mvT hZ (own_w hw 87 rfl)) (mvT hZ (own_w hw 88 rfl)) (mvT hZ (own_selPriv (own_w hw 88 rfl) (own_w hw 89 rfl) (own_w hw 30 rfl) rfl (by decide))) (Cond.privateMethod_at (mvP hZ (own_w hw 89 rfl) (args := #[]))) (mvT hZ (own_w hw 90 rfl)) (by decide) (backOf (W := 0) (le0 l Z a0 hw [] r0 i u ku cu en EC w sa x0 x1 x2 x3 x4 fr x7 (.long fo) (.ref en) (.int w) (.int 0) x12 x13 (.int 0) (.long co) pr x17 x18 x19 x20 x21 x22 T19.heap n0 Z19 I19 G19 gn_r0 b1 (by omega)) hZ (own_w hw 90 rfl) (own_w hw 7 rfl) (by decide) (by decide)) (g := (mkF m 88 #[.val (.ref r0), .val (.int p1), .val (.int p2), .val (.int i), .val (.int 0)] [(.int i), (.int 0), (.ref r0)])) rfl (by rw [hml]; rfl) (Steps.refl _) (a := r0) qk20 qk20' (argsL := [(.int 0), (.int i)]) (rest := []) (lenOf pd5 rfl) rfl (by show 2 * 0 + _ ≤ _; exact Nat.le_of_eq rfl) (hb hby d18_88) (fun _ _ => ⟨rfl, rfl, (by decide : 0 + 0 ≤ _), (by decide : 0 + 0 ≤ _)⟩)
        dsimp only [Pt.U, Pt.locs, Pt.cells, Pt.slots] at X20 l20 y20 z20 st20 hQ20
        subst l20 y20 z20
        obtain ⟨rfl, Nq20, e20⟩ := hQ20
        have N20 := Fr.app N19 Nq20
        refine own_g (T20.setTop (mkF m 91 #[.val (.ref r0), .val (.int p1), .val (.int p2), .val (.int i), .val (.int 0)] [])) (fun _ k => st20.trans k) ?_
        refine own_g (T20.setTop (mkF m 94 #[.val (.ref r0), .val (.int p1), .val (.int p2), .val (.int (i + (1 : Int32))), .val (.int 0)] [])) (fun _ k => XS.iinc X20.here hx rfl (hb hby d18_91) rfl (l' := #[.val (.ref r0), .val (.int p1), .val (.int p2), .val (.int (i + (1 : Int32))), .val (.int 0)]) rfl k) ?_
        refine own_g (T20.setTop (mkF m 2 #[.val (.ref r0), .val (.int p1), .val (.int p2), .val (.int (i + (1 : Int32))), .val (.int 0)] [])) (fun _ k => XS.goto X20.here hx rfl (pc0 := 94) (pc' := 2) rfl (hb hby d18_94) (by decide) (by decide) k) ?_
        exact ih (i + (1 : Int32)) (0 : Int32) _ _ _ _ X20 e20 N20 Z19 K19 I19 G19 (Or.inr rfl) (by rw [hi1]; omega) (by rw [hi1]; omega) (fun _ => rfl)
      · skip
        refine own_g (T16.setTop (mkF m 68 #[.val (.ref r0), .val (.int p1), .val (.int p2), .val (.int i), .val (.int 0)] [])) (fun _ k => XS.ifYes X16.here hx rfl (pc0 := 19) (pc' := 68) rfl (hb hby d18_19) rfl ((if0 _ _).trans (feq hc19).2) (by decide) (by decide) k) ?_
        refine own_g (T16.setTop (mkF m 69 #[.val (.ref r0), .val (.int p1), .val (.int p2), .val (.int i), .val (.int 0)] [(.ref r0)])) (fun _ k => XS.aloadN X16.here hx rfl (hb hby d18_68) rfl rfl k) ?_
        refine own_g (T16.setTop (mkF m 71 #[.val (.ref r0), .val (.int p1), .val (.int p2), .val (.int i), .val (.int 0)] [(.int 0), (.ref r0)])) (fun _ k => XS.iload X16.here hx rfl (hb hby d18_69) rfl k) ?_
        refine own_g (T16.setTop (mkF m 73 #[.val (.ref r0), .val (.int p1), .val (.int p2), .val (.int i), .val (.int 0)] [(.int 93), (.int 0), (.ref r0)])) (fun _ k => XS.bipush X16.here hx rfl (hb hby d18_71) k) ?_
        refine own_g (T16.setTop (mkF m 74 #[.val (.ref r0), .val (.int p1), .val (.int p2), .val (.int i), .val (.int 0)] [(.int 2), (.int 93), (.int 0), (.ref r0)])) (fun _ k => XS.iconst X16.here hx rfl (hb hby d18_73) k) ?_
        obtain ⟨cq21, qk21, qk21'⟩ := Gh.1.cell
        obtain ⟨_, _, ⟨T21, L21, k21, n21⟩, -, X21, ⟨Lc21, hQ21, l21, y21, z21⟩, st21⟩ := X16.privateBack hx (y := (⟨"com/example/corridor/corridor/iso20022/MarkupScanner", "closes", "(CCI)Z"⟩ : MethodName)) hown (mvT hZ (own_w hw 149 rfl)) (mvT hZ (own_w hw 150 rfl)) (mvT hZ (own_selPriv (own_w hw 150 rfl) (own_w hw 151 rfl) (own_w hw 30 rfl) rfl (by decide))) (Cond.privateMethod_at (mvP hZ (own_w hw 151 rfl) (args := #[]))) (mvT hZ (own_w hw 152 rfl)) (by decide) (backOf (W := 0) (cl0 l Z a0 hw [] r0 u ku cu en EC w sa x0 x1 x2 x3 x4 (.ref u) (.int fr) x7 (.long fo) (.ref en) (.int w) (.int 0) x12 x13 (.int mk') (.long co) (.int pr) x17 x18 x19 x20 x21 x22 h n0 Zh Ih Gh gn_r0) hZ (own_w hw 152 rfl) (own_w hw 7 rfl) (by decide) (by decide)) (g := (mkF m 74 #[.val (.ref r0), .val (.int p1), .val (.int p2), .val (.int i), .val (.int 0)] [(.int 2), (.int 93), (.int 0), (.ref r0)])) rfl (by rw [hml]; rfl) (Steps.refl _) (a := r0) (by rw [e16]; exact qk21) qk21' (argsL := [(.int 0), (.int 93), (.int 2)]) (rest := []) (lenOf pd7 rfl) rfl (by show 2 * 0 + _ ≤ _; exact Nat.le_of_eq rfl) (hb hby d18_74) (fun _ _ => ⟨rfl, e16, (by decide : 0 + 0 ≤ _), (by decide : 0 + 0 ≤ _)⟩)
        dsimp only [Pt.U, Pt.locs, Pt.cells, Pt.slots] at X21 l21 y21 z21 st21 hQ21
        subst l21 y21 z21
        obtain ⟨rfl, Nq21, Kq21, Gq21⟩ := hQ21
        have N21 := Fr.app N Nq21
        have I21 : own_I Z T21.heap r0 u ku cu en EC w sa := Ih.keep Kq21 Gh.1
        have G21 : own_G Z T21.heap r0 [x0, x1, x2, x3, x4, (.ref u), (.int fr), x7, (.long fo), (.ref en), (.int w), (.int 0), x12, x13, (.int 0), (.long co), (.int pr), x17, x18, x19, x20, x21, x22] := Gq21
        have Z21 : n0 ≤ T21.heap.size := Nat.le_trans Zh Kq21.1
        have K21 : Keep h0 T21.heap [r0] := Kh.trans Kq21 (allS (Or.inl (List.mem_of_getElem? (i := 0) rfl)) all0)
        refine own_g (T21.setTop (mkF m 77 #[.val (.ref r0), .val (.int p1), .val (.int p2), .val (.int i), .val (.int 0)] [(.int 0)])) (fun _ k => st21.trans k) ?_
        refine own_g (T21.setTop (mkF m 84 #[.val (.ref r0), .val (.int p1), .val (.int p2), .val (.int i), .val (.int 0)] [])) (fun _ k => XS.ifYes X21.here hx rfl (pc0 := 77) (pc' := 84) rfl (hb hby d18_77) rfl ((if0 _ _).trans (teq (by decide : (0 : Int32) = (0 : Int32))).1) (by decide) (by decide) k) ?_
        refine own_g (T21.setTop (mkF m 85 #[.val (.ref r0), .val (.int p1), .val (.int p2), .val (.int i), .val (.int 0)] [(.ref r0)])) (fun _ k => XS.aloadN X21.here hx rfl (hb hby d18_84) rfl rfl k) ?_
        refine own_g (T21.setTop (mkF m 87 #[.val (.ref r0), .val (.int p1), .val (.int p2), .val (.int i), .val (.int 0)] [(.int 0), (.ref r0)])) (fun _ k => XS.iload X21.here hx rfl (hb hby d18_85) rfl k) ?_
        refine own_g (T21.setTop (mkF m 88 #[.val (.ref r0), .val (.int p1), .val (.int p2), .val (.int i), .val (.int 0)] [(.int i), (.int 0), (.ref r0)])) (fun _ k => XS.iloadN X21.here hx rfl (hb hby d18_87) rfl k) ?_
        obtain ⟨cq22, qk22, qk22'⟩ := G21.1.cell
        obtain ⟨_, _, ⟨T22, L22, k22, n22⟩, -, X22, ⟨Lc22, hQ22, l22, y22, z22⟩, st22⟩ := X21.privateBack hx (y := (⟨"com/example/corridor/corridor/iso20022/MarkupScanner", "lineEnd", "(CI)V"⟩ : MethodName)) hown (mvT hZ (own_w hw 87 rfl)) (mvT hZ (own_w hw 88 rfl)) (mvT hZ (own_selPriv (own_w hw 88 rfl) (own_w hw 89 rfl) (own_w hw 30 rfl) rfl (by decide))) (Cond.privateMethod_at (mvP hZ (own_w hw 89 rfl) (args := #[]))) (mvT hZ (own_w hw 90 rfl)) (by decide) (backOf (W := 0) (le0 l Z a0 hw [] r0 i u ku cu en EC w sa x0 x1 x2 x3 x4 fr x7 (.long fo) (.ref en) (.int w) (.int 0) x12 x13 (.int 0) (.long co) pr x17 x18 x19 x20 x21 x22 T21.heap n0 Z21 I21 G21 gn_r0 b1 (by omega)) hZ (own_w hw 90 rfl) (own_w hw 7 rfl) (by decide) (by decide)) (g := (mkF m 88 #[.val (.ref r0), .val (.int p1), .val (.int p2), .val (.int i), .val (.int 0)] [(.int i), (.int 0), (.ref r0)])) rfl (by rw [hml]; rfl) (Steps.refl _) (a := r0) qk22 qk22' (argsL := [(.int 0), (.int i)]) (rest := []) (lenOf pd5 rfl) rfl (by show 2 * 0 + _ ≤ _; exact Nat.le_of_eq rfl) (hb hby d18_88) (fun _ _ => ⟨rfl, rfl, (by decide : 0 + 0 ≤ _), (by decide : 0 + 0 ≤ _)⟩)
        dsimp only [Pt.U, Pt.locs, Pt.cells, Pt.slots] at X22 l22 y22 z22 st22 hQ22
        subst l22 y22 z22
        obtain ⟨rfl, Nq22, e22⟩ := hQ22
        have N22 := Fr.app N21 Nq22
        refine own_g (T22.setTop (mkF m 91 #[.val (.ref r0), .val (.int p1), .val (.int p2), .val (.int i), .val (.int 0)] [])) (fun _ k => st22.trans k) ?_
        refine own_g (T22.setTop (mkF m 94 #[.val (.ref r0), .val (.int p1), .val (.int p2), .val (.int (i + (1 : Int32))), .val (.int 0)] [])) (fun _ k => XS.iinc X22.here hx rfl (hb hby d18_91) rfl (l' := #[.val (.ref r0), .val (.int p1), .val (.int p2), .val (.int (i + (1 : Int32))), .val (.int 0)]) rfl k) ?_
        refine own_g (T22.setTop (mkF m 2 #[.val (.ref r0), .val (.int p1), .val (.int p2), .val (.int (i + (1 : Int32))), .val (.int 0)] [])) (fun _ k => XS.goto X22.here hx rfl (pc0 := 94) (pc' := 2) rfl (hb hby d18_94) (by decide) (by decide) k) ?_
        exact ih (i + (1 : Int32)) (0 : Int32) _ _ _ _ X22 e22 N22 Z21 K21 I21 G21 (Or.inr rfl) (by rw [hi1]; omega) (by rw [hi1]; omega) (fun _ => rfl)
  exact loop (qi.toInt - p1.toInt).toNat p1 mk _ _ _ _ X0 e0 N0 Z0 K0 I G (Or.inl rfl) (by omega) (by omega) (fun q => q.elim (fun z => absurd z (by omega)) hm0)
theorem d14_0 : decode jdk_41_method_11_code 0 = .ok (.iload_n 0, 1) := by decide +kernel
theorem d14_1 : decode jdk_41_method_11_code 1 = .ok (.ifCond .lt 8, 3) := by decide +kernel
theorem d14_4 : decode jdk_41_method_11_code 4 = .ok (.iload_n 0, 1) := by decide +kernel
theorem d14_5 : decode jdk_41_method_11_code 5 = .ok (.iload_n 1, 1) := by decide +kernel
theorem d14_6 : decode jdk_41_method_11_code 6 = .ok (.if_icmp .lt 10, 3) := by decide +kernel
theorem d14_16 : decode jdk_41_method_11_code 16 = .ok (.iload_n 0, 1) := by decide +kernel
theorem d14_17 : decode jdk_41_method_11_code 17 = .ok (.ireturn, 1) := by decide +kernel
theorem pn14 : plainName "jdk/internal/util/Preconditions" = true := by first | (simp [plainName, overriddenIn]; done) | decide +kernel
theorem ef_pi_n (m : MethodId) (p0 : Int32) (p1 : Int32) : entryFrame m #[(.int p0), (.int p1), .null] 3 = mkF m 0 #[.val (.int p0), .val (.int p1), .val .null] [] := by first | (simp [entryFrame, mkF, argsToLocals, Value.category]; done) | rfl
set_option maxRecDepth 65536 in
set_option maxHeartbeats 40000000 in
theorem pi_n (l : Launch) (Z : State) (a0 : Array Value) (hw : ∀ d ∈ tables_1, d.before a0 Z = true) (ws : List Jvm.Cond) (p0 : Int32) (p1 : Int32) (h0 : Heap) (n0 : Nat) (Z0 : n0 ≤ h0.size) (h0i : ¬ (p0 < (0 : Int32))) (h1i : p0 < p1) :
    MetFree l (⟨"jdk/internal/util/Preconditions", "checkIndex", "(IILjava/util/function/BiFunction;)I"⟩ : MethodName) (head1 (Jvm.Cond.code (⟨"jdk/internal/util/Preconditions", "checkIndex", "(IILjava/util/function/BiFunction;)I"⟩ : MethodName) jdk_41_method_11_code 3 (some .int) :: ws) ({ frames := 0, cells := 0, slots := 0, locals := 0 } : Room)) (fun a U => a = #[(.int p0), (.int p1), .null] ∧ Z.Warmed39 U.vm ∧ U.heap = h0) (fun _ _ _ _ _ => True) (fun _ U o U' => ∃ v L, o = .returned v ∧ (own_Same (.int p0) h0 n0) v U'.heap L ∧ FrameEnd U o U' L 0 0) := by
  refine MetFree.of_bodySF (plainFor_of_name pn14) hisR ?_
  intro p e s m args below meth c s₁ Bd hml0 hP hK
  obtain ⟨rfl, hZ, hh⟩ := hP
  have hx := Bd.exec
  have hby := Bd.bytes
  have hml : c.maxLocals = 3 := hml0
  have hown : s.vm.findClass "jdk/internal/util/Preconditions" = some m.cls := findClass_of_methodNamed Bd.named
  have hnm := (name_of_methodNamed Bd.named Bd.method).1
  have X0 : Stand p l e ({ frames := 0, cells := 0, slots := 0, locals := 0 } : Room) s m #[(.int p0), (.int p1), .null] below meth c s₁ [] 0 0 := Stand.of_body Bd
  have e0 : s₁.heap = h0 := by rw [← hh, Bd.state]; rfl
  have N0 := Fr.nil n0
  show own_Goes p e below (own_End s (own_Same (.int p0) h0 n0) 0 0) _
  refine own_g (s₁.setTop (mkF m 0 #[.val (.int p0), .val (.int p1), .val .null] [])) (fun t k => castTop (ef_pi_n m p0 p1) k) ?_
  refine own_g (s₁.setTop (mkF m 1 #[.val (.int p0), .val (.int p1), .val .null] [(.int p0)])) (fun _ k => XS.iloadN X0.here hx rfl (hb hby d14_0) rfl k) ?_
  refine own_g (s₁.setTop (mkF m 4 #[.val (.int p0), .val (.int p1), .val .null] [])) (fun _ k => XS.ifNo X0.here hx rfl (hb hby d14_1) rfl ((if0 _ _).trans (flt (h0i : ¬ (p0 < (0 : Int32)))).1) k) ?_
  refine own_g (s₁.setTop (mkF m 5 #[.val (.int p0), .val (.int p1), .val .null] [(.int p0)])) (fun _ k => XS.iloadN X0.here hx rfl (hb hby d14_4) rfl k) ?_
  refine own_g (s₁.setTop (mkF m 6 #[.val (.int p0), .val (.int p1), .val .null] [(.int p1), (.int p0)])) (fun _ k => XS.iloadN X0.here hx rfl (hb hby d14_5) rfl k) ?_
  refine own_g (s₁.setTop (mkF m 16 #[.val (.int p0), .val (.int p1), .val .null] [])) (fun _ k => XS.icmpYes X0.here hx rfl (pc0 := 6) (pc' := 16) rfl (hb hby d14_6) rfl (tlt (h1i : p0 < p1)).1 (by decide) (by decide) k) ?_
  refine own_g (s₁.setTop (mkF m 17 #[.val (.int p0), .val (.int p1), .val .null] [(.int p0)])) (fun _ k => XS.iloadN X0.here hx rfl (hb hby d14_16) rfl k) ?_
  exact own_retI X0 hx Bd.returns (hb hby d14_17) Bd.notSynchronized (by decide) (by decide) ⟨rfl, N0, e0⟩
theorem ef_pi_r (m : MethodId) (p0 : Int32) (p1 : Int32) (r2 : Addr) : entryFrame m #[(.int p0), (.int p1), (.ref r2)] 3 = mkF m 0 #[.val (.int p0), .val (.int p1), .val (.ref r2)] [] := by first | (simp [entryFrame, mkF, argsToLocals, Value.category]; done) | rfl
set_option maxRecDepth 65536 in
set_option maxHeartbeats 40000000 in
theorem pi_r (l : Launch) (Z : State) (a0 : Array Value) (hw : ∀ d ∈ tables_1, d.before a0 Z = true) (ws : List Jvm.Cond) (p0 : Int32) (p1 : Int32) (r2 : Addr) (h0 : Heap) (n0 : Nat) (Z0 : n0 ≤ h0.size) (h0i : ¬ (p0 < (0 : Int32))) (h1i : p0 < p1) :
    MetFree l (⟨"jdk/internal/util/Preconditions", "checkIndex", "(IILjava/util/function/BiFunction;)I"⟩ : MethodName) (head1 (Jvm.Cond.code (⟨"jdk/internal/util/Preconditions", "checkIndex", "(IILjava/util/function/BiFunction;)I"⟩ : MethodName) jdk_41_method_11_code 3 (some .int) :: ws) ({ frames := 0, cells := 0, slots := 0, locals := 0 } : Room)) (fun a U => a = #[(.int p0), (.int p1), (.ref r2)] ∧ Z.Warmed39 U.vm ∧ U.heap = h0) (fun _ _ _ _ _ => True) (fun _ U o U' => ∃ v L, o = .returned v ∧ (own_Same (.int p0) h0 n0) v U'.heap L ∧ FrameEnd U o U' L 0 0) := by
  refine MetFree.of_bodySF (plainFor_of_name pn14) hisR ?_
  intro p e s m args below meth c s₁ Bd hml0 hP hK
  obtain ⟨rfl, hZ, hh⟩ := hP
  have hx := Bd.exec
  have hby := Bd.bytes
  have hml : c.maxLocals = 3 := hml0
  have hown : s.vm.findClass "jdk/internal/util/Preconditions" = some m.cls := findClass_of_methodNamed Bd.named
  have hnm := (name_of_methodNamed Bd.named Bd.method).1
  have X0 : Stand p l e ({ frames := 0, cells := 0, slots := 0, locals := 0 } : Room) s m #[(.int p0), (.int p1), (.ref r2)] below meth c s₁ [] 0 0 := Stand.of_body Bd
  have e0 : s₁.heap = h0 := by rw [← hh, Bd.state]; rfl
  have N0 := Fr.nil n0
  show own_Goes p e below (own_End s (own_Same (.int p0) h0 n0) 0 0) _
  refine own_g (s₁.setTop (mkF m 0 #[.val (.int p0), .val (.int p1), .val (.ref r2)] [])) (fun t k => castTop (ef_pi_r m p0 p1 r2) k) ?_
  refine own_g (s₁.setTop (mkF m 1 #[.val (.int p0), .val (.int p1), .val (.ref r2)] [(.int p0)])) (fun _ k => XS.iloadN X0.here hx rfl (hb hby d14_0) rfl k) ?_
  refine own_g (s₁.setTop (mkF m 4 #[.val (.int p0), .val (.int p1), .val (.ref r2)] [])) (fun _ k => XS.ifNo X0.here hx rfl (hb hby d14_1) rfl ((if0 _ _).trans (flt (h0i : ¬ (p0 < (0 : Int32)))).1) k) ?_
  refine own_g (s₁.setTop (mkF m 5 #[.val (.int p0), .val (.int p1), .val (.ref r2)] [(.int p0)])) (fun _ k => XS.iloadN X0.here hx rfl (hb hby d14_4) rfl k) ?_
  refine own_g (s₁.setTop (mkF m 6 #[.val (.int p0), .val (.int p1), .val (.ref r2)] [(.int p1), (.int p0)])) (fun _ k => XS.iloadN X0.here hx rfl (hb hby d14_5) rfl k) ?_
  refine own_g (s₁.setTop (mkF m 16 #[.val (.int p0), .val (.int p1), .val (.ref r2)] [])) (fun _ k => XS.icmpYes X0.here hx rfl (pc0 := 6) (pc' := 16) rfl (hb hby d14_6) rfl (tlt (h1i : p0 < p1)).1 (by decide) (by decide) k) ?_
  refine own_g (s₁.setTop (mkF m 17 #[.val (.int p0), .val (.int p1), .val (.ref r2)] [(.int p0)])) (fun _ k => XS.iloadN X0.here hx rfl (hb hby d14_16) rfl k) ?_
  exact own_retI X0 hx Bd.returns (hb hby d14_17) Bd.notSynchronized (by decide) (by decide) ⟨rfl, N0, e0⟩
theorem d13_0 : decode jdk_42_method_155_code 0 = .ok (.iload_n 0, 1) := by decide +kernel
theorem d13_1 : decode jdk_42_method_155_code 1 = .ok (.iload_n 1, 1) := by decide +kernel
theorem d13_2 : decode jdk_42_method_155_code 2 = .ok (.getstatic 1053, 3) := by decide +kernel
theorem d13_5 : decode jdk_42_method_155_code 5 = .ok (.invokestatic 1059, 3) := by decide +kernel
theorem d13_8 : decode jdk_42_method_155_code 8 = .ok (.pop, 1) := by decide +kernel
theorem d13_9 : decode jdk_42_method_155_code 9 = .ok (.return_, 1) := by decide +kernel
theorem pn13 : plainName "java/lang/String" = true := by first | (simp [plainName, overriddenIn]; done) | decide +kernel
theorem pd8 : parseMethodDescriptor "(IILjava/util/function/BiFunction;)I" = some ⟨[.int, .int, (.object "java/util/function/BiFunction")], some .int⟩ := by decide +kernel
theorem ef_ci (m : MethodId) (p0 : Int32) (p1 : Int32) : entryFrame m #[(.int p0), (.int p1)] 2 = mkF m 0 #[.val (.int p0), .val (.int p1)] [] := by first | (simp [entryFrame, mkF, argsToLocals, Value.category]; done) | rfl
set_option maxRecDepth 65536 in
set_option maxHeartbeats 40000000 in
theorem ci (l : Launch) (Z : State) (a0 : Array Value) (hw : ∀ d ∈ tables_1, d.before a0 Z = true) (ws : List Jvm.Cond) (p0 : Int32) (p1 : Int32) (wF : Value) (h0 : Heap) (n0 : Nat) (Z0 : n0 ≤ h0.size) (S_F : Sta Z h0 "jdk/internal/util/Preconditions" "SIOOBE_FORMATTER" "Ljava/util/function/BiFunction;" wF) (hG : wF.isRef = true) (h0i : ¬ (p0 < (0 : Int32))) (h1i : p0 < p1) :
    MetFree l (⟨"java/lang/String", "checkIndex", "(II)V"⟩ : MethodName) (head1 (Jvm.Cond.code (⟨"java/lang/String", "checkIndex", "(II)V"⟩ : MethodName) jdk_42_method_155_code 2 none :: ws) ({ frames := 1, cells := 0, slots := 0, locals := 14 } : Room)) (fun a U => a = #[(.int p0), (.int p1)] ∧ Z.Warmed39 U.vm ∧ U.heap = h0) (fun _ _ _ _ _ => True) (fun _ U o U' => ∃ v L, o = .returned v ∧ (own_SameV h0 n0) v U'.heap L ∧ FrameEnd U o U' L 0 0) := by
  refine MetFree.of_bodySF (plainFor_of_name pn13) hisR ?_
  intro p e s m args below meth c s₁ Bd hml0 hP hK
  obtain ⟨rfl, hZ, hh⟩ := hP
  have hx := Bd.exec
  have hby := Bd.bytes
  have hml : c.maxLocals = 2 := hml0
  have hown : s.vm.findClass "java/lang/String" = some m.cls := findClass_of_methodNamed Bd.named
  have hnm := (name_of_methodNamed Bd.named Bd.method).1
  have X0 : Stand p l e ({ frames := 1, cells := 0, slots := 0, locals := 14 } : Room) s m #[(.int p0), (.int p1)] below meth c s₁ [] 0 0 := Stand.of_body Bd
  have e0 : s₁.heap = h0 := by rw [← hh, Bd.state]; rfl
  have N0 := Fr.nil n0
  show own_Goes p e below (own_End s (own_SameV h0 n0) 0 0) _
  refine own_g (s₁.setTop (mkF m 0 #[.val (.int p0), .val (.int p1)] [])) (fun t k => castTop (ef_ci m p0 p1) k) ?_
  refine own_g (s₁.setTop (mkF m 1 #[.val (.int p0), .val (.int p1)] [(.int p0)])) (fun _ k => XS.iloadN X0.here hx rfl (hb hby d13_0) rfl k) ?_
  refine own_g (s₁.setTop (mkF m 2 #[.val (.int p0), .val (.int p1)] [(.int p1), (.int p0)])) (fun _ k => XS.iloadN X0.here hx rfl (hb hby d13_1) rfl k) ?_
  obtain ⟨T1, X1, e1, st1⟩ := getS2 X0 hx hZ hown (host := "") (Or.inl (own_w hw 119 rfl)) Via.refl e0 S_F (g := (mkF m 2 #[.val (.int p0), .val (.int p1)] [(.int p1), (.int p0)])) rfl (hb hby d13_2)
  refine own_g (T1.setTop (mkF m 5 #[.val (.int p0), .val (.int p1)] [wF, (.int p1), (.int p0)])) (st1) ?_
  rcases ref_cases hG with rfl | ⟨rf, rfl⟩
  · skip
    obtain ⟨_, _, ⟨T2, L2, k2, n2⟩, -, X2, ⟨Lc2, hQ2, l2, y2, z2⟩, st2⟩ := Jvm.LawKit.callS X1 hx (y := (⟨"jdk/internal/util/Preconditions", "checkIndex", "(IILjava/util/function/BiFunction;)I"⟩ : MethodName)) hown (mvT hZ (own_w hw 121 rfl)) (mvT hZ (own_w hw 122 rfl)) (mvT hZ (own_w hw 120 rfl)) (mvT hZ (own_w hw 123 rfl)) (by decide) (backOf (W := 0) (pi_n l Z a0 hw [] p0 p1 h0 n0 Z0 h0i h1i) hZ (own_w hw 123 rfl) (own_w hw 120 rfl) (by decide) (by decide)) (g := (mkF m 5 #[.val (.int p0), .val (.int p1)] [.null, (.int p1), (.int p0)])) rfl (by rw [hml]; rfl) (argsL := [(.int p0), (.int p1), .null]) (rest := []) (lenOf pd8 rfl) rfl (by show 2 * 0 + _ ≤ _; exact Nat.le_of_eq rfl) (hb hby d13_5) (fun _ _ => ⟨rfl, e1, (by decide : 0 + 0 ≤ _), (by decide : 0 + 0 ≤ _)⟩)
    dsimp only [Pt.U, Pt.locs, Pt.cells, Pt.slots] at X2 l2 y2 z2 st2 hQ2
    subst l2 y2 z2
    obtain ⟨rfl, Nq2, e2⟩ := hQ2
    have N2 := Fr.app N0 Nq2
    refine own_g (T2.setTop (mkF m 8 #[.val (.int p0), .val (.int p1)] [(.int p0)])) (st2) ?_
    refine own_g (T2.setTop (mkF m 9 #[.val (.int p0), .val (.int p1)] [])) (fun _ k => XS.pop X2.here hx rfl (hb hby d13_8) rfl rfl k) ?_
    exact own_retV X2 hx Bd.returns (hb hby d13_9) Bd.notSynchronized (by decide) (by decide) ⟨rfl, N2, e2⟩
  · skip
    obtain ⟨_, _, ⟨T3, L3, k3, n3⟩, -, X3, ⟨Lc3, hQ3, l3, y3, z3⟩, st3⟩ := Jvm.LawKit.callS X1 hx (y := (⟨"jdk/internal/util/Preconditions", "checkIndex", "(IILjava/util/function/BiFunction;)I"⟩ : MethodName)) hown (mvT hZ (own_w hw 121 rfl)) (mvT hZ (own_w hw 122 rfl)) (mvT hZ (own_w hw 120 rfl)) (mvT hZ (own_w hw 123 rfl)) (by decide) (backOf (W := 0) (pi_r l Z a0 hw [] p0 p1 rf h0 n0 Z0 h0i h1i) hZ (own_w hw 123 rfl) (own_w hw 120 rfl) (by decide) (by decide)) (g := (mkF m 5 #[.val (.int p0), .val (.int p1)] [(.ref rf), (.int p1), (.int p0)])) rfl (by rw [hml]; rfl) (argsL := [(.int p0), (.int p1), (.ref rf)]) (rest := []) (lenOf pd8 rfl) rfl (by show 2 * 0 + _ ≤ _; exact Nat.le_of_eq rfl) (hb hby d13_5) (fun _ _ => ⟨rfl, e1, (by decide : 0 + 0 ≤ _), (by decide : 0 + 0 ≤ _)⟩)
    dsimp only [Pt.U, Pt.locs, Pt.cells, Pt.slots] at X3 l3 y3 z3 st3 hQ3
    subst l3 y3 z3
    obtain ⟨rfl, Nq3, e3⟩ := hQ3
    have N3 := Fr.app N0 Nq3
    refine own_g (T3.setTop (mkF m 8 #[.val (.int p0), .val (.int p1)] [(.int p0)])) (st3) ?_
    refine own_g (T3.setTop (mkF m 9 #[.val (.int p0), .val (.int p1)] [])) (fun _ k => XS.pop X3.here hx rfl (hb hby d13_8) rfl rfl k) ?_
    exact own_retV X3 hx Bd.returns (hb hby d13_9) Bd.notSynchronized (by decide) (by decide) ⟨rfl, N3, e3⟩
theorem d12_0 : decode jdk_43_method_2_code 0 = .ok (.iload_n 1, 1) := by decide +kernel
theorem d12_1 : decode jdk_43_method_2_code 1 = .ok (.aload_n 0, 1) := by decide +kernel
theorem d12_2 : decode jdk_43_method_2_code 2 = .ok (.arraylength, 1) := by decide +kernel
theorem d12_3 : decode jdk_43_method_2_code 3 = .ok (.invokestatic 9, 3) := by decide +kernel
theorem d12_6 : decode jdk_43_method_2_code 6 = .ok (.aload_n 0, 1) := by decide +kernel
theorem d12_7 : decode jdk_43_method_2_code 7 = .ok (.iload_n 1, 1) := by decide +kernel
theorem d12_8 : decode jdk_43_method_2_code 8 = .ok (.baload, 1) := by decide +kernel
theorem d12_9 : decode jdk_43_method_2_code 9 = .ok (.sipush 255, 3) := by decide +kernel
theorem d12_12 : decode jdk_43_method_2_code 12 = .ok (.iand, 1) := by decide +kernel
theorem d12_13 : decode jdk_43_method_2_code 13 = .ok (.i2c, 1) := by decide +kernel
theorem d12_14 : decode jdk_43_method_2_code 14 = .ok (.ireturn, 1) := by decide +kernel
theorem pn12 : plainName "java/lang/StringLatin1" = true := by first | (simp [plainName, overriddenIn]; done) | decide +kernel
theorem pd9 : parseMethodDescriptor "(II)V" = some ⟨[.int, .int], none⟩ := by decide +kernel
theorem ef_lc (m : MethodId) (r0 : Addr) (p1 : Int32) : entryFrame m #[(.ref r0), (.int p1)] 2 = mkF m 0 #[.val (.ref r0), .val (.int p1)] [] := by first | (simp [entryFrame, mkF, argsToLocals, Value.category]; done) | rfl
set_option maxRecDepth 65536 in
set_option maxHeartbeats 40000000 in
theorem lc (l : Launch) (Z : State) (a0 : Array Value) (hw : ∀ d ∈ tables_1, d.before a0 Z = true) (ws : List Jvm.Cond) (r0 : Addr) (p1 : Int32) (wF : Value) (cl : Cell) (bv : Int32) (h0 : Heap) (n0 : Nat) (Z0 : n0 ≤ h0.size) (S_F : Sta Z h0 "jdk/internal/util/Preconditions" "SIOOBE_FORMATTER" "Ljava/util/function/BiFunction;" wF) (hG : wF.isRef = true) (h0i : ¬ (p1 < (0 : Int32))) (h1i : p1 < (6 : Int32)) (A_r0 : own_A Z h0 r0 .byte (6 : Int32)) (Ar : Arr Z h0 r0 cl .byte) (hin : ¬ (p1 < 0 ∨ cl.slots.size ≤ p1.toNatClampNeg)) (hat : cl.slots[p1.toNatClampNeg]? = some (.int bv)) :
    MetFree l (⟨"java/lang/StringLatin1", "charAt", "([BI)C"⟩ : MethodName) (head1 (Jvm.Cond.code (⟨"java/lang/StringLatin1", "charAt", "([BI)C"⟩ : MethodName) jdk_43_method_2_code 2 (some .char) :: ws) ({ frames := 2, cells := 0, slots := 0, locals := 27 } : Room)) (fun a U => a = #[(.ref r0), (.int p1)] ∧ Z.Warmed39 U.vm ∧ U.heap = h0) (fun _ _ _ _ _ => True) (fun _ U o U' => ∃ v L, o = .returned v ∧ (own_Same (.int (nar .char ((bv &&& (255 : Int32)).toUInt32.toUInt16.toUInt32.toInt32))) h0 n0) v U'.heap L ∧ FrameEnd U o U' L 0 0) := by
  refine MetFree.of_bodySF (plainFor_of_name pn12) hisR ?_
  intro p e s m args below meth c s₁ Bd hml0 hP hK
  obtain ⟨rfl, hZ, hh⟩ := hP
  have hx := Bd.exec
  have hby := Bd.bytes
  have hml : c.maxLocals = 2 := hml0
  have hown : s.vm.findClass "java/lang/StringLatin1" = some m.cls := findClass_of_methodNamed Bd.named
  have hnm := (name_of_methodNamed Bd.named Bd.method).1
  have X0 : Stand p l e ({ frames := 2, cells := 0, slots := 0, locals := 27 } : Room) s m #[(.ref r0), (.int p1)] below meth c s₁ [] 0 0 := Stand.of_body Bd
  have e0 : s₁.heap = h0 := by rw [← hh, Bd.state]; rfl
  have N0 := Fr.nil n0
  show own_Goes p e below (own_End s (own_Same (.int (nar .char ((bv &&& (255 : Int32)).toUInt32.toUInt16.toUInt32.toInt32))) h0 n0) 0 0) _
  refine own_g (s₁.setTop (mkF m 0 #[.val (.ref r0), .val (.int p1)] [])) (fun t k => castTop (ef_lc m r0 p1) k) ?_
  refine own_g (s₁.setTop (mkF m 1 #[.val (.ref r0), .val (.int p1)] [(.int p1)])) (fun _ k => XS.iloadN X0.here hx rfl (hb hby d12_0) rfl k) ?_
  refine own_g (s₁.setTop (mkF m 2 #[.val (.ref r0), .val (.int p1)] [(.ref r0), (.int p1)])) (fun _ k => XS.aloadN X0.here hx rfl (hb hby d12_1) rfl rfl k) ?_
  obtain ⟨cl1, Ar1, S1, N1_⟩ := id A_r0
  refine own_g (s₁.setTop (mkF m 3 #[.val (.ref r0), .val (.int p1)] [(.int 6), (.int p1)])) (fun t k => X0.arraylength hx (by rw [e0]; exact Ar1.1) (State.isArrayOf_alike hZ.alike Ar1.2.1) (g := (mkF m 2 #[.val (.ref r0), .val (.int p1)] [(.ref r0), (.int p1)])) rfl rfl (hb hby d12_2) t (by rw [len_of S1 N1_]; exact k)) ?_
  obtain ⟨_, _, ⟨T2, L2, k2, n2⟩, -, X2, ⟨Lc2, hQ2, l2, y2, z2⟩, st2⟩ := Jvm.LawKit.callS X0 hx (y := (⟨"java/lang/String", "checkIndex", "(II)V"⟩ : MethodName)) hown (mvT hZ (own_w hw 116 rfl)) (mvT hZ (own_w hw 117 rfl)) (mvT hZ (own_w hw 92 rfl)) (mvT hZ (own_w hw 118 rfl)) (by decide) (backOf (W := 0) (ci l Z a0 hw [] p1 (6 : Int32) wF h0 n0 Z0 S_F hG h0i h1i) hZ (own_w hw 118 rfl) (own_w hw 92 rfl) (by decide) (by decide)) (g := (mkF m 3 #[.val (.ref r0), .val (.int p1)] [(.int 6), (.int p1)])) rfl (by rw [hml]; rfl) (argsL := [(.int p1), (.int 6)]) (rest := []) (lenOf pd9 rfl) rfl (by show 2 * 0 + _ ≤ _; exact Nat.le_of_eq rfl) (hb hby d12_3) (fun _ _ => ⟨rfl, e0, (by decide : 0 + 0 ≤ _), (by decide : 0 + 0 ≤ _)⟩)
  dsimp only [Pt.U, Pt.locs, Pt.cells, Pt.slots] at X2 l2 y2 z2 st2 hQ2
  subst l2 y2 z2
  obtain ⟨rfl, Nq2, e2⟩ := hQ2
  have N2 := Fr.app N0 Nq2
  refine own_g (T2.setTop (mkF m 6 #[.val (.ref r0), .val (.int p1)] [])) (st2) ?_
  refine own_g (T2.setTop (mkF m 7 #[.val (.ref r0), .val (.int p1)] [(.ref r0)])) (fun _ k => XS.aloadN X2.here hx rfl (hb hby d12_6) rfl rfl k) ?_
  refine own_g (T2.setTop (mkF m 8 #[.val (.ref r0), .val (.int p1)] [(.int p1), (.ref r0)])) (fun _ k => XS.iloadN X2.here hx rfl (hb hby d12_7) rfl k) ?_
  refine own_g (T2.setTop (mkF m 9 #[.val (.ref r0), .val (.int p1)] [(.int bv)])) (X2.baloadBytes hx (j := p1) (v := (.int bv)) (by rw [e2]; exact Ar.1) (State.isArrayOf_alike hZ.alike Ar.2.1) Ar.2.2 hin hat (g := (mkF m 8 #[.val (.ref r0), .val (.int p1)] [(.int p1), (.ref r0)])) rfl rfl (hb hby d12_8)) ?_
  refine own_g (T2.setTop (mkF m 12 #[.val (.ref r0), .val (.int p1)] [(.int 255), (.int bv)])) (fun _ k => XS.sipush X2.here hx rfl (hb hby d12_9) k) ?_
  refine own_g (T2.setTop (mkF m 13 #[.val (.ref r0), .val (.int p1)] [(.int (bv &&& (255 : Int32)))])) (fun _ k => XS.iand X2.here hx rfl (hb hby d12_12) rfl k) ?_
  refine own_g (T2.setTop (mkF m 14 #[.val (.ref r0), .val (.int p1)] [(.int ((bv &&& (255 : Int32)).toUInt32.toUInt16.toUInt32.toInt32))])) (fun _ k => XS.i2c X2.here hx rfl (hb hby d12_13) rfl k) ?_
  exact own_retN X2 hx Bd.returns (by simp) (hb hby d12_14) Bd.notSynchronized (by decide) (by decide) ⟨rfl, N2, e2⟩
theorem d11_0 : decode jdk_42_method_154_code 0 = .ok (.getstatic 38, 3) := by decide +kernel
theorem d11_3 : decode jdk_42_method_154_code 3 = .ok (.ifCond .eq 14, 3) := by decide +kernel
theorem d11_6 : decode jdk_42_method_154_code 6 = .ok (.aload_n 0, 1) := by decide +kernel
theorem d11_7 : decode jdk_42_method_154_code 7 = .ok (.getfield 15, 3) := by decide +kernel
theorem d11_10 : decode jdk_42_method_154_code 10 = .ok (.ifCond .ne 7, 3) := by decide +kernel
theorem d11_13 : decode jdk_42_method_154_code 13 = .ok (.iconst 1, 1) := by decide +kernel
theorem d11_14 : decode jdk_42_method_154_code 14 = .ok (.goto 4, 3) := by decide +kernel
theorem d11_18 : decode jdk_42_method_154_code 18 = .ok (.ireturn, 1) := by decide +kernel
theorem pn11 : plainName "java/lang/String" = true := by first | (simp [plainName, overriddenIn]; done) | decide +kernel
theorem ef_l1 (m : MethodId) (r0 : Addr) : entryFrame m #[(.ref r0)] 1 = mkF m 0 #[.val (.ref r0)] [] := by first | (simp [entryFrame, mkF, argsToLocals, Value.category]; done) | rfl
set_option maxRecDepth 65536 in
set_option maxHeartbeats 40000000 in
theorem l1 (l : Launch) (Z : State) (a0 : Array Value) (hw : ∀ d ∈ tables_1, d.before a0 Z = true) (ws : List Jvm.Cond) (r0 : Addr) (wC : Int32) (h0 : Heap) (n0 : Nat) (Z0 : n0 ≤ h0.size) (S_C : Sta Z h0 "java/lang/String" "COMPACT_STRINGS" "Z" (.int wC)) (hC : ¬ (wC = (0 : Int32))) (F_c : Fld Z h0 r0 "java/lang/String" "coder" "B" (.int 0)) :
    MetFree l (⟨"java/lang/String", "isLatin1", "()Z"⟩ : MethodName) (head1 (Jvm.Cond.code (⟨"java/lang/String", "isLatin1", "()Z"⟩ : MethodName) jdk_42_method_154_code 1 (some .boolean) :: ws) ({ frames := 0, cells := 0, slots := 0, locals := 0 } : Room)) (fun a U => a = #[(.ref r0)] ∧ Z.Warmed39 U.vm ∧ U.heap = h0) (fun _ _ _ _ _ => True) (fun _ U o U' => ∃ v L, o = .returned v ∧ (own_Same (.int 1) h0 n0) v U'.heap L ∧ FrameEnd U o U' L 0 0) := by
  refine MetFree.of_bodySF (plainFor_of_name pn11) hisR ?_
  intro p e s m args below meth c s₁ Bd hml0 hP hK
  obtain ⟨rfl, hZ, hh⟩ := hP
  have hx := Bd.exec
  have hby := Bd.bytes
  have hml : c.maxLocals = 1 := hml0
  have hown : s.vm.findClass "java/lang/String" = some m.cls := findClass_of_methodNamed Bd.named
  have hnm := (name_of_methodNamed Bd.named Bd.method).1
  have X0 : Stand p l e ({ frames := 0, cells := 0, slots := 0, locals := 0 } : Room) s m #[(.ref r0)] below meth c s₁ [] 0 0 := Stand.of_body Bd
  have e0 : s₁.heap = h0 := by rw [← hh, Bd.state]; rfl
  have N0 := Fr.nil n0
  show own_Goes p e below (own_End s (own_Same (.int 1) h0 n0) 0 0) _
  refine own_g (s₁.setTop (mkF m 0 #[.val (.ref r0)] [])) (fun t k => castTop (ef_l1 m r0) k) ?_
  obtain ⟨T1, X1, e1, st1⟩ := getS2 X0 hx hZ hown (host := "") (Or.inl (own_w hw 109 rfl)) Via.refl e0 S_C (g := (mkF m 0 #[.val (.ref r0)] [])) rfl (hb hby d11_0)
  refine own_g (T1.setTop (mkF m 3 #[.val (.ref r0)] [(.int wC)])) (st1) ?_
  refine own_g (T1.setTop (mkF m 6 #[.val (.ref r0)] [])) (fun _ k => XS.ifNo X1.here hx rfl (hb hby d11_3) rfl ((if0 _ _).trans (feq (hC : ¬ (wC = (0 : Int32)))).1) k) ?_
  refine own_g (T1.setTop (mkF m 7 #[.val (.ref r0)] [(.ref r0)])) (fun _ k => XS.aloadN X1.here hx rfl (hb hby d11_6) rfl rfl k) ?_
  obtain ⟨T2, X2, e2, st2⟩ := getF X1 hx hZ hown (host := "") (Or.inl (own_w hw 110 rfl)) Via.refl e1 F_c (g := (mkF m 7 #[.val (.ref r0)] [(.ref r0)])) rfl rfl (hb hby d11_7)
  refine own_g (T2.setTop (mkF m 10 #[.val (.ref r0)] [(.int 0)])) (st2) ?_
  refine own_g (T2.setTop (mkF m 13 #[.val (.ref r0)] [])) (fun _ k => XS.ifNo X2.here hx rfl (hb hby d11_10) rfl ((if0 _ _).trans (teq (by decide : (0 : Int32) = (0 : Int32))).2) k) ?_
  refine own_g (T2.setTop (mkF m 14 #[.val (.ref r0)] [(.int 1)])) (fun _ k => XS.iconst X2.here hx rfl (hb hby d11_13) k) ?_
  refine own_g (T2.setTop (mkF m 18 #[.val (.ref r0)] [(.int 1)])) (fun _ k => XS.goto X2.here hx rfl (pc0 := 14) (pc' := 18) rfl (hb hby d11_14) (by decide) (by decide) k) ?_
  exact own_ret1 X2 hx Bd.returns (hb hby d11_18) Bd.notSynchronized (by decide) (by decide) ⟨rfl, N0, e2⟩
theorem d10_0 : decode jdk_42_method_56_code 0 = .ok (.aload_n 0, 1) := by decide +kernel
theorem d10_1 : decode jdk_42_method_56_code 1 = .ok (.invokevirtual 492, 3) := by decide +kernel
theorem d10_4 : decode jdk_42_method_56_code 4 = .ok (.ifCond .eq 12, 3) := by decide +kernel
theorem d10_7 : decode jdk_42_method_56_code 7 = .ok (.aload_n 0, 1) := by decide +kernel
theorem d10_8 : decode jdk_42_method_56_code 8 = .ok (.getfield 9, 3) := by decide +kernel
theorem d10_11 : decode jdk_42_method_56_code 11 = .ok (.iload_n 1, 1) := by decide +kernel
theorem d10_12 : decode jdk_42_method_56_code 12 = .ok (.invokestatic 495, 3) := by decide +kernel
theorem d10_15 : decode jdk_42_method_56_code 15 = .ok (.ireturn, 1) := by decide +kernel
theorem pn10 : plainName "java/lang/String" = true := by first | (simp [plainName, overriddenIn]; done) | decide +kernel
theorem pd10 : parseMethodDescriptor "()Z" = some ⟨[], some .boolean⟩ := by decide +kernel
theorem pd11 : parseMethodDescriptor "([BI)C" = some ⟨[(.array .byte), .int], some .char⟩ := by decide +kernel
theorem ef_ch (m : MethodId) (r0 : Addr) (p1 : Int32) : entryFrame m #[(.ref r0), (.int p1)] 2 = mkF m 0 #[.val (.ref r0), .val (.int p1)] [] := by first | (simp [entryFrame, mkF, argsToLocals, Value.category]; done) | rfl
set_option maxRecDepth 65536 in
set_option maxHeartbeats 40000000 in
theorem ch (l : Launch) (Z : State) (a0 : Array Value) (hw : ∀ d ∈ tables_1, d.before a0 Z = true) (ws : List Jvm.Cond) (r0 : Addr) (p1 : Int32) (wC : Int32) (wF : Value) (vb : Addr) (cl : Cell) (bv : Int32) (h0 : Heap) (n0 : Nat) (Z0 : n0 ≤ h0.size) (S_C : Sta Z h0 "java/lang/String" "COMPACT_STRINGS" "Z" (.int wC)) (hC : ¬ (wC = (0 : Int32))) (S_F : Sta Z h0 "jdk/internal/util/Preconditions" "SIOOBE_FORMATTER" "Ljava/util/function/BiFunction;" wF) (hG : wF.isRef = true) (E_r0 : Exa Z h0 r0 "java/lang/String") (F_c : Fld Z h0 r0 "java/lang/String" "coder" "B" (.int 0)) (F_v : Fld Z h0 r0 "java/lang/String" "value" "[B" (.ref vb)) (h0i : ¬ (p1 < (0 : Int32))) (h1i : p1 < (6 : Int32)) (A_b : own_A Z h0 vb .byte (6 : Int32)) (Ar : Arr Z h0 vb cl .byte) (hin : ¬ (p1 < 0 ∨ cl.slots.size ≤ p1.toNatClampNeg)) (hat : cl.slots[p1.toNatClampNeg]? = some (.int bv)) :
    MetFree l (⟨"java/lang/String", "charAt", "(I)C"⟩ : MethodName) (head1 (Jvm.Cond.code (⟨"java/lang/String", "charAt", "(I)C"⟩ : MethodName) jdk_42_method_56_code 2 (some .char) :: ws) ({ frames := 3, cells := 0, slots := 0, locals := 40 } : Room)) (fun a U => a = #[(.ref r0), (.int p1)] ∧ Z.Warmed39 U.vm ∧ U.heap = h0) (fun _ _ _ _ _ => True) (fun _ U o U' => ∃ v L, o = .returned v ∧ (own_Same (.int (nar .char (nar .char ((bv &&& (255 : Int32)).toUInt32.toUInt16.toUInt32.toInt32)))) h0 n0) v U'.heap L ∧ FrameEnd U o U' L 0 0) := by
  refine MetFree.of_bodySF (plainFor_of_name pn10) hisR ?_
  intro p e s m args below meth c s₁ Bd hml0 hP hK
  obtain ⟨rfl, hZ, hh⟩ := hP
  have hx := Bd.exec
  have hby := Bd.bytes
  have hml : c.maxLocals = 2 := hml0
  have hown : s.vm.findClass "java/lang/String" = some m.cls := findClass_of_methodNamed Bd.named
  have hnm := (name_of_methodNamed Bd.named Bd.method).1
  have X0 : Stand p l e ({ frames := 3, cells := 0, slots := 0, locals := 40 } : Room) s m #[(.ref r0), (.int p1)] below meth c s₁ [] 0 0 := Stand.of_body Bd
  have e0 : s₁.heap = h0 := by rw [← hh, Bd.state]; rfl
  have N0 := Fr.nil n0
  show own_Goes p e below (own_End s (own_Same (.int (nar .char (nar .char ((bv &&& (255 : Int32)).toUInt32.toUInt16.toUInt32.toInt32)))) h0 n0) 0 0) _
  refine own_g (s₁.setTop (mkF m 0 #[.val (.ref r0), .val (.int p1)] [])) (fun t k => castTop (ef_ch m r0 p1) k) ?_
  refine own_g (s₁.setTop (mkF m 1 #[.val (.ref r0), .val (.int p1)] [(.ref r0)])) (fun _ k => XS.aloadN X0.here hx rfl (hb hby d10_0) rfl rfl k) ?_
  obtain ⟨cq1, kq1, qk1a, qk1b, qk1c⟩ := isOf hZ e0 E_r0
  obtain ⟨_, _, ⟨T1, L1, k1, n1⟩, -, X1, ⟨Lc1, hQ1, l1, y1, z1⟩, st1⟩ := X0.virtualBack hx (y := (⟨"java/lang/String", "isLatin1", "()Z"⟩ : MethodName)) (z := (⟨"java/lang/String", "isLatin1", "()Z"⟩ : MethodName)) hown (mvT hZ (own_w hw 104 rfl)) (mvT hZ (own_w hw 105 rfl)) (notFace_of_selects (args := #[]) (mvT hZ (own_w hw 107 rfl))) (mvT hZ (own_w hw 107 rfl)) (mvT hZ (own_w hw 106 rfl)) (by decide) (backOf (W := 0) (l1 l Z a0 hw [] r0 wC h0 n0 Z0 S_C hC F_c) hZ (own_w hw 108 rfl) (own_w hw 92 rfl) (by decide) (by decide)) qk1a qk1c (g := (mkF m 1 #[.val (.ref r0), .val (.int p1)] [(.ref r0)])) rfl (by rw [hml]; rfl) (Steps.refl _) (argsL := []) (rest := []) (lenOf pd10 rfl) rfl (by show 2 * 0 + _ ≤ _; exact Nat.le_of_eq rfl) (hb hby d10_1) (fun _ _ => ⟨rfl, e0, (by decide : 0 + 0 ≤ _), (by decide : 0 + 0 ≤ _)⟩)
  dsimp only [Pt.U, Pt.locs, Pt.cells, Pt.slots] at X1 l1 y1 z1 st1 hQ1
  subst l1 y1 z1
  obtain ⟨rfl, Nq1, e1⟩ := hQ1
  have N1 := Fr.app N0 Nq1
  refine own_g (T1.setTop (mkF m 4 #[.val (.ref r0), .val (.int p1)] [(.int 1)])) (fun _ k => st1.trans k) ?_
  refine own_g (T1.setTop (mkF m 7 #[.val (.ref r0), .val (.int p1)] [])) (fun _ k => XS.ifNo X1.here hx rfl (hb hby d10_4) rfl ((if0 _ _).trans (feq (by decide : ¬ ((1 : Int32) = (0 : Int32)))).1) k) ?_
  refine own_g (T1.setTop (mkF m 8 #[.val (.ref r0), .val (.int p1)] [(.ref r0)])) (fun _ k => XS.aloadN X1.here hx rfl (hb hby d10_7) rfl rfl k) ?_
  obtain ⟨T2, X2, e2, st2⟩ := getF X1 hx hZ hown (host := "") (Or.inl (own_w hw 111 rfl)) Via.refl e1 F_v (g := (mkF m 8 #[.val (.ref r0), .val (.int p1)] [(.ref r0)])) rfl rfl (hb hby d10_8)
  refine own_g (T2.setTop (mkF m 11 #[.val (.ref r0), .val (.int p1)] [(.ref vb)])) (st2) ?_
  refine own_g (T2.setTop (mkF m 12 #[.val (.ref r0), .val (.int p1)] [(.int p1), (.ref vb)])) (fun _ k => XS.iloadN X2.here hx rfl (hb hby d10_11) rfl k) ?_
  obtain ⟨_, _, ⟨T3, L3, k3, n3⟩, -, X3, ⟨Lc3, hQ3, l3, y3, z3⟩, st3⟩ := Jvm.LawKit.callS X2 hx (y := (⟨"java/lang/StringLatin1", "charAt", "([BI)C"⟩ : MethodName)) hown (mvT hZ (own_w hw 112 rfl)) (mvT hZ (own_w hw 113 rfl)) (mvT hZ (own_w hw 114 rfl)) (mvT hZ (own_w hw 115 rfl)) (by decide) (backOf (W := 0) (lc l Z a0 hw [] vb p1 wF cl bv h0 n0 Z0 S_F hG h0i h1i A_b Ar hin hat) hZ (own_w hw 115 rfl) (own_w hw 114 rfl) (by decide) (by decide)) (g := (mkF m 12 #[.val (.ref r0), .val (.int p1)] [(.int p1), (.ref vb)])) rfl (by rw [hml]; rfl) (argsL := [(.ref vb), (.int p1)]) (rest := []) (lenOf pd11 rfl) rfl (by show 2 * 0 + _ ≤ _; exact Nat.le_of_eq rfl) (hb hby d10_12) (fun _ _ => ⟨rfl, e2, (by decide : 0 + 0 ≤ _), (by decide : 0 + 0 ≤ _)⟩)
  dsimp only [Pt.U, Pt.locs, Pt.cells, Pt.slots] at X3 l3 y3 z3 st3 hQ3
  subst l3 y3 z3
  obtain ⟨rfl, Nq3, e3⟩ := hQ3
  have N3 := Fr.app N1 Nq3
  refine own_g (T3.setTop (mkF m 15 #[.val (.ref r0), .val (.int p1)] [(.int (nar .char ((bv &&& (255 : Int32)).toUInt32.toUInt16.toUInt32.toInt32)))])) (st3) ?_
  exact own_retN X3 hx Bd.returns (by simp) (hb hby d10_15) Bd.notSynchronized (by decide) (by decide) ⟨rfl, N3, e3⟩
theorem d16_0 : decode jdk_42_method_152_code 0 = .ok (.getstatic 38, 3) := by decide +kernel
theorem d16_3 : decode jdk_42_method_152_code 3 = .ok (.ifCond .eq 10, 3) := by decide +kernel
theorem d16_6 : decode jdk_42_method_152_code 6 = .ok (.aload_n 0, 1) := by decide +kernel
theorem d16_7 : decode jdk_42_method_152_code 7 = .ok (.getfield 15, 3) := by decide +kernel
theorem d16_10 : decode jdk_42_method_152_code 10 = .ok (.goto 4, 3) := by decide +kernel
theorem d16_14 : decode jdk_42_method_152_code 14 = .ok (.ireturn, 1) := by decide +kernel
theorem pn16 : plainName "java/lang/String" = true := by first | (simp [plainName, overriddenIn]; done) | decide +kernel
theorem ef_cod (m : MethodId) (r0 : Addr) : entryFrame m #[(.ref r0)] 1 = mkF m 0 #[.val (.ref r0)] [] := by first | (simp [entryFrame, mkF, argsToLocals, Value.category]; done) | rfl
set_option maxRecDepth 65536 in
set_option maxHeartbeats 40000000 in
theorem cod (l : Launch) (Z : State) (a0 : Array Value) (hw : ∀ d ∈ tables_1, d.before a0 Z = true) (ws : List Jvm.Cond) (r0 : Addr) (wC : Int32) (h0 : Heap) (n0 : Nat) (Z0 : n0 ≤ h0.size) (S_C : Sta Z h0 "java/lang/String" "COMPACT_STRINGS" "Z" (.int wC)) (hC : ¬ (wC = (0 : Int32))) (F_c : Fld Z h0 r0 "java/lang/String" "coder" "B" (.int 0)) :
    MetFree l (⟨"java/lang/String", "coder", "()B"⟩ : MethodName) (head1 (Jvm.Cond.code (⟨"java/lang/String", "coder", "()B"⟩ : MethodName) jdk_42_method_152_code 1 (some .byte) :: ws) ({ frames := 0, cells := 0, slots := 0, locals := 0 } : Room)) (fun a U => a = #[(.ref r0)] ∧ Z.Warmed39 U.vm ∧ U.heap = h0) (fun _ _ _ _ _ => True) (fun _ U o U' => ∃ v L, o = .returned v ∧ (own_Same (.int 0) h0 n0) v U'.heap L ∧ FrameEnd U o U' L 0 0) := by
  refine MetFree.of_bodySF (plainFor_of_name pn16) hisR ?_
  intro p e s m args below meth c s₁ Bd hml0 hP hK
  obtain ⟨rfl, hZ, hh⟩ := hP
  have hx := Bd.exec
  have hby := Bd.bytes
  have hml : c.maxLocals = 1 := hml0
  have hown : s.vm.findClass "java/lang/String" = some m.cls := findClass_of_methodNamed Bd.named
  have hnm := (name_of_methodNamed Bd.named Bd.method).1
  have X0 : Stand p l e ({ frames := 0, cells := 0, slots := 0, locals := 0 } : Room) s m #[(.ref r0)] below meth c s₁ [] 0 0 := Stand.of_body Bd
  have e0 : s₁.heap = h0 := by rw [← hh, Bd.state]; rfl
  have N0 := Fr.nil n0
  show own_Goes p e below (own_End s (own_Same (.int 0) h0 n0) 0 0) _
  refine own_g (s₁.setTop (mkF m 0 #[.val (.ref r0)] [])) (fun t k => castTop (ef_cod m r0) k) ?_
  obtain ⟨T1, X1, e1, st1⟩ := getS2 X0 hx hZ hown (host := "") (Or.inl (own_w hw 109 rfl)) Via.refl e0 S_C (g := (mkF m 0 #[.val (.ref r0)] [])) rfl (hb hby d16_0)
  refine own_g (T1.setTop (mkF m 3 #[.val (.ref r0)] [(.int wC)])) (st1) ?_
  refine own_g (T1.setTop (mkF m 6 #[.val (.ref r0)] [])) (fun _ k => XS.ifNo X1.here hx rfl (hb hby d16_3) rfl ((if0 _ _).trans (feq (hC : ¬ (wC = (0 : Int32)))).1) k) ?_
  refine own_g (T1.setTop (mkF m 7 #[.val (.ref r0)] [(.ref r0)])) (fun _ k => XS.aloadN X1.here hx rfl (hb hby d16_6) rfl rfl k) ?_
  obtain ⟨T2, X2, e2, st2⟩ := getF X1 hx hZ hown (host := "") (Or.inl (own_w hw 110 rfl)) Via.refl e1 F_c (g := (mkF m 7 #[.val (.ref r0)] [(.ref r0)])) rfl rfl (hb hby d16_7)
  refine own_g (T2.setTop (mkF m 10 #[.val (.ref r0)] [(.int 0)])) (st2) ?_
  refine own_g (T2.setTop (mkF m 14 #[.val (.ref r0)] [(.int 0)])) (fun _ k => XS.goto X2.here hx rfl (pc0 := 10) (pc' := 14) rfl (hb hby d16_10) (by decide) (by decide) k) ?_
  exact own_retN X2 hx Bd.returns (by simp) (hb hby d16_14) Bd.notSynchronized (by decide) (by decide) ⟨congrArg (fun z => some (Value.int z)) (by decide), N0, e2⟩
theorem d15_0 : decode jdk_42_method_54_code 0 = .ok (.aload_n 0, 1) := by decide +kernel
theorem d15_1 : decode jdk_42_method_54_code 1 = .ok (.getfield 9, 3) := by decide +kernel
theorem d15_4 : decode jdk_42_method_54_code 4 = .ok (.arraylength, 1) := by decide +kernel
theorem d15_5 : decode jdk_42_method_54_code 5 = .ok (.aload_n 0, 1) := by decide +kernel
theorem d15_6 : decode jdk_42_method_54_code 6 = .ok (.invokevirtual 335, 3) := by decide +kernel
theorem d15_9 : decode jdk_42_method_54_code 9 = .ok (.ishr, 1) := by decide +kernel
theorem d15_10 : decode jdk_42_method_54_code 10 = .ok (.ireturn, 1) := by decide +kernel
theorem pn15 : plainName "java/lang/String" = true := by first | (simp [plainName, overriddenIn]; done) | decide +kernel
theorem pd12 : parseMethodDescriptor "()B" = some ⟨[], some .byte⟩ := by decide +kernel
theorem ef_len (m : MethodId) (r0 : Addr) : entryFrame m #[(.ref r0)] 1 = mkF m 0 #[.val (.ref r0)] [] := by first | (simp [entryFrame, mkF, argsToLocals, Value.category]; done) | rfl
set_option maxRecDepth 65536 in
set_option maxHeartbeats 40000000 in
theorem len (l : Launch) (Z : State) (a0 : Array Value) (hw : ∀ d ∈ tables_1, d.before a0 Z = true) (ws : List Jvm.Cond) (r0 : Addr) (wC : Int32) (vb : Addr) (h0 : Heap) (n0 : Nat) (Z0 : n0 ≤ h0.size) (S_C : Sta Z h0 "java/lang/String" "COMPACT_STRINGS" "Z" (.int wC)) (hC : ¬ (wC = (0 : Int32))) (E_r0 : Exa Z h0 r0 "java/lang/String") (F_c : Fld Z h0 r0 "java/lang/String" "coder" "B" (.int 0)) (F_v : Fld Z h0 r0 "java/lang/String" "value" "[B" (.ref vb)) (A_b : own_A Z h0 vb .byte (6 : Int32)) :
    MetFree l (⟨"java/lang/String", "length", "()I"⟩ : MethodName) (head1 (Jvm.Cond.code (⟨"java/lang/String", "length", "()I"⟩ : MethodName) jdk_42_method_54_code 1 (some .int) :: ws) ({ frames := 1, cells := 0, slots := 0, locals := 13 } : Room)) (fun a U => a = #[(.ref r0)] ∧ Z.Warmed39 U.vm ∧ U.heap = h0) (fun _ _ _ _ _ => True) (fun _ U o U' => ∃ v L, o = .returned v ∧ (own_Same (.int 6) h0 n0) v U'.heap L ∧ FrameEnd U o U' L 0 0) := by
  refine MetFree.of_bodySF (plainFor_of_name pn15) hisR ?_
  intro p e s m args below meth c s₁ Bd hml0 hP hK
  obtain ⟨rfl, hZ, hh⟩ := hP
  have hx := Bd.exec
  have hby := Bd.bytes
  have hml : c.maxLocals = 1 := hml0
  have hown : s.vm.findClass "java/lang/String" = some m.cls := findClass_of_methodNamed Bd.named
  have hnm := (name_of_methodNamed Bd.named Bd.method).1
  have X0 : Stand p l e ({ frames := 1, cells := 0, slots := 0, locals := 13 } : Room) s m #[(.ref r0)] below meth c s₁ [] 0 0 := Stand.of_body Bd
  have e0 : s₁.heap = h0 := by rw [← hh, Bd.state]; rfl
  have N0 := Fr.nil n0
  show own_Goes p e below (own_End s (own_Same (.int 6) h0 n0) 0 0) _
  refine own_g (s₁.setTop (mkF m 0 #[.val (.ref r0)] [])) (fun t k => castTop (ef_len m r0) k) ?_
  refine own_g (s₁.setTop (mkF m 1 #[.val (.ref r0)] [(.ref r0)])) (fun _ k => XS.aloadN X0.here hx rfl (hb hby d15_0) rfl rfl k) ?_
  obtain ⟨T1, X1, e1, st1⟩ := getF X0 hx hZ hown (host := "") (Or.inl (own_w hw 111 rfl)) Via.refl e0 F_v (g := (mkF m 1 #[.val (.ref r0)] [(.ref r0)])) rfl rfl (hb hby d15_1)
  refine own_g (T1.setTop (mkF m 4 #[.val (.ref r0)] [(.ref vb)])) (st1) ?_
  obtain ⟨cl2, Ar2, S2, N2_⟩ := id A_b
  refine own_g (T1.setTop (mkF m 5 #[.val (.ref r0)] [(.int 6)])) (fun t k => X1.arraylength hx (by rw [e1]; exact Ar2.1) (State.isArrayOf_alike hZ.alike Ar2.2.1) (g := (mkF m 4 #[.val (.ref r0)] [(.ref vb)])) rfl rfl (hb hby d15_4) t (by rw [len_of S2 N2_]; exact k)) ?_
  refine own_g (T1.setTop (mkF m 6 #[.val (.ref r0)] [(.ref r0), (.int 6)])) (fun _ k => XS.aloadN X1.here hx rfl (hb hby d15_5) rfl rfl k) ?_
  obtain ⟨cq3, kq3, qk3a, qk3b, qk3c⟩ := isOf hZ e1 E_r0
  obtain ⟨_, _, ⟨T3, L3, k3, n3⟩, -, X3, ⟨Lc3, hQ3, l3, y3, z3⟩, st3⟩ := X1.virtualBack hx (y := (⟨"java/lang/String", "coder", "()B"⟩ : MethodName)) (z := (⟨"java/lang/String", "coder", "()B"⟩ : MethodName)) hown (mvT hZ (own_w hw 129 rfl)) (mvT hZ (own_w hw 130 rfl)) (notFace_of_selects (args := #[]) (mvT hZ (own_w hw 132 rfl))) (mvT hZ (own_w hw 132 rfl)) (mvT hZ (own_w hw 131 rfl)) (by decide) (backOf (W := 1) (cod l Z a0 hw [] r0 wC h0 n0 Z0 S_C hC F_c) hZ (own_w hw 133 rfl) (own_w hw 92 rfl) (by decide) (by decide)) qk3a qk3c (g := (mkF m 6 #[.val (.ref r0)] [(.ref r0), (.int 6)])) rfl (by rw [hml]; rfl) (Steps.refl _) (argsL := []) (rest := [(.int 6)]) (lenOf pd12 rfl) rfl (by show 2 * 0 + _ ≤ _; exact Nat.le_of_eq rfl) (hb hby d15_6) (fun _ _ => ⟨rfl, e1, (by decide : 0 + 0 ≤ _), (by decide : 0 + 0 ≤ _)⟩)
  dsimp only [Pt.U, Pt.locs, Pt.cells, Pt.slots] at X3 l3 y3 z3 st3 hQ3
  subst l3 y3 z3
  obtain ⟨rfl, Nq3, e3⟩ := hQ3
  have N3 := Fr.app N0 Nq3
  refine own_g (T3.setTop (mkF m 9 #[.val (.ref r0)] [(.int 0), (.int 6)])) (fun _ k => st3.trans k) ?_
  refine own_g (T3.setTop (mkF m 10 #[.val (.ref r0)] [(.int ((6 : Int32) >>> ((0 : Int32) &&& 31)))])) (fun _ k => XS.ishr X3.here hx rfl (hb hby d15_9) rfl k) ?_
  exact own_retI X3 hx Bd.returns (hb hby d15_10) Bd.notSynchronized (by decide) (by decide) ⟨congrArg (fun z => some (Value.int z)) (by decide), N3, e3⟩
theorem own_safe1 {Z : State} {EL : List (String × Nat)} {vm : Vm} {h : Heap} {g : Addr} (hal : Z.vm.Alike vm) (E : Exa Z h g "com/example/corridor/corridor/iso20022/MarkupScanner") : ∀ x ∈ [g], Safe Z EL vm h x := fun x hx => by
  rw [List.mem_singleton.mp hx]
  exact Safe.exa hal E (by decide) (by decide)
def own_EL : List (String × Nat) := [("com/example/corridor/corridor/iso20022/MarkupScanner", 218)]
theorem d8_126 : decode prog_34_method_24_code 126 = .ok (.iload_n 2, 1) := by decide +kernel
theorem d8_127 : decode prog_34_method_24_code 127 = .ok (.ldc 218, 2) := by decide +kernel
theorem d8_129 : decode prog_34_method_24_code 129 = .ok (.aload_n 0, 1) := by decide +kernel
theorem d8_130 : decode prog_34_method_24_code 130 = .ok (.getfield 205, 3) := by decide +kernel
theorem d8_133 : decode prog_34_method_24_code 133 = .ok (.invokevirtual 220, 3) := by decide +kernel
theorem d8_136 : decode prog_34_method_24_code 136 = .ok (.if_icmp .eq 11, 3) := by decide +kernel
theorem d8_147 : decode prog_34_method_24_code 147 = .ok (.aload_n 0, 1) := by decide +kernel
theorem d8_148 : decode prog_34_method_24_code 148 = .ok (.dup, 1) := by decide +kernel
theorem d8_149 : decode prog_34_method_24_code 149 = .ok (.getfield 205, 3) := by decide +kernel
theorem d8_152 : decode prog_34_method_24_code 152 = .ok (.iconst 1, 1) := by decide +kernel
theorem d8_153 : decode prog_34_method_24_code 153 = .ok (.iadd, 1) := by decide +kernel
theorem d8_154 : decode prog_34_method_24_code 154 = .ok (.dup_x1, 1) := by decide +kernel
theorem d8_155 : decode prog_34_method_24_code 155 = .ok (.putfield 205, 3) := by decide +kernel
theorem d8_158 : decode prog_34_method_24_code 158 = .ok (.ldc 218, 2) := by decide +kernel
theorem d8_160 : decode prog_34_method_24_code 160 = .ok (.invokevirtual 225, 3) := by decide +kernel
theorem d8_163 : decode prog_34_method_24_code 163 = .ok (.if_icmp .ne 94, 3) := by decide +kernel
theorem ef_oth3 (m : MethodId) (r0 : Addr) : entryFrame m #[(.ref r0), (.int 3)] 3 = mkF m 0 #[.val (.ref r0), .val (.int 3), .unset] [] := by first | (simp [entryFrame, mkF, argsToLocals, Value.category]; done) | rfl
set_option maxRecDepth 65536 in
set_option maxHeartbeats 40000000 in
theorem oth3 (l : Launch) (Z : State) (a0 : Array Value) (hw : ∀ d ∈ tables_1, d.before a0 Z = true) (ws : List Jvm.Cond) (r0 : Addr) (u : Addr) (ku : ClassId) (cu : Int32) (en : Addr) (EC : String) (w : Int32) (sa : Nat → Addr) (wC : Int32) (wF : Value) (x1 : Value) (x2 : Value) (x3 : Value) (x4 : Value) (x6 : Value) (x7 : Value) (x8 : Value) (x9 : Value) (x10 : Value) (x11 : Value) (x12 : Value) (x14 : Value) (x15 : Value) (x16 : Value) (x17 : Value) (x18 : Value) (x19 : Value) (x20 : Value) (x21 : Value) (x22 : Value) (h0 : Heap) (n0 : Nat) (Z0 : n0 ≤ h0.size) (I : own_I Z h0 r0 u ku cu en EC w sa) (G : own_G Z h0 r0 [(.ref (sa 5)), x1, x2, x3, x4, (.ref u), x6, x7, x8, x9, x10, x11, x12, (.int 0), x14, x15, x16, x17, x18, x19, x20, x21, x22]) (gn_r0 : n0 ≤ r0) (hEL : EW Z a0 own_EL) (hStr : ∀ a ∈ Bundle.stringAtoms, a.before a0 Z = true) (S_C : Sta Z h0 "java/lang/String" "COMPACT_STRINGS" "Z" (.int wC)) (hC : ¬ (wC = (0 : Int32))) (S_F : Sta Z h0 "jdk/internal/util/Preconditions" "SIOOBE_FORMATTER" "Ljava/util/function/BiFunction;" wF) (hG : wF.isRef = true) :
    MetFree l (⟨"com/example/corridor/corridor/iso20022/MarkupScanner", "other", "(I)I"⟩ : MethodName) (head1 (Jvm.Cond.code (⟨"com/example/corridor/corridor/iso20022/MarkupScanner", "other", "(I)I"⟩ : MethodName) prog_34_method_24_code 3 (some .int) :: ws) ({ frames := 4, cells := 2, slots := 28, locals := 54 } : Room)) (fun a U => a = #[(.ref r0), (.int 3)] ∧ Z.Warmed39 U.vm ∧ U.heap = h0 ∧ CHv Z own_EL U.vm h0) (fun _ _ _ _ _ => True) (fun _ U o U' => ∃ v L, o = .returned v ∧ (own_QG Z r0 n0 h0 (some (.int 4)) [(.ref (sa 5)), x1, x2, x3, x4, (.ref u), x6, x7, x8, x9, x10, x11, x12, (.int 1), x14, x15, x16, x17, x18, x19, x20, x21, x22]) v U'.heap L ∧ CHr Z own_EL U.vm U.heap U'.vm U'.heap ∧ ReturnedEndW U o U' L 2 28) := by
  refine MetFree.of_bodySF (plainFor_of_name pn8) hisR ?_
  intro p e s m args below meth c s₁ Bd hml0 hP hK
  obtain ⟨rfl, hZ, hh, hCH⟩ := hP
  have hx := Bd.exec
  have hby := Bd.bytes
  have hml : c.maxLocals = 3 := hml0
  have hown : s.vm.findClass "com/example/corridor/corridor/iso20022/MarkupScanner" = some m.cls := findClass_of_methodNamed Bd.named
  have hnm := (name_of_methodNamed Bd.named Bd.method).1
  have X0 : Stand p l e ({ frames := 4, cells := 2, slots := 28, locals := 54 } : Room) (s.setVm s.vm) m #[(.ref r0), (.int 3)] below meth c s₁ [] 0 0 := Stand.of_body Bd
  have e0 : s₁.heap = h0 := by rw [← hh, Bd.state]; rfl
  have N0 := Fr.nil n0
  have hS0 : s.Since s.vm 0 := (State.WarmedH.refl s).since 0
  have hC0 : CHr Z own_EL s.vm s.heap s.vm h0 := by rw [hh]; exact CHr.refl hCH
  have K0 : Keep h0 h0 [r0] := Keep.refl h0 [r0]
  show own_Goes p e below (own_EndW s Z own_EL (own_QG Z r0 n0 h0 (some (.int 4)) [(.ref (sa 5)), x1, x2, x3, x4, (.ref u), x6, x7, x8, x9, x10, x11, x12, (.int 1), x14, x15, x16, x17, x18, x19, x20, x21, x22]) 2 28) _
  refine own_g (s₁.setTop (mkF m 0 #[.val (.ref r0), .val (.int 3), .unset] [])) (fun t k => castTop (ef_oth3 m r0) k) ?_
  refine own_g (s₁.setTop (mkF m 1 #[.val (.ref r0), .val (.int 3), .unset] [(.ref r0)])) (fun _ k => XS.aloadN X0.here hx rfl (hb hby d8_0) rfl rfl k) ?_
  obtain ⟨T1, X1, e1, st1⟩ := getF X0 hx hZ hown (host := "") (Or.inl (own_w hw 32 rfl)) Via.refl e0 (own_Gf G 5 rfl rfl) (g := (mkF m 1 #[.val (.ref r0), .val (.int 3), .unset] [(.ref r0)])) rfl rfl (hb hby d8_1)
  refine own_g (T1.setTop (mkF m 4 #[.val (.ref r0), .val (.int 3), .unset] [(.ref u)])) (st1) ?_
  refine own_g (T1.setTop (mkF m 5 #[.val (.ref r0), .val (.int 3), .unset] [(.int 3), (.ref u)])) (fun _ k => XS.iloadN X1.here hx rfl (hb hby d8_4) rfl k) ?_
  obtain ⟨cl2, Ar2, hin2, hat2⟩ := own_I.at I (3 : Int32) (by decide) (by decide)
  refine own_g (T1.setTop (mkF m 6 #[.val (.ref r0), .val (.int 3), .unset] [(.int 67)])) (X1.caload hx (j := (3 : Int32)) (v := (.int 67)) (by rw [e1]; exact Ar2.1) (State.isArrayOf_alike hZ.alike Ar2.2.1) Ar2.2.2 hin2 hat2 (g := (mkF m 5 #[.val (.ref r0), .val (.int 3), .unset] [(.int 3), (.ref u)])) rfl rfl (hb hby d8_5)) ?_
  refine own_g (T1.setTop (mkF m 7 #[.val (.ref r0), .val (.int 3), .val (.int 67)] [])) (fun _ k => XS.istoreN X1.here hx rfl (hb hby d8_6) rfl (l' := #[.val (.ref r0), .val (.int 3), .val (.int 67)]) rfl k) ?_
  refine own_g (T1.setTop (mkF m 8 #[.val (.ref r0), .val (.int 3), .val (.int 67)] [(.ref r0)])) (fun _ k => XS.aloadN X1.here hx rfl (hb hby d8_7) rfl rfl k) ?_
  obtain ⟨T3, X3, e3, st3⟩ := getF X1 hx hZ hown (host := "") (Or.inl (own_w hw 17 rfl)) Via.refl e1 (own_Gf G 0 rfl rfl) (g := (mkF m 8 #[.val (.ref r0), .val (.int 3), .val (.int 67)] [(.ref r0)])) rfl rfl (hb hby d8_8)
  refine own_g (T3.setTop (mkF m 11 #[.val (.ref r0), .val (.int 3), .val (.int 67)] [(.ref (sa 5))])) (st3) ?_
  obtain ⟨cq4, kq4, qk4a, qk4b, qk4c⟩ := isOf hZ e3 (show Exa Z h0 (sa 5) "com/example/corridor/corridor/iso20022/MarkupScanner$State" from (I.1 4 _ rfl).2.1)
  obtain ⟨_, _, ⟨T4, L4, k4, n4⟩, -, X4, ⟨Lc4, hQ4, l4, y4, z4⟩, st4⟩ := X3.virtualBackUp hx (x := (⟨"com/example/corridor/corridor/iso20022/MarkupScanner$State", "ordinal", "()I"⟩ : MethodName)) (y := (⟨"java/lang/Enum", "ordinal", "()I"⟩ : MethodName)) (owner := "java/lang/Enum") hown (mvT hZ (own_w hw 56 rfl)) (mvT hZ (own_w hw 57 rfl)) (mvT hZ (own_w hw 58 rfl)) (by decide) (mvT hZ (own_w hw 60 rfl)) (mvT hZ (own_w hw 59 rfl)) (backOf (W := 0) (ord l Z a0 hw [] (sa 5) (5 : Int32) h0 n0 Z0 (show Fld Z h0 (sa 5) "java/lang/Enum" "ordinal" "I" (.int 5) from (I.1 4 _ rfl).2.2.1)) hZ (own_w hw 62 rfl) (own_w hw 61 rfl) (by decide) (by decide)) qk4a qk4c (g := (mkF m 11 #[.val (.ref r0), .val (.int 3), .val (.int 67)] [(.ref (sa 5))])) rfl (by rw [hml]; rfl) (Steps.refl _) (argsL := []) (rest := []) (lenOf pd4 rfl) rfl (by show 2 * 0 + _ ≤ _; exact Nat.le_of_eq rfl) (hb hby d8_11) (fun _ _ => ⟨rfl, e3, (by decide : 0 + 0 ≤ _), (by decide : 0 + 0 ≤ _)⟩)
  dsimp only [Pt.U, Pt.locs, Pt.cells, Pt.slots] at X4 l4 y4 z4 st4 hQ4
  subst l4 y4 z4
  obtain ⟨rfl, Nq4, e4⟩ := hQ4
  have N4 := Fr.app N0 Nq4
  refine own_g (T4.setTop (mkF m 14 #[.val (.ref r0), .val (.int 3), .val (.int 67)] [(.int 5)])) (fun _ k => st4.trans k) ?_
  refine own_g (T4.setTop (mkF m 126 #[.val (.ref r0), .val (.int 3), .val (.int 67)] [])) (fun _ k => XS.tswIn X4.here hx rfl (pc0 := 14) (pc' := 126) (o := 112) rfl (hb hby d8_14) rfl (by decide) rfl (by decide) (by decide) k) ?_
  refine own_g (T4.setTop (mkF m 127 #[.val (.ref r0), .val (.int 3), .val (.int 67)] [(.int 67)])) (fun _ k => XS.iloadN X4.here hx rfl (hb hby d8_126) rfl k) ?_
  obtain ⟨a5, T5, h5, k1_5, b5, k5, X5, e5, E5, hS5, hk5, hZ, hown, Ea5, Fc5, Fv5, Va5, la5, lb5, hC5, hL5, hSf5, st5⟩ := ldcCH (s := s) (vm0 := s.vm) X4 hx hZ hown (own_w hw 91 rfl) hStr e4 hS0 (Nat.zero_le _) hEL (by simp [own_EL]) hC0.1 (vs := [(.int 67), (.int 68), (.int 65), (.int 84), (.int 65), (.int 91)]) (z := (6 : Int32)) ⟨by decide, by decide⟩ (by decide) rfl (g := (mkF m 127 #[.val (.ref r0), .val (.int 3), .val (.int 67)] [(.int 67)])) rfl (hb hby d8_127) (n := 24) (by decide) (by decide) (by decide) (by decide)
  have G5 : own_G Z h5 r0 [(.ref (sa 5)), x1, x2, x3, x4, (.ref u), x6, x7, x8, x9, x10, x11, x12, (.int 0), x14, x15, x16, x17, x18, x19, x20, x21, x22] := G.ext E5
  have I5 : own_I Z h5 r0 u ku cu en EC w sa := I.ext E5
  have S_C_c5 := S_C.ext E5
  have S_F_c5 := S_F.ext E5
  have Z5 : n0 ≤ h5.size := Nat.le_trans Z0 E5.1
  have K5 : Keep h0 h5 [r0] := K0.ext E5
  have hCt5 := hC0.trans hC5
  refine own_g (T5.setTop (mkF m 129 #[.val (.ref r0), .val (.int 3), .val (.int 67)] [(.ref a5), (.int 67)])) (st5) ?_
  have ne_a5 : a5 ≠ r0 := (Exa.ne G5.1 Ea5 (by decide)).symm
  have ne_b5 : b5 ≠ r0 := (Exa.neArv G5.1 Va5 (own_w hw 6 rfl)).symm
  refine own_g (T5.setTop (mkF m 130 #[.val (.ref r0), .val (.int 3), .val (.int 67)] [(.ref r0), (.ref a5), (.int 67)])) (fun _ k => XS.aloadN X5.here hx rfl (hb hby d8_129) rfl rfl k) ?_
  obtain ⟨T6, X6, e6, st6⟩ := getF X5 hx hZ hown (host := "") (Or.inl (own_w hw 83 rfl)) Via.refl e5 (own_Gf G5 13 rfl rfl) (g := (mkF m 130 #[.val (.ref r0), .val (.int 3), .val (.int 67)] [(.ref r0), (.ref a5), (.int 67)])) rfl rfl (hb hby d8_130)
  refine own_g (T6.setTop (mkF m 133 #[.val (.ref r0), .val (.int 3), .val (.int 67)] [(.int 0), (.ref a5), (.int 67)])) (st6) ?_
  obtain ⟨cl, Ar, q_cl, S_cl, N_cl, Ha_cl, G_cl⟩ := id Va5
  have hin : ¬ ((0 : Int32) < 0 ∨ cl.slots.size ≤ ((0 : Int32)).toNatClampNeg) := inb_of S_cl ⟨by decide, by decide⟩
  have hat : cl.slots[((0 : Int32)).toNatClampNeg]? = some (.int 67) := Ha_cl.at hin rfl
  obtain ⟨cq7, kq7, qk7a, qk7b, qk7c⟩ := isOf hZ e6 Ea5
  obtain ⟨_, _, ⟨T7, L7, k7, n7⟩, -, X7, ⟨Lc7, hQ7, l7, y7, z7⟩, st7⟩ := X6.virtualBack hx (y := (⟨"java/lang/String", "charAt", "(I)C"⟩ : MethodName)) (z := (⟨"java/lang/String", "charAt", "(I)C"⟩ : MethodName)) hown (mvT hZ (own_w hw 99 rfl)) (mvT hZ (own_w hw 100 rfl)) (notFace_of_selects (args := #[]) (mvT hZ (own_w hw 102 rfl))) (mvT hZ (own_w hw 102 rfl)) (mvT hZ (own_w hw 101 rfl)) (by decide) (backOf (W := 1) (ch l Z a0 hw [] a5 (0 : Int32) wC wF b5 cl (67 : Int32) h5 n0 Z5 S_C_c5 hC S_F_c5 hG Ea5 Fc5 Fv5 (by decide) (by decide) (own_A.of Va5) Ar hin hat) hZ (own_w hw 103 rfl) (own_w hw 92 rfl) (by decide) (by decide)) qk7a qk7c (g := (mkF m 133 #[.val (.ref r0), .val (.int 3), .val (.int 67)] [(.int 0), (.ref a5), (.int 67)])) rfl (by rw [hml]; rfl) (Steps.refl _) (argsL := [(.int 0)]) (rest := [(.int 67)]) (lenOf pd1 rfl) rfl (by show 2 * 0 + _ ≤ _; exact Nat.le_of_eq rfl) (hb hby d8_133) (fun _ _ => ⟨rfl, e6, (by decide : 2 + 0 ≤ _), (by decide : 28 + 0 ≤ _)⟩)
  dsimp only [Pt.U, Pt.locs, Pt.cells, Pt.slots] at X7 l7 y7 z7 st7 hQ7
  subst l7 y7 z7
  obtain ⟨rfl, Nq7, e7⟩ := hQ7
  have N7 := Fr.app N4 Nq7
  refine own_g (T7.setTop (mkF m 136 #[.val (.ref r0), .val (.int 3), .val (.int 67)] [(.int (nar .char (nar .char (((67 : Int32) &&& (255 : Int32)).toUInt32.toUInt16.toUInt32.toInt32)))), (.int 67)])) (fun _ k => st7.trans k) ?_
  refine own_g (T7.setTop (mkF m 147 #[.val (.ref r0), .val (.int 3), .val (.int 67)] [])) (fun _ k => XS.icmpYes X7.here hx rfl (pc0 := 136) (pc' := 147) rfl (hb hby d8_136) rfl (teq (by decide : (67 : Int32) = (nar .char (nar .char (((67 : Int32) &&& (255 : Int32)).toUInt32.toUInt16.toUInt32.toInt32))))).1 (by decide) (by decide) k) ?_
  refine own_g (T7.setTop (mkF m 148 #[.val (.ref r0), .val (.int 3), .val (.int 67)] [(.ref r0)])) (fun _ k => XS.aloadN X7.here hx rfl (hb hby d8_147) rfl rfl k) ?_
  refine own_g (T7.setTop (mkF m 149 #[.val (.ref r0), .val (.int 3), .val (.int 67)] [(.ref r0), (.ref r0)])) (fun _ k => XS.dup X7.here hx rfl (hb hby d8_148) rfl rfl k) ?_
  obtain ⟨T8, X8, e8, st8⟩ := getF X7 hx hZ hown (host := "") (Or.inl (own_w hw 83 rfl)) Via.refl e7 (own_Gf G5 13 rfl rfl) (g := (mkF m 149 #[.val (.ref r0), .val (.int 3), .val (.int 67)] [(.ref r0), (.ref r0)])) rfl rfl (hb hby d8_149)
  refine own_g (T8.setTop (mkF m 152 #[.val (.ref r0), .val (.int 3), .val (.int 67)] [(.int 0), (.ref r0)])) (st8) ?_
  refine own_g (T8.setTop (mkF m 153 #[.val (.ref r0), .val (.int 3), .val (.int 67)] [(.int 1), (.int 0), (.ref r0)])) (fun _ k => XS.iconst X8.here hx rfl (hb hby d8_152) k) ?_
  refine own_g (T8.setTop (mkF m 154 #[.val (.ref r0), .val (.int 3), .val (.int 67)] [(.int ((0 : Int32) + (1 : Int32))), (.ref r0)])) (fun _ k => XS.iadd X8.here hx rfl (hb hby d8_153) rfl k) ?_
  rw [show ((0 : Int32) + (1 : Int32)) = (1 : Int32) from by decide]
  refine own_g (T8.setTop (mkF m 155 #[.val (.ref r0), .val (.int 3), .val (.int 67)] [(.int 1), (.ref r0), (.int 1)])) (fun _ k => XS.dupX1 X8.here hx rfl (hb hby d8_154) rfl rfl rfl k) ?_
  obtain ⟨T9, h9, X9, e9, W9, st9⟩ := putF X8 hx hZ hown (host := "") (Or.inl (own_w hw 83 rfl)) Via.refl e8 (own_Gf G5 13 rfl rfl) G5.1 (Or.inl (own_w hw 84 rfl)) (own_w hw 6 rfl) (ty := .int) (by decide) rfl rfl (g := (mkF m 155 #[.val (.ref r0), .val (.int 3), .val (.int 67)] [(.int 1), (.ref r0), (.int 1)])) rfl rfl (hb hby d8_155)
  have G9 : own_G Z h9 r0 [(.ref (sa 5)), x1, x2, x3, x4, (.ref u), x6, x7, x8, x9, x10, x11, x12, (.int 1), x14, x15, x16, x17, x18, x19, x20, x21, x22] := own_G.put hw G5 13 rfl (Nat.le_of_ble_eq_true rfl) W9
  have I9 : own_I Z h9 r0 u ku cu en EC w sa := I5.wr W9 G5.1
  have Ea5_c9 := Ea5.wr W9
  have Fc5_c9 := Fc5.other W9 (Or.inl ne_a5)
  have Fv5_c9 := Fv5.other W9 (Or.inl ne_a5)
  have Va5_c9 := Va5.other W9 ne_b5
  have S_C_c9 := S_C_c5.wr W9
  have S_F_c9 := S_F_c5.wr W9
  have N9 := Fr.snoc X9 N7 gn_r0
  have Z9 : n0 ≤ h9.size := Nat.le_trans Z5 (Keep.of_wr W9).1
  have K9 : Keep h0 h9 [r0] := K5.wr W9 (Or.inl (List.mem_of_getElem? (i := 0) rfl))
  have hCt9 := hCt5.trans (CHr.wr W9 (Safe.exa hZ.alike G5.1 (by decide) (by decide)) hCt5.1)
  refine own_g (T9.setTop (mkF m 158 #[.val (.ref r0), .val (.int 3), .val (.int 67)] [(.int 1)])) (st9) ?_
  refine own_g (T9.setTop (mkF m 160 #[.val (.ref r0), .val (.int 3), .val (.int 67)] [(.ref a5), (.int 1)])) (ldcAgain X9 hx hZ hown (own_w hw 91 rfl) hL5 (g := (mkF m 158 #[.val (.ref r0), .val (.int 3), .val (.int 67)] [(.int 1)])) rfl (hb hby d8_158)) ?_
  obtain ⟨cq10, kq10, qk10a, qk10b, qk10c⟩ := isOf hZ e9 Ea5_c9
  obtain ⟨_, _, ⟨T10, L10, k10, n10⟩, -, X10, ⟨Lc10, hQ10, l10, y10, z10⟩, st10⟩ := X9.virtualBack hx (y := (⟨"java/lang/String", "length", "()I"⟩ : MethodName)) (z := (⟨"java/lang/String", "length", "()I"⟩ : MethodName)) hown (mvT hZ (own_w hw 124 rfl)) (mvT hZ (own_w hw 125 rfl)) (notFace_of_selects (args := #[]) (mvT hZ (own_w hw 127 rfl))) (mvT hZ (own_w hw 127 rfl)) (mvT hZ (own_w hw 126 rfl)) (by decide) (backOf (W := 1) (len l Z a0 hw [] a5 wC b5 h9 n0 Z9 S_C_c9 hC Ea5_c9 Fc5_c9 Fv5_c9 (own_A.of Va5_c9)) hZ (own_w hw 128 rfl) (own_w hw 92 rfl) (by decide) (by decide)) qk10a qk10c (g := (mkF m 160 #[.val (.ref r0), .val (.int 3), .val (.int 67)] [(.ref a5), (.int 1)])) rfl (by rw [hml]; rfl) (Steps.refl _) (argsL := []) (rest := [(.int 1)]) (lenOf pd4 rfl) rfl (by show 2 * 0 + _ ≤ _; exact Nat.le_of_eq rfl) (hb hby d8_160) (fun _ _ => ⟨rfl, e9, (by decide : 2 + 0 ≤ _), (by decide : 28 + 0 ≤ _)⟩)
  dsimp only [Pt.U, Pt.locs, Pt.cells, Pt.slots] at X10 l10 y10 z10 st10 hQ10
  subst l10 y10 z10
  obtain ⟨rfl, Nq10, e10⟩ := hQ10
  have N10 := Fr.app N9 Nq10
  refine own_g (T10.setTop (mkF m 163 #[.val (.ref r0), .val (.int 3), .val (.int 67)] [(.int 6), (.int 1)])) (fun _ k => st10.trans k) ?_
  refine own_g (T10.setTop (mkF m 257 #[.val (.ref r0), .val (.int 3), .val (.int 67)] [])) (fun _ k => XS.icmpYes X10.here hx rfl (pc0 := 163) (pc' := 257) rfl (hb hby d8_163) rfl (feq (by decide : ¬ ((1 : Int32) = (6 : Int32)))).2 (by decide) (by decide) k) ?_
  refine own_g (T10.setTop (mkF m 258 #[.val (.ref r0), .val (.int 3), .val (.int 67)] [(.ref r0)])) (fun _ k => XS.aloadN X10.here hx rfl (hb hby d8_257) rfl rfl k) ?_
  refine own_g (T10.setTop (mkF m 259 #[.val (.ref r0), .val (.int 3), .val (.int 67)] [(.int 67), (.ref r0)])) (fun _ k => XS.iloadN X10.here hx rfl (hb hby d8_258) rfl k) ?_
  refine own_g (T10.setTop (mkF m 260 #[.val (.ref r0), .val (.int 3), .val (.int 67)] [(.int 3), (.int 67), (.ref r0)])) (fun _ k => XS.iloadN X10.here hx rfl (hb hby d8_259) rfl k) ?_
  obtain ⟨cq11, qk11, qk11'⟩ := G9.1.cell
  obtain ⟨_, _, ⟨T11, L11, k11, n11⟩, -, X11, ⟨Lc11, hQ11, l11, y11, z11⟩, st11⟩ := X10.privateBack hx (y := (⟨"com/example/corridor/corridor/iso20022/MarkupScanner", "lineEnd", "(CI)V"⟩ : MethodName)) hown (mvT hZ (own_w hw 87 rfl)) (mvT hZ (own_w hw 88 rfl)) (mvT hZ (own_selPriv (own_w hw 88 rfl) (own_w hw 89 rfl) (own_w hw 30 rfl) rfl (by decide))) (Cond.privateMethod_at (mvP hZ (own_w hw 89 rfl) (args := #[]))) (mvT hZ (own_w hw 90 rfl)) (by decide) (backOf (W := 0) (leg l Z a0 hw [] r0 (67 : Int32) (3 : Int32) u ku cu en EC w sa (.ref (sa 5)) x1 x2 x3 x4 (.ref u) x6 x7 x8 x9 x10 x11 x12 (.int 1) x14 x15 x16 x17 x18 x19 x20 x21 x22 h9 n0 Z9 I9 G9 gn_r0 (by decide)) hZ (own_w hw 90 rfl) (own_w hw 7 rfl) (by decide) (by decide)) (g := (mkF m 260 #[.val (.ref r0), .val (.int 3), .val (.int 67)] [(.int 3), (.int 67), (.ref r0)])) rfl (by rw [hml]; rfl) (Steps.refl _) (a := r0) (by rw [e10]; exact qk11) qk11' (argsL := [(.int 67), (.int 3)]) (rest := []) (lenOf pd5 rfl) rfl (by show 2 * 0 + _ ≤ _; exact Nat.le_of_eq rfl) (hb hby d8_260) (fun _ _ => ⟨rfl, e10, (by decide : 2 + 0 ≤ _), (by decide : 28 + 0 ≤ _)⟩)
  dsimp only [Pt.U, Pt.locs, Pt.cells, Pt.slots] at X11 l11 y11 z11 st11 hQ11
  subst l11 y11 z11
  obtain ⟨rfl, Nq11, e11⟩ := hQ11
  have N11 := Fr.app N10 Nq11
  refine own_g (T11.setTop (mkF m 263 #[.val (.ref r0), .val (.int 3), .val (.int 67)] [])) (fun _ k => st11.trans k) ?_
  refine own_g (T11.setTop (mkF m 264 #[.val (.ref r0), .val (.int 3), .val (.int 67)] [(.int 3)])) (fun _ k => XS.iloadN X11.here hx rfl (hb hby d8_263) rfl k) ?_
  refine own_g (T11.setTop (mkF m 265 #[.val (.ref r0), .val (.int 3), .val (.int 67)] [(.int 1), (.int 3)])) (fun _ k => XS.iconst X11.here hx rfl (hb hby d8_264) k) ?_
  refine own_g (T11.setTop (mkF m 266 #[.val (.ref r0), .val (.int 3), .val (.int 67)] [(.int ((3 : Int32) + (1 : Int32)))])) (fun _ k => XS.iadd X11.here hx rfl (hb hby d8_265) rfl k) ?_
  rw [show ((3 : Int32) + (1 : Int32)) = (4 : Int32) from by decide]
  exact own_retIW X11 hx Bd.returns (hb hby d8_266) Bd.notSynchronized hS5 (by rw [e11]; exact (Nat.le_trans hk5 (Keep.of_wr W9).1)) hZ hEL (by rw [e11]; exact hCt9) (by decide) (by decide) (by rw [e11]; exact ⟨rfl, N11, K9, G9⟩)
theorem ef_oth4 (m : MethodId) (r0 : Addr) : entryFrame m #[(.ref r0), (.int 4)] 3 = mkF m 0 #[.val (.ref r0), .val (.int 4), .unset] [] := by first | (simp [entryFrame, mkF, argsToLocals, Value.category]; done) | rfl
set_option maxRecDepth 65536 in
set_option maxHeartbeats 40000000 in
theorem oth4 (l : Launch) (Z : State) (a0 : Array Value) (hw : ∀ d ∈ tables_1, d.before a0 Z = true) (ws : List Jvm.Cond) (r0 : Addr) (u : Addr) (ku : ClassId) (cu : Int32) (en : Addr) (EC : String) (w : Int32) (sa : Nat → Addr) (wC : Int32) (wF : Value) (x1 : Value) (x2 : Value) (x3 : Value) (x4 : Value) (x6 : Value) (x7 : Value) (x8 : Value) (x9 : Value) (x10 : Value) (x11 : Value) (x12 : Value) (x14 : Value) (x15 : Value) (x16 : Value) (x17 : Value) (x18 : Value) (x19 : Value) (x20 : Value) (x21 : Value) (x22 : Value) (h0 : Heap) (n0 : Nat) (Z0 : n0 ≤ h0.size) (I : own_I Z h0 r0 u ku cu en EC w sa) (G : own_G Z h0 r0 [(.ref (sa 5)), x1, x2, x3, x4, (.ref u), x6, x7, x8, x9, x10, x11, x12, (.int 1), x14, x15, x16, x17, x18, x19, x20, x21, x22]) (gn_r0 : n0 ≤ r0) (hEL : EW Z a0 own_EL) (hStr : ∀ a ∈ Bundle.stringAtoms, a.before a0 Z = true) (S_C : Sta Z h0 "java/lang/String" "COMPACT_STRINGS" "Z" (.int wC)) (hC : ¬ (wC = (0 : Int32))) (S_F : Sta Z h0 "jdk/internal/util/Preconditions" "SIOOBE_FORMATTER" "Ljava/util/function/BiFunction;" wF) (hG : wF.isRef = true) :
    MetFree l (⟨"com/example/corridor/corridor/iso20022/MarkupScanner", "other", "(I)I"⟩ : MethodName) (head1 (Jvm.Cond.code (⟨"com/example/corridor/corridor/iso20022/MarkupScanner", "other", "(I)I"⟩ : MethodName) prog_34_method_24_code 3 (some .int) :: ws) ({ frames := 4, cells := 2, slots := 28, locals := 54 } : Room)) (fun a U => a = #[(.ref r0), (.int 4)] ∧ Z.Warmed39 U.vm ∧ U.heap = h0 ∧ CHv Z own_EL U.vm h0) (fun _ _ _ _ _ => True) (fun _ U o U' => ∃ v L, o = .returned v ∧ (own_QG Z r0 n0 h0 (some (.int 5)) [(.ref (sa 5)), x1, x2, x3, x4, (.ref u), x6, x7, x8, x9, x10, x11, x12, (.int 2), x14, x15, x16, x17, x18, x19, x20, x21, x22]) v U'.heap L ∧ CHr Z own_EL U.vm U.heap U'.vm U'.heap ∧ ReturnedEndW U o U' L 2 28) := by
  refine MetFree.of_bodySF (plainFor_of_name pn8) hisR ?_
  intro p e s m args below meth c s₁ Bd hml0 hP hK
  obtain ⟨rfl, hZ, hh, hCH⟩ := hP
  have hx := Bd.exec
  have hby := Bd.bytes
  have hml : c.maxLocals = 3 := hml0
  have hown : s.vm.findClass "com/example/corridor/corridor/iso20022/MarkupScanner" = some m.cls := findClass_of_methodNamed Bd.named
  have hnm := (name_of_methodNamed Bd.named Bd.method).1
  have X0 : Stand p l e ({ frames := 4, cells := 2, slots := 28, locals := 54 } : Room) (s.setVm s.vm) m #[(.ref r0), (.int 4)] below meth c s₁ [] 0 0 := Stand.of_body Bd
  have e0 : s₁.heap = h0 := by rw [← hh, Bd.state]; rfl
  have N0 := Fr.nil n0
  have hS0 : s.Since s.vm 0 := (State.WarmedH.refl s).since 0
  have hC0 : CHr Z own_EL s.vm s.heap s.vm h0 := by rw [hh]; exact CHr.refl hCH
  have K0 : Keep h0 h0 [r0] := Keep.refl h0 [r0]
  show own_Goes p e below (own_EndW s Z own_EL (own_QG Z r0 n0 h0 (some (.int 5)) [(.ref (sa 5)), x1, x2, x3, x4, (.ref u), x6, x7, x8, x9, x10, x11, x12, (.int 2), x14, x15, x16, x17, x18, x19, x20, x21, x22]) 2 28) _
  refine own_g (s₁.setTop (mkF m 0 #[.val (.ref r0), .val (.int 4), .unset] [])) (fun t k => castTop (ef_oth4 m r0) k) ?_
  refine own_g (s₁.setTop (mkF m 1 #[.val (.ref r0), .val (.int 4), .unset] [(.ref r0)])) (fun _ k => XS.aloadN X0.here hx rfl (hb hby d8_0) rfl rfl k) ?_
  obtain ⟨T1, X1, e1, st1⟩ := getF X0 hx hZ hown (host := "") (Or.inl (own_w hw 32 rfl)) Via.refl e0 (own_Gf G 5 rfl rfl) (g := (mkF m 1 #[.val (.ref r0), .val (.int 4), .unset] [(.ref r0)])) rfl rfl (hb hby d8_1)
  refine own_g (T1.setTop (mkF m 4 #[.val (.ref r0), .val (.int 4), .unset] [(.ref u)])) (st1) ?_
  refine own_g (T1.setTop (mkF m 5 #[.val (.ref r0), .val (.int 4), .unset] [(.int 4), (.ref u)])) (fun _ k => XS.iloadN X1.here hx rfl (hb hby d8_4) rfl k) ?_
  obtain ⟨cl2, Ar2, hin2, hat2⟩ := own_I.at I (4 : Int32) (by decide) (by decide)
  refine own_g (T1.setTop (mkF m 6 #[.val (.ref r0), .val (.int 4), .unset] [(.int 68)])) (X1.caload hx (j := (4 : Int32)) (v := (.int 68)) (by rw [e1]; exact Ar2.1) (State.isArrayOf_alike hZ.alike Ar2.2.1) Ar2.2.2 hin2 hat2 (g := (mkF m 5 #[.val (.ref r0), .val (.int 4), .unset] [(.int 4), (.ref u)])) rfl rfl (hb hby d8_5)) ?_
  refine own_g (T1.setTop (mkF m 7 #[.val (.ref r0), .val (.int 4), .val (.int 68)] [])) (fun _ k => XS.istoreN X1.here hx rfl (hb hby d8_6) rfl (l' := #[.val (.ref r0), .val (.int 4), .val (.int 68)]) rfl k) ?_
  refine own_g (T1.setTop (mkF m 8 #[.val (.ref r0), .val (.int 4), .val (.int 68)] [(.ref r0)])) (fun _ k => XS.aloadN X1.here hx rfl (hb hby d8_7) rfl rfl k) ?_
  obtain ⟨T3, X3, e3, st3⟩ := getF X1 hx hZ hown (host := "") (Or.inl (own_w hw 17 rfl)) Via.refl e1 (own_Gf G 0 rfl rfl) (g := (mkF m 8 #[.val (.ref r0), .val (.int 4), .val (.int 68)] [(.ref r0)])) rfl rfl (hb hby d8_8)
  refine own_g (T3.setTop (mkF m 11 #[.val (.ref r0), .val (.int 4), .val (.int 68)] [(.ref (sa 5))])) (st3) ?_
  obtain ⟨cq4, kq4, qk4a, qk4b, qk4c⟩ := isOf hZ e3 (show Exa Z h0 (sa 5) "com/example/corridor/corridor/iso20022/MarkupScanner$State" from (I.1 4 _ rfl).2.1)
  obtain ⟨_, _, ⟨T4, L4, k4, n4⟩, -, X4, ⟨Lc4, hQ4, l4, y4, z4⟩, st4⟩ := X3.virtualBackUp hx (x := (⟨"com/example/corridor/corridor/iso20022/MarkupScanner$State", "ordinal", "()I"⟩ : MethodName)) (y := (⟨"java/lang/Enum", "ordinal", "()I"⟩ : MethodName)) (owner := "java/lang/Enum") hown (mvT hZ (own_w hw 56 rfl)) (mvT hZ (own_w hw 57 rfl)) (mvT hZ (own_w hw 58 rfl)) (by decide) (mvT hZ (own_w hw 60 rfl)) (mvT hZ (own_w hw 59 rfl)) (backOf (W := 0) (ord l Z a0 hw [] (sa 5) (5 : Int32) h0 n0 Z0 (show Fld Z h0 (sa 5) "java/lang/Enum" "ordinal" "I" (.int 5) from (I.1 4 _ rfl).2.2.1)) hZ (own_w hw 62 rfl) (own_w hw 61 rfl) (by decide) (by decide)) qk4a qk4c (g := (mkF m 11 #[.val (.ref r0), .val (.int 4), .val (.int 68)] [(.ref (sa 5))])) rfl (by rw [hml]; rfl) (Steps.refl _) (argsL := []) (rest := []) (lenOf pd4 rfl) rfl (by show 2 * 0 + _ ≤ _; exact Nat.le_of_eq rfl) (hb hby d8_11) (fun _ _ => ⟨rfl, e3, (by decide : 0 + 0 ≤ _), (by decide : 0 + 0 ≤ _)⟩)
  dsimp only [Pt.U, Pt.locs, Pt.cells, Pt.slots] at X4 l4 y4 z4 st4 hQ4
  subst l4 y4 z4
  obtain ⟨rfl, Nq4, e4⟩ := hQ4
  have N4 := Fr.app N0 Nq4
  refine own_g (T4.setTop (mkF m 14 #[.val (.ref r0), .val (.int 4), .val (.int 68)] [(.int 5)])) (fun _ k => st4.trans k) ?_
  refine own_g (T4.setTop (mkF m 126 #[.val (.ref r0), .val (.int 4), .val (.int 68)] [])) (fun _ k => XS.tswIn X4.here hx rfl (pc0 := 14) (pc' := 126) (o := 112) rfl (hb hby d8_14) rfl (by decide) rfl (by decide) (by decide) k) ?_
  refine own_g (T4.setTop (mkF m 127 #[.val (.ref r0), .val (.int 4), .val (.int 68)] [(.int 68)])) (fun _ k => XS.iloadN X4.here hx rfl (hb hby d8_126) rfl k) ?_
  obtain ⟨a5, T5, h5, k1_5, b5, k5, X5, e5, E5, hS5, hk5, hZ, hown, Ea5, Fc5, Fv5, Va5, la5, lb5, hC5, hL5, hSf5, st5⟩ := ldcCH (s := s) (vm0 := s.vm) X4 hx hZ hown (own_w hw 91 rfl) hStr e4 hS0 (Nat.zero_le _) hEL (by simp [own_EL]) hC0.1 (vs := [(.int 67), (.int 68), (.int 65), (.int 84), (.int 65), (.int 91)]) (z := (6 : Int32)) ⟨by decide, by decide⟩ (by decide) rfl (g := (mkF m 127 #[.val (.ref r0), .val (.int 4), .val (.int 68)] [(.int 68)])) rfl (hb hby d8_127) (n := 24) (by decide) (by decide) (by decide) (by decide)
  have G5 : own_G Z h5 r0 [(.ref (sa 5)), x1, x2, x3, x4, (.ref u), x6, x7, x8, x9, x10, x11, x12, (.int 1), x14, x15, x16, x17, x18, x19, x20, x21, x22] := G.ext E5
  have I5 : own_I Z h5 r0 u ku cu en EC w sa := I.ext E5
  have S_C_c5 := S_C.ext E5
  have S_F_c5 := S_F.ext E5
  have Z5 : n0 ≤ h5.size := Nat.le_trans Z0 E5.1
  have K5 : Keep h0 h5 [r0] := K0.ext E5
  have hCt5 := hC0.trans hC5
  refine own_g (T5.setTop (mkF m 129 #[.val (.ref r0), .val (.int 4), .val (.int 68)] [(.ref a5), (.int 68)])) (st5) ?_
  have ne_a5 : a5 ≠ r0 := (Exa.ne G5.1 Ea5 (by decide)).symm
  have ne_b5 : b5 ≠ r0 := (Exa.neArv G5.1 Va5 (own_w hw 6 rfl)).symm
  refine own_g (T5.setTop (mkF m 130 #[.val (.ref r0), .val (.int 4), .val (.int 68)] [(.ref r0), (.ref a5), (.int 68)])) (fun _ k => XS.aloadN X5.here hx rfl (hb hby d8_129) rfl rfl k) ?_
  obtain ⟨T6, X6, e6, st6⟩ := getF X5 hx hZ hown (host := "") (Or.inl (own_w hw 83 rfl)) Via.refl e5 (own_Gf G5 13 rfl rfl) (g := (mkF m 130 #[.val (.ref r0), .val (.int 4), .val (.int 68)] [(.ref r0), (.ref a5), (.int 68)])) rfl rfl (hb hby d8_130)
  refine own_g (T6.setTop (mkF m 133 #[.val (.ref r0), .val (.int 4), .val (.int 68)] [(.int 1), (.ref a5), (.int 68)])) (st6) ?_
  obtain ⟨cl, Ar, q_cl, S_cl, N_cl, Ha_cl, G_cl⟩ := id Va5
  have hin : ¬ ((1 : Int32) < 0 ∨ cl.slots.size ≤ ((1 : Int32)).toNatClampNeg) := inb_of S_cl ⟨by decide, by decide⟩
  have hat : cl.slots[((1 : Int32)).toNatClampNeg]? = some (.int 68) := Ha_cl.at hin rfl
  obtain ⟨cq7, kq7, qk7a, qk7b, qk7c⟩ := isOf hZ e6 Ea5
  obtain ⟨_, _, ⟨T7, L7, k7, n7⟩, -, X7, ⟨Lc7, hQ7, l7, y7, z7⟩, st7⟩ := X6.virtualBack hx (y := (⟨"java/lang/String", "charAt", "(I)C"⟩ : MethodName)) (z := (⟨"java/lang/String", "charAt", "(I)C"⟩ : MethodName)) hown (mvT hZ (own_w hw 99 rfl)) (mvT hZ (own_w hw 100 rfl)) (notFace_of_selects (args := #[]) (mvT hZ (own_w hw 102 rfl))) (mvT hZ (own_w hw 102 rfl)) (mvT hZ (own_w hw 101 rfl)) (by decide) (backOf (W := 1) (ch l Z a0 hw [] a5 (1 : Int32) wC wF b5 cl (68 : Int32) h5 n0 Z5 S_C_c5 hC S_F_c5 hG Ea5 Fc5 Fv5 (by decide) (by decide) (own_A.of Va5) Ar hin hat) hZ (own_w hw 103 rfl) (own_w hw 92 rfl) (by decide) (by decide)) qk7a qk7c (g := (mkF m 133 #[.val (.ref r0), .val (.int 4), .val (.int 68)] [(.int 1), (.ref a5), (.int 68)])) rfl (by rw [hml]; rfl) (Steps.refl _) (argsL := [(.int 1)]) (rest := [(.int 68)]) (lenOf pd1 rfl) rfl (by show 2 * 0 + _ ≤ _; exact Nat.le_of_eq rfl) (hb hby d8_133) (fun _ _ => ⟨rfl, e6, (by decide : 2 + 0 ≤ _), (by decide : 28 + 0 ≤ _)⟩)
  dsimp only [Pt.U, Pt.locs, Pt.cells, Pt.slots] at X7 l7 y7 z7 st7 hQ7
  subst l7 y7 z7
  obtain ⟨rfl, Nq7, e7⟩ := hQ7
  have N7 := Fr.app N4 Nq7
  refine own_g (T7.setTop (mkF m 136 #[.val (.ref r0), .val (.int 4), .val (.int 68)] [(.int (nar .char (nar .char (((68 : Int32) &&& (255 : Int32)).toUInt32.toUInt16.toUInt32.toInt32)))), (.int 68)])) (fun _ k => st7.trans k) ?_
  refine own_g (T7.setTop (mkF m 147 #[.val (.ref r0), .val (.int 4), .val (.int 68)] [])) (fun _ k => XS.icmpYes X7.here hx rfl (pc0 := 136) (pc' := 147) rfl (hb hby d8_136) rfl (teq (by decide : (68 : Int32) = (nar .char (nar .char (((68 : Int32) &&& (255 : Int32)).toUInt32.toUInt16.toUInt32.toInt32))))).1 (by decide) (by decide) k) ?_
  refine own_g (T7.setTop (mkF m 148 #[.val (.ref r0), .val (.int 4), .val (.int 68)] [(.ref r0)])) (fun _ k => XS.aloadN X7.here hx rfl (hb hby d8_147) rfl rfl k) ?_
  refine own_g (T7.setTop (mkF m 149 #[.val (.ref r0), .val (.int 4), .val (.int 68)] [(.ref r0), (.ref r0)])) (fun _ k => XS.dup X7.here hx rfl (hb hby d8_148) rfl rfl k) ?_
  obtain ⟨T8, X8, e8, st8⟩ := getF X7 hx hZ hown (host := "") (Or.inl (own_w hw 83 rfl)) Via.refl e7 (own_Gf G5 13 rfl rfl) (g := (mkF m 149 #[.val (.ref r0), .val (.int 4), .val (.int 68)] [(.ref r0), (.ref r0)])) rfl rfl (hb hby d8_149)
  refine own_g (T8.setTop (mkF m 152 #[.val (.ref r0), .val (.int 4), .val (.int 68)] [(.int 1), (.ref r0)])) (st8) ?_
  refine own_g (T8.setTop (mkF m 153 #[.val (.ref r0), .val (.int 4), .val (.int 68)] [(.int 1), (.int 1), (.ref r0)])) (fun _ k => XS.iconst X8.here hx rfl (hb hby d8_152) k) ?_
  refine own_g (T8.setTop (mkF m 154 #[.val (.ref r0), .val (.int 4), .val (.int 68)] [(.int ((1 : Int32) + (1 : Int32))), (.ref r0)])) (fun _ k => XS.iadd X8.here hx rfl (hb hby d8_153) rfl k) ?_
  rw [show ((1 : Int32) + (1 : Int32)) = (2 : Int32) from by decide]
  refine own_g (T8.setTop (mkF m 155 #[.val (.ref r0), .val (.int 4), .val (.int 68)] [(.int 2), (.ref r0), (.int 2)])) (fun _ k => XS.dupX1 X8.here hx rfl (hb hby d8_154) rfl rfl rfl k) ?_
  obtain ⟨T9, h9, X9, e9, W9, st9⟩ := putF X8 hx hZ hown (host := "") (Or.inl (own_w hw 83 rfl)) Via.refl e8 (own_Gf G5 13 rfl rfl) G5.1 (Or.inl (own_w hw 84 rfl)) (own_w hw 6 rfl) (ty := .int) (by decide) rfl rfl (g := (mkF m 155 #[.val (.ref r0), .val (.int 4), .val (.int 68)] [(.int 2), (.ref r0), (.int 2)])) rfl rfl (hb hby d8_155)
  have G9 : own_G Z h9 r0 [(.ref (sa 5)), x1, x2, x3, x4, (.ref u), x6, x7, x8, x9, x10, x11, x12, (.int 2), x14, x15, x16, x17, x18, x19, x20, x21, x22] := own_G.put hw G5 13 rfl (Nat.le_of_ble_eq_true rfl) W9
  have I9 : own_I Z h9 r0 u ku cu en EC w sa := I5.wr W9 G5.1
  have Ea5_c9 := Ea5.wr W9
  have Fc5_c9 := Fc5.other W9 (Or.inl ne_a5)
  have Fv5_c9 := Fv5.other W9 (Or.inl ne_a5)
  have Va5_c9 := Va5.other W9 ne_b5
  have S_C_c9 := S_C_c5.wr W9
  have S_F_c9 := S_F_c5.wr W9
  have N9 := Fr.snoc X9 N7 gn_r0
  have Z9 : n0 ≤ h9.size := Nat.le_trans Z5 (Keep.of_wr W9).1
  have K9 : Keep h0 h9 [r0] := K5.wr W9 (Or.inl (List.mem_of_getElem? (i := 0) rfl))
  have hCt9 := hCt5.trans (CHr.wr W9 (Safe.exa hZ.alike G5.1 (by decide) (by decide)) hCt5.1)
  refine own_g (T9.setTop (mkF m 158 #[.val (.ref r0), .val (.int 4), .val (.int 68)] [(.int 2)])) (st9) ?_
  refine own_g (T9.setTop (mkF m 160 #[.val (.ref r0), .val (.int 4), .val (.int 68)] [(.ref a5), (.int 2)])) (ldcAgain X9 hx hZ hown (own_w hw 91 rfl) hL5 (g := (mkF m 158 #[.val (.ref r0), .val (.int 4), .val (.int 68)] [(.int 2)])) rfl (hb hby d8_158)) ?_
  obtain ⟨cq10, kq10, qk10a, qk10b, qk10c⟩ := isOf hZ e9 Ea5_c9
  obtain ⟨_, _, ⟨T10, L10, k10, n10⟩, -, X10, ⟨Lc10, hQ10, l10, y10, z10⟩, st10⟩ := X9.virtualBack hx (y := (⟨"java/lang/String", "length", "()I"⟩ : MethodName)) (z := (⟨"java/lang/String", "length", "()I"⟩ : MethodName)) hown (mvT hZ (own_w hw 124 rfl)) (mvT hZ (own_w hw 125 rfl)) (notFace_of_selects (args := #[]) (mvT hZ (own_w hw 127 rfl))) (mvT hZ (own_w hw 127 rfl)) (mvT hZ (own_w hw 126 rfl)) (by decide) (backOf (W := 1) (len l Z a0 hw [] a5 wC b5 h9 n0 Z9 S_C_c9 hC Ea5_c9 Fc5_c9 Fv5_c9 (own_A.of Va5_c9)) hZ (own_w hw 128 rfl) (own_w hw 92 rfl) (by decide) (by decide)) qk10a qk10c (g := (mkF m 160 #[.val (.ref r0), .val (.int 4), .val (.int 68)] [(.ref a5), (.int 2)])) rfl (by rw [hml]; rfl) (Steps.refl _) (argsL := []) (rest := [(.int 2)]) (lenOf pd4 rfl) rfl (by show 2 * 0 + _ ≤ _; exact Nat.le_of_eq rfl) (hb hby d8_160) (fun _ _ => ⟨rfl, e9, (by decide : 2 + 0 ≤ _), (by decide : 28 + 0 ≤ _)⟩)
  dsimp only [Pt.U, Pt.locs, Pt.cells, Pt.slots] at X10 l10 y10 z10 st10 hQ10
  subst l10 y10 z10
  obtain ⟨rfl, Nq10, e10⟩ := hQ10
  have N10 := Fr.app N9 Nq10
  refine own_g (T10.setTop (mkF m 163 #[.val (.ref r0), .val (.int 4), .val (.int 68)] [(.int 6), (.int 2)])) (fun _ k => st10.trans k) ?_
  refine own_g (T10.setTop (mkF m 257 #[.val (.ref r0), .val (.int 4), .val (.int 68)] [])) (fun _ k => XS.icmpYes X10.here hx rfl (pc0 := 163) (pc' := 257) rfl (hb hby d8_163) rfl (feq (by decide : ¬ ((2 : Int32) = (6 : Int32)))).2 (by decide) (by decide) k) ?_
  refine own_g (T10.setTop (mkF m 258 #[.val (.ref r0), .val (.int 4), .val (.int 68)] [(.ref r0)])) (fun _ k => XS.aloadN X10.here hx rfl (hb hby d8_257) rfl rfl k) ?_
  refine own_g (T10.setTop (mkF m 259 #[.val (.ref r0), .val (.int 4), .val (.int 68)] [(.int 68), (.ref r0)])) (fun _ k => XS.iloadN X10.here hx rfl (hb hby d8_258) rfl k) ?_
  refine own_g (T10.setTop (mkF m 260 #[.val (.ref r0), .val (.int 4), .val (.int 68)] [(.int 4), (.int 68), (.ref r0)])) (fun _ k => XS.iloadN X10.here hx rfl (hb hby d8_259) rfl k) ?_
  obtain ⟨cq11, qk11, qk11'⟩ := G9.1.cell
  obtain ⟨_, _, ⟨T11, L11, k11, n11⟩, -, X11, ⟨Lc11, hQ11, l11, y11, z11⟩, st11⟩ := X10.privateBack hx (y := (⟨"com/example/corridor/corridor/iso20022/MarkupScanner", "lineEnd", "(CI)V"⟩ : MethodName)) hown (mvT hZ (own_w hw 87 rfl)) (mvT hZ (own_w hw 88 rfl)) (mvT hZ (own_selPriv (own_w hw 88 rfl) (own_w hw 89 rfl) (own_w hw 30 rfl) rfl (by decide))) (Cond.privateMethod_at (mvP hZ (own_w hw 89 rfl) (args := #[]))) (mvT hZ (own_w hw 90 rfl)) (by decide) (backOf (W := 0) (leg l Z a0 hw [] r0 (68 : Int32) (4 : Int32) u ku cu en EC w sa (.ref (sa 5)) x1 x2 x3 x4 (.ref u) x6 x7 x8 x9 x10 x11 x12 (.int 2) x14 x15 x16 x17 x18 x19 x20 x21 x22 h9 n0 Z9 I9 G9 gn_r0 (by decide)) hZ (own_w hw 90 rfl) (own_w hw 7 rfl) (by decide) (by decide)) (g := (mkF m 260 #[.val (.ref r0), .val (.int 4), .val (.int 68)] [(.int 4), (.int 68), (.ref r0)])) rfl (by rw [hml]; rfl) (Steps.refl _) (a := r0) (by rw [e10]; exact qk11) qk11' (argsL := [(.int 68), (.int 4)]) (rest := []) (lenOf pd5 rfl) rfl (by show 2 * 0 + _ ≤ _; exact Nat.le_of_eq rfl) (hb hby d8_260) (fun _ _ => ⟨rfl, e10, (by decide : 2 + 0 ≤ _), (by decide : 28 + 0 ≤ _)⟩)
  dsimp only [Pt.U, Pt.locs, Pt.cells, Pt.slots] at X11 l11 y11 z11 st11 hQ11
  subst l11 y11 z11
  obtain ⟨rfl, Nq11, e11⟩ := hQ11
  have N11 := Fr.app N10 Nq11
  refine own_g (T11.setTop (mkF m 263 #[.val (.ref r0), .val (.int 4), .val (.int 68)] [])) (fun _ k => st11.trans k) ?_
  refine own_g (T11.setTop (mkF m 264 #[.val (.ref r0), .val (.int 4), .val (.int 68)] [(.int 4)])) (fun _ k => XS.iloadN X11.here hx rfl (hb hby d8_263) rfl k) ?_
  refine own_g (T11.setTop (mkF m 265 #[.val (.ref r0), .val (.int 4), .val (.int 68)] [(.int 1), (.int 4)])) (fun _ k => XS.iconst X11.here hx rfl (hb hby d8_264) k) ?_
  refine own_g (T11.setTop (mkF m 266 #[.val (.ref r0), .val (.int 4), .val (.int 68)] [(.int ((4 : Int32) + (1 : Int32)))])) (fun _ k => XS.iadd X11.here hx rfl (hb hby d8_265) rfl k) ?_
  rw [show ((4 : Int32) + (1 : Int32)) = (5 : Int32) from by decide]
  exact own_retIW X11 hx Bd.returns (hb hby d8_266) Bd.notSynchronized hS5 (by rw [e11]; exact (Nat.le_trans hk5 (Keep.of_wr W9).1)) hZ hEL (by rw [e11]; exact hCt9) (by decide) (by decide) (by rw [e11]; exact ⟨rfl, N11, K9, G9⟩)
theorem ef_oth5 (m : MethodId) (r0 : Addr) : entryFrame m #[(.ref r0), (.int 5)] 3 = mkF m 0 #[.val (.ref r0), .val (.int 5), .unset] [] := by first | (simp [entryFrame, mkF, argsToLocals, Value.category]; done) | rfl
set_option maxRecDepth 65536 in
set_option maxHeartbeats 40000000 in
theorem oth5 (l : Launch) (Z : State) (a0 : Array Value) (hw : ∀ d ∈ tables_1, d.before a0 Z = true) (ws : List Jvm.Cond) (r0 : Addr) (u : Addr) (ku : ClassId) (cu : Int32) (en : Addr) (EC : String) (w : Int32) (sa : Nat → Addr) (wC : Int32) (wF : Value) (x1 : Value) (x2 : Value) (x3 : Value) (x4 : Value) (x6 : Value) (x7 : Value) (x8 : Value) (x9 : Value) (x10 : Value) (x11 : Value) (x12 : Value) (x14 : Value) (x15 : Value) (x16 : Value) (x17 : Value) (x18 : Value) (x19 : Value) (x20 : Value) (x21 : Value) (x22 : Value) (h0 : Heap) (n0 : Nat) (Z0 : n0 ≤ h0.size) (I : own_I Z h0 r0 u ku cu en EC w sa) (G : own_G Z h0 r0 [(.ref (sa 5)), x1, x2, x3, x4, (.ref u), x6, x7, x8, x9, x10, x11, x12, (.int 2), x14, x15, x16, x17, x18, x19, x20, x21, x22]) (gn_r0 : n0 ≤ r0) (hEL : EW Z a0 own_EL) (hStr : ∀ a ∈ Bundle.stringAtoms, a.before a0 Z = true) (S_C : Sta Z h0 "java/lang/String" "COMPACT_STRINGS" "Z" (.int wC)) (hC : ¬ (wC = (0 : Int32))) (S_F : Sta Z h0 "jdk/internal/util/Preconditions" "SIOOBE_FORMATTER" "Ljava/util/function/BiFunction;" wF) (hG : wF.isRef = true) :
    MetFree l (⟨"com/example/corridor/corridor/iso20022/MarkupScanner", "other", "(I)I"⟩ : MethodName) (head1 (Jvm.Cond.code (⟨"com/example/corridor/corridor/iso20022/MarkupScanner", "other", "(I)I"⟩ : MethodName) prog_34_method_24_code 3 (some .int) :: ws) ({ frames := 4, cells := 2, slots := 28, locals := 54 } : Room)) (fun a U => a = #[(.ref r0), (.int 5)] ∧ Z.Warmed39 U.vm ∧ U.heap = h0 ∧ CHv Z own_EL U.vm h0) (fun _ _ _ _ _ => True) (fun _ U o U' => ∃ v L, o = .returned v ∧ (own_QG Z r0 n0 h0 (some (.int 6)) [(.ref (sa 5)), x1, x2, x3, x4, (.ref u), x6, x7, x8, x9, x10, x11, x12, (.int 3), x14, x15, x16, x17, x18, x19, x20, x21, x22]) v U'.heap L ∧ CHr Z own_EL U.vm U.heap U'.vm U'.heap ∧ ReturnedEndW U o U' L 2 28) := by
  refine MetFree.of_bodySF (plainFor_of_name pn8) hisR ?_
  intro p e s m args below meth c s₁ Bd hml0 hP hK
  obtain ⟨rfl, hZ, hh, hCH⟩ := hP
  have hx := Bd.exec
  have hby := Bd.bytes
  have hml : c.maxLocals = 3 := hml0
  have hown : s.vm.findClass "com/example/corridor/corridor/iso20022/MarkupScanner" = some m.cls := findClass_of_methodNamed Bd.named
  have hnm := (name_of_methodNamed Bd.named Bd.method).1
  have X0 : Stand p l e ({ frames := 4, cells := 2, slots := 28, locals := 54 } : Room) (s.setVm s.vm) m #[(.ref r0), (.int 5)] below meth c s₁ [] 0 0 := Stand.of_body Bd
  have e0 : s₁.heap = h0 := by rw [← hh, Bd.state]; rfl
  have N0 := Fr.nil n0
  have hS0 : s.Since s.vm 0 := (State.WarmedH.refl s).since 0
  have hC0 : CHr Z own_EL s.vm s.heap s.vm h0 := by rw [hh]; exact CHr.refl hCH
  have K0 : Keep h0 h0 [r0] := Keep.refl h0 [r0]
  show own_Goes p e below (own_EndW s Z own_EL (own_QG Z r0 n0 h0 (some (.int 6)) [(.ref (sa 5)), x1, x2, x3, x4, (.ref u), x6, x7, x8, x9, x10, x11, x12, (.int 3), x14, x15, x16, x17, x18, x19, x20, x21, x22]) 2 28) _
  refine own_g (s₁.setTop (mkF m 0 #[.val (.ref r0), .val (.int 5), .unset] [])) (fun t k => castTop (ef_oth5 m r0) k) ?_
  refine own_g (s₁.setTop (mkF m 1 #[.val (.ref r0), .val (.int 5), .unset] [(.ref r0)])) (fun _ k => XS.aloadN X0.here hx rfl (hb hby d8_0) rfl rfl k) ?_
  obtain ⟨T1, X1, e1, st1⟩ := getF X0 hx hZ hown (host := "") (Or.inl (own_w hw 32 rfl)) Via.refl e0 (own_Gf G 5 rfl rfl) (g := (mkF m 1 #[.val (.ref r0), .val (.int 5), .unset] [(.ref r0)])) rfl rfl (hb hby d8_1)
  refine own_g (T1.setTop (mkF m 4 #[.val (.ref r0), .val (.int 5), .unset] [(.ref u)])) (st1) ?_
  refine own_g (T1.setTop (mkF m 5 #[.val (.ref r0), .val (.int 5), .unset] [(.int 5), (.ref u)])) (fun _ k => XS.iloadN X1.here hx rfl (hb hby d8_4) rfl k) ?_
  obtain ⟨cl2, Ar2, hin2, hat2⟩ := own_I.at I (5 : Int32) (by decide) (by decide)
  refine own_g (T1.setTop (mkF m 6 #[.val (.ref r0), .val (.int 5), .unset] [(.int 65)])) (X1.caload hx (j := (5 : Int32)) (v := (.int 65)) (by rw [e1]; exact Ar2.1) (State.isArrayOf_alike hZ.alike Ar2.2.1) Ar2.2.2 hin2 hat2 (g := (mkF m 5 #[.val (.ref r0), .val (.int 5), .unset] [(.int 5), (.ref u)])) rfl rfl (hb hby d8_5)) ?_
  refine own_g (T1.setTop (mkF m 7 #[.val (.ref r0), .val (.int 5), .val (.int 65)] [])) (fun _ k => XS.istoreN X1.here hx rfl (hb hby d8_6) rfl (l' := #[.val (.ref r0), .val (.int 5), .val (.int 65)]) rfl k) ?_
  refine own_g (T1.setTop (mkF m 8 #[.val (.ref r0), .val (.int 5), .val (.int 65)] [(.ref r0)])) (fun _ k => XS.aloadN X1.here hx rfl (hb hby d8_7) rfl rfl k) ?_
  obtain ⟨T3, X3, e3, st3⟩ := getF X1 hx hZ hown (host := "") (Or.inl (own_w hw 17 rfl)) Via.refl e1 (own_Gf G 0 rfl rfl) (g := (mkF m 8 #[.val (.ref r0), .val (.int 5), .val (.int 65)] [(.ref r0)])) rfl rfl (hb hby d8_8)
  refine own_g (T3.setTop (mkF m 11 #[.val (.ref r0), .val (.int 5), .val (.int 65)] [(.ref (sa 5))])) (st3) ?_
  obtain ⟨cq4, kq4, qk4a, qk4b, qk4c⟩ := isOf hZ e3 (show Exa Z h0 (sa 5) "com/example/corridor/corridor/iso20022/MarkupScanner$State" from (I.1 4 _ rfl).2.1)
  obtain ⟨_, _, ⟨T4, L4, k4, n4⟩, -, X4, ⟨Lc4, hQ4, l4, y4, z4⟩, st4⟩ := X3.virtualBackUp hx (x := (⟨"com/example/corridor/corridor/iso20022/MarkupScanner$State", "ordinal", "()I"⟩ : MethodName)) (y := (⟨"java/lang/Enum", "ordinal", "()I"⟩ : MethodName)) (owner := "java/lang/Enum") hown (mvT hZ (own_w hw 56 rfl)) (mvT hZ (own_w hw 57 rfl)) (mvT hZ (own_w hw 58 rfl)) (by decide) (mvT hZ (own_w hw 60 rfl)) (mvT hZ (own_w hw 59 rfl)) (backOf (W := 0) (ord l Z a0 hw [] (sa 5) (5 : Int32) h0 n0 Z0 (show Fld Z h0 (sa 5) "java/lang/Enum" "ordinal" "I" (.int 5) from (I.1 4 _ rfl).2.2.1)) hZ (own_w hw 62 rfl) (own_w hw 61 rfl) (by decide) (by decide)) qk4a qk4c (g := (mkF m 11 #[.val (.ref r0), .val (.int 5), .val (.int 65)] [(.ref (sa 5))])) rfl (by rw [hml]; rfl) (Steps.refl _) (argsL := []) (rest := []) (lenOf pd4 rfl) rfl (by show 2 * 0 + _ ≤ _; exact Nat.le_of_eq rfl) (hb hby d8_11) (fun _ _ => ⟨rfl, e3, (by decide : 0 + 0 ≤ _), (by decide : 0 + 0 ≤ _)⟩)
  dsimp only [Pt.U, Pt.locs, Pt.cells, Pt.slots] at X4 l4 y4 z4 st4 hQ4
  subst l4 y4 z4
  obtain ⟨rfl, Nq4, e4⟩ := hQ4
  have N4 := Fr.app N0 Nq4
  refine own_g (T4.setTop (mkF m 14 #[.val (.ref r0), .val (.int 5), .val (.int 65)] [(.int 5)])) (fun _ k => st4.trans k) ?_
  refine own_g (T4.setTop (mkF m 126 #[.val (.ref r0), .val (.int 5), .val (.int 65)] [])) (fun _ k => XS.tswIn X4.here hx rfl (pc0 := 14) (pc' := 126) (o := 112) rfl (hb hby d8_14) rfl (by decide) rfl (by decide) (by decide) k) ?_
  refine own_g (T4.setTop (mkF m 127 #[.val (.ref r0), .val (.int 5), .val (.int 65)] [(.int 65)])) (fun _ k => XS.iloadN X4.here hx rfl (hb hby d8_126) rfl k) ?_
  obtain ⟨a5, T5, h5, k1_5, b5, k5, X5, e5, E5, hS5, hk5, hZ, hown, Ea5, Fc5, Fv5, Va5, la5, lb5, hC5, hL5, hSf5, st5⟩ := ldcCH (s := s) (vm0 := s.vm) X4 hx hZ hown (own_w hw 91 rfl) hStr e4 hS0 (Nat.zero_le _) hEL (by simp [own_EL]) hC0.1 (vs := [(.int 67), (.int 68), (.int 65), (.int 84), (.int 65), (.int 91)]) (z := (6 : Int32)) ⟨by decide, by decide⟩ (by decide) rfl (g := (mkF m 127 #[.val (.ref r0), .val (.int 5), .val (.int 65)] [(.int 65)])) rfl (hb hby d8_127) (n := 24) (by decide) (by decide) (by decide) (by decide)
  have G5 : own_G Z h5 r0 [(.ref (sa 5)), x1, x2, x3, x4, (.ref u), x6, x7, x8, x9, x10, x11, x12, (.int 2), x14, x15, x16, x17, x18, x19, x20, x21, x22] := G.ext E5
  have I5 : own_I Z h5 r0 u ku cu en EC w sa := I.ext E5
  have S_C_c5 := S_C.ext E5
  have S_F_c5 := S_F.ext E5
  have Z5 : n0 ≤ h5.size := Nat.le_trans Z0 E5.1
  have K5 : Keep h0 h5 [r0] := K0.ext E5
  have hCt5 := hC0.trans hC5
  refine own_g (T5.setTop (mkF m 129 #[.val (.ref r0), .val (.int 5), .val (.int 65)] [(.ref a5), (.int 65)])) (st5) ?_
  have ne_a5 : a5 ≠ r0 := (Exa.ne G5.1 Ea5 (by decide)).symm
  have ne_b5 : b5 ≠ r0 := (Exa.neArv G5.1 Va5 (own_w hw 6 rfl)).symm
  refine own_g (T5.setTop (mkF m 130 #[.val (.ref r0), .val (.int 5), .val (.int 65)] [(.ref r0), (.ref a5), (.int 65)])) (fun _ k => XS.aloadN X5.here hx rfl (hb hby d8_129) rfl rfl k) ?_
  obtain ⟨T6, X6, e6, st6⟩ := getF X5 hx hZ hown (host := "") (Or.inl (own_w hw 83 rfl)) Via.refl e5 (own_Gf G5 13 rfl rfl) (g := (mkF m 130 #[.val (.ref r0), .val (.int 5), .val (.int 65)] [(.ref r0), (.ref a5), (.int 65)])) rfl rfl (hb hby d8_130)
  refine own_g (T6.setTop (mkF m 133 #[.val (.ref r0), .val (.int 5), .val (.int 65)] [(.int 2), (.ref a5), (.int 65)])) (st6) ?_
  obtain ⟨cl, Ar, q_cl, S_cl, N_cl, Ha_cl, G_cl⟩ := id Va5
  have hin : ¬ ((2 : Int32) < 0 ∨ cl.slots.size ≤ ((2 : Int32)).toNatClampNeg) := inb_of S_cl ⟨by decide, by decide⟩
  have hat : cl.slots[((2 : Int32)).toNatClampNeg]? = some (.int 65) := Ha_cl.at hin rfl
  obtain ⟨cq7, kq7, qk7a, qk7b, qk7c⟩ := isOf hZ e6 Ea5
  obtain ⟨_, _, ⟨T7, L7, k7, n7⟩, -, X7, ⟨Lc7, hQ7, l7, y7, z7⟩, st7⟩ := X6.virtualBack hx (y := (⟨"java/lang/String", "charAt", "(I)C"⟩ : MethodName)) (z := (⟨"java/lang/String", "charAt", "(I)C"⟩ : MethodName)) hown (mvT hZ (own_w hw 99 rfl)) (mvT hZ (own_w hw 100 rfl)) (notFace_of_selects (args := #[]) (mvT hZ (own_w hw 102 rfl))) (mvT hZ (own_w hw 102 rfl)) (mvT hZ (own_w hw 101 rfl)) (by decide) (backOf (W := 1) (ch l Z a0 hw [] a5 (2 : Int32) wC wF b5 cl (65 : Int32) h5 n0 Z5 S_C_c5 hC S_F_c5 hG Ea5 Fc5 Fv5 (by decide) (by decide) (own_A.of Va5) Ar hin hat) hZ (own_w hw 103 rfl) (own_w hw 92 rfl) (by decide) (by decide)) qk7a qk7c (g := (mkF m 133 #[.val (.ref r0), .val (.int 5), .val (.int 65)] [(.int 2), (.ref a5), (.int 65)])) rfl (by rw [hml]; rfl) (Steps.refl _) (argsL := [(.int 2)]) (rest := [(.int 65)]) (lenOf pd1 rfl) rfl (by show 2 * 0 + _ ≤ _; exact Nat.le_of_eq rfl) (hb hby d8_133) (fun _ _ => ⟨rfl, e6, (by decide : 2 + 0 ≤ _), (by decide : 28 + 0 ≤ _)⟩)
  dsimp only [Pt.U, Pt.locs, Pt.cells, Pt.slots] at X7 l7 y7 z7 st7 hQ7
  subst l7 y7 z7
  obtain ⟨rfl, Nq7, e7⟩ := hQ7
  have N7 := Fr.app N4 Nq7
  refine own_g (T7.setTop (mkF m 136 #[.val (.ref r0), .val (.int 5), .val (.int 65)] [(.int (nar .char (nar .char (((65 : Int32) &&& (255 : Int32)).toUInt32.toUInt16.toUInt32.toInt32)))), (.int 65)])) (fun _ k => st7.trans k) ?_
  refine own_g (T7.setTop (mkF m 147 #[.val (.ref r0), .val (.int 5), .val (.int 65)] [])) (fun _ k => XS.icmpYes X7.here hx rfl (pc0 := 136) (pc' := 147) rfl (hb hby d8_136) rfl (teq (by decide : (65 : Int32) = (nar .char (nar .char (((65 : Int32) &&& (255 : Int32)).toUInt32.toUInt16.toUInt32.toInt32))))).1 (by decide) (by decide) k) ?_
  refine own_g (T7.setTop (mkF m 148 #[.val (.ref r0), .val (.int 5), .val (.int 65)] [(.ref r0)])) (fun _ k => XS.aloadN X7.here hx rfl (hb hby d8_147) rfl rfl k) ?_
  refine own_g (T7.setTop (mkF m 149 #[.val (.ref r0), .val (.int 5), .val (.int 65)] [(.ref r0), (.ref r0)])) (fun _ k => XS.dup X7.here hx rfl (hb hby d8_148) rfl rfl k) ?_
  obtain ⟨T8, X8, e8, st8⟩ := getF X7 hx hZ hown (host := "") (Or.inl (own_w hw 83 rfl)) Via.refl e7 (own_Gf G5 13 rfl rfl) (g := (mkF m 149 #[.val (.ref r0), .val (.int 5), .val (.int 65)] [(.ref r0), (.ref r0)])) rfl rfl (hb hby d8_149)
  refine own_g (T8.setTop (mkF m 152 #[.val (.ref r0), .val (.int 5), .val (.int 65)] [(.int 2), (.ref r0)])) (st8) ?_
  refine own_g (T8.setTop (mkF m 153 #[.val (.ref r0), .val (.int 5), .val (.int 65)] [(.int 1), (.int 2), (.ref r0)])) (fun _ k => XS.iconst X8.here hx rfl (hb hby d8_152) k) ?_
  refine own_g (T8.setTop (mkF m 154 #[.val (.ref r0), .val (.int 5), .val (.int 65)] [(.int ((2 : Int32) + (1 : Int32))), (.ref r0)])) (fun _ k => XS.iadd X8.here hx rfl (hb hby d8_153) rfl k) ?_
  rw [show ((2 : Int32) + (1 : Int32)) = (3 : Int32) from by decide]
  refine own_g (T8.setTop (mkF m 155 #[.val (.ref r0), .val (.int 5), .val (.int 65)] [(.int 3), (.ref r0), (.int 3)])) (fun _ k => XS.dupX1 X8.here hx rfl (hb hby d8_154) rfl rfl rfl k) ?_
  obtain ⟨T9, h9, X9, e9, W9, st9⟩ := putF X8 hx hZ hown (host := "") (Or.inl (own_w hw 83 rfl)) Via.refl e8 (own_Gf G5 13 rfl rfl) G5.1 (Or.inl (own_w hw 84 rfl)) (own_w hw 6 rfl) (ty := .int) (by decide) rfl rfl (g := (mkF m 155 #[.val (.ref r0), .val (.int 5), .val (.int 65)] [(.int 3), (.ref r0), (.int 3)])) rfl rfl (hb hby d8_155)
  have G9 : own_G Z h9 r0 [(.ref (sa 5)), x1, x2, x3, x4, (.ref u), x6, x7, x8, x9, x10, x11, x12, (.int 3), x14, x15, x16, x17, x18, x19, x20, x21, x22] := own_G.put hw G5 13 rfl (Nat.le_of_ble_eq_true rfl) W9
  have I9 : own_I Z h9 r0 u ku cu en EC w sa := I5.wr W9 G5.1
  have Ea5_c9 := Ea5.wr W9
  have Fc5_c9 := Fc5.other W9 (Or.inl ne_a5)
  have Fv5_c9 := Fv5.other W9 (Or.inl ne_a5)
  have Va5_c9 := Va5.other W9 ne_b5
  have S_C_c9 := S_C_c5.wr W9
  have S_F_c9 := S_F_c5.wr W9
  have N9 := Fr.snoc X9 N7 gn_r0
  have Z9 : n0 ≤ h9.size := Nat.le_trans Z5 (Keep.of_wr W9).1
  have K9 : Keep h0 h9 [r0] := K5.wr W9 (Or.inl (List.mem_of_getElem? (i := 0) rfl))
  have hCt9 := hCt5.trans (CHr.wr W9 (Safe.exa hZ.alike G5.1 (by decide) (by decide)) hCt5.1)
  refine own_g (T9.setTop (mkF m 158 #[.val (.ref r0), .val (.int 5), .val (.int 65)] [(.int 3)])) (st9) ?_
  refine own_g (T9.setTop (mkF m 160 #[.val (.ref r0), .val (.int 5), .val (.int 65)] [(.ref a5), (.int 3)])) (ldcAgain X9 hx hZ hown (own_w hw 91 rfl) hL5 (g := (mkF m 158 #[.val (.ref r0), .val (.int 5), .val (.int 65)] [(.int 3)])) rfl (hb hby d8_158)) ?_
  obtain ⟨cq10, kq10, qk10a, qk10b, qk10c⟩ := isOf hZ e9 Ea5_c9
  obtain ⟨_, _, ⟨T10, L10, k10, n10⟩, -, X10, ⟨Lc10, hQ10, l10, y10, z10⟩, st10⟩ := X9.virtualBack hx (y := (⟨"java/lang/String", "length", "()I"⟩ : MethodName)) (z := (⟨"java/lang/String", "length", "()I"⟩ : MethodName)) hown (mvT hZ (own_w hw 124 rfl)) (mvT hZ (own_w hw 125 rfl)) (notFace_of_selects (args := #[]) (mvT hZ (own_w hw 127 rfl))) (mvT hZ (own_w hw 127 rfl)) (mvT hZ (own_w hw 126 rfl)) (by decide) (backOf (W := 1) (len l Z a0 hw [] a5 wC b5 h9 n0 Z9 S_C_c9 hC Ea5_c9 Fc5_c9 Fv5_c9 (own_A.of Va5_c9)) hZ (own_w hw 128 rfl) (own_w hw 92 rfl) (by decide) (by decide)) qk10a qk10c (g := (mkF m 160 #[.val (.ref r0), .val (.int 5), .val (.int 65)] [(.ref a5), (.int 3)])) rfl (by rw [hml]; rfl) (Steps.refl _) (argsL := []) (rest := [(.int 3)]) (lenOf pd4 rfl) rfl (by show 2 * 0 + _ ≤ _; exact Nat.le_of_eq rfl) (hb hby d8_160) (fun _ _ => ⟨rfl, e9, (by decide : 2 + 0 ≤ _), (by decide : 28 + 0 ≤ _)⟩)
  dsimp only [Pt.U, Pt.locs, Pt.cells, Pt.slots] at X10 l10 y10 z10 st10 hQ10
  subst l10 y10 z10
  obtain ⟨rfl, Nq10, e10⟩ := hQ10
  have N10 := Fr.app N9 Nq10
  refine own_g (T10.setTop (mkF m 163 #[.val (.ref r0), .val (.int 5), .val (.int 65)] [(.int 6), (.int 3)])) (fun _ k => st10.trans k) ?_
  refine own_g (T10.setTop (mkF m 257 #[.val (.ref r0), .val (.int 5), .val (.int 65)] [])) (fun _ k => XS.icmpYes X10.here hx rfl (pc0 := 163) (pc' := 257) rfl (hb hby d8_163) rfl (feq (by decide : ¬ ((3 : Int32) = (6 : Int32)))).2 (by decide) (by decide) k) ?_
  refine own_g (T10.setTop (mkF m 258 #[.val (.ref r0), .val (.int 5), .val (.int 65)] [(.ref r0)])) (fun _ k => XS.aloadN X10.here hx rfl (hb hby d8_257) rfl rfl k) ?_
  refine own_g (T10.setTop (mkF m 259 #[.val (.ref r0), .val (.int 5), .val (.int 65)] [(.int 65), (.ref r0)])) (fun _ k => XS.iloadN X10.here hx rfl (hb hby d8_258) rfl k) ?_
  refine own_g (T10.setTop (mkF m 260 #[.val (.ref r0), .val (.int 5), .val (.int 65)] [(.int 5), (.int 65), (.ref r0)])) (fun _ k => XS.iloadN X10.here hx rfl (hb hby d8_259) rfl k) ?_
  obtain ⟨cq11, qk11, qk11'⟩ := G9.1.cell
  obtain ⟨_, _, ⟨T11, L11, k11, n11⟩, -, X11, ⟨Lc11, hQ11, l11, y11, z11⟩, st11⟩ := X10.privateBack hx (y := (⟨"com/example/corridor/corridor/iso20022/MarkupScanner", "lineEnd", "(CI)V"⟩ : MethodName)) hown (mvT hZ (own_w hw 87 rfl)) (mvT hZ (own_w hw 88 rfl)) (mvT hZ (own_selPriv (own_w hw 88 rfl) (own_w hw 89 rfl) (own_w hw 30 rfl) rfl (by decide))) (Cond.privateMethod_at (mvP hZ (own_w hw 89 rfl) (args := #[]))) (mvT hZ (own_w hw 90 rfl)) (by decide) (backOf (W := 0) (leg l Z a0 hw [] r0 (65 : Int32) (5 : Int32) u ku cu en EC w sa (.ref (sa 5)) x1 x2 x3 x4 (.ref u) x6 x7 x8 x9 x10 x11 x12 (.int 3) x14 x15 x16 x17 x18 x19 x20 x21 x22 h9 n0 Z9 I9 G9 gn_r0 (by decide)) hZ (own_w hw 90 rfl) (own_w hw 7 rfl) (by decide) (by decide)) (g := (mkF m 260 #[.val (.ref r0), .val (.int 5), .val (.int 65)] [(.int 5), (.int 65), (.ref r0)])) rfl (by rw [hml]; rfl) (Steps.refl _) (a := r0) (by rw [e10]; exact qk11) qk11' (argsL := [(.int 65), (.int 5)]) (rest := []) (lenOf pd5 rfl) rfl (by show 2 * 0 + _ ≤ _; exact Nat.le_of_eq rfl) (hb hby d8_260) (fun _ _ => ⟨rfl, e10, (by decide : 2 + 0 ≤ _), (by decide : 28 + 0 ≤ _)⟩)
  dsimp only [Pt.U, Pt.locs, Pt.cells, Pt.slots] at X11 l11 y11 z11 st11 hQ11
  subst l11 y11 z11
  obtain ⟨rfl, Nq11, e11⟩ := hQ11
  have N11 := Fr.app N10 Nq11
  refine own_g (T11.setTop (mkF m 263 #[.val (.ref r0), .val (.int 5), .val (.int 65)] [])) (fun _ k => st11.trans k) ?_
  refine own_g (T11.setTop (mkF m 264 #[.val (.ref r0), .val (.int 5), .val (.int 65)] [(.int 5)])) (fun _ k => XS.iloadN X11.here hx rfl (hb hby d8_263) rfl k) ?_
  refine own_g (T11.setTop (mkF m 265 #[.val (.ref r0), .val (.int 5), .val (.int 65)] [(.int 1), (.int 5)])) (fun _ k => XS.iconst X11.here hx rfl (hb hby d8_264) k) ?_
  refine own_g (T11.setTop (mkF m 266 #[.val (.ref r0), .val (.int 5), .val (.int 65)] [(.int ((5 : Int32) + (1 : Int32)))])) (fun _ k => XS.iadd X11.here hx rfl (hb hby d8_265) rfl k) ?_
  rw [show ((5 : Int32) + (1 : Int32)) = (6 : Int32) from by decide]
  exact own_retIW X11 hx Bd.returns (hb hby d8_266) Bd.notSynchronized hS5 (by rw [e11]; exact (Nat.le_trans hk5 (Keep.of_wr W9).1)) hZ hEL (by rw [e11]; exact hCt9) (by decide) (by decide) (by rw [e11]; exact ⟨rfl, N11, K9, G9⟩)
theorem ef_oth6 (m : MethodId) (r0 : Addr) : entryFrame m #[(.ref r0), (.int 6)] 3 = mkF m 0 #[.val (.ref r0), .val (.int 6), .unset] [] := by first | (simp [entryFrame, mkF, argsToLocals, Value.category]; done) | rfl
set_option maxRecDepth 65536 in
set_option maxHeartbeats 40000000 in
theorem oth6 (l : Launch) (Z : State) (a0 : Array Value) (hw : ∀ d ∈ tables_1, d.before a0 Z = true) (ws : List Jvm.Cond) (r0 : Addr) (u : Addr) (ku : ClassId) (cu : Int32) (en : Addr) (EC : String) (w : Int32) (sa : Nat → Addr) (wC : Int32) (wF : Value) (x1 : Value) (x2 : Value) (x3 : Value) (x4 : Value) (x6 : Value) (x7 : Value) (x8 : Value) (x9 : Value) (x10 : Value) (x11 : Value) (x12 : Value) (x14 : Value) (x15 : Value) (x16 : Value) (x17 : Value) (x18 : Value) (x19 : Value) (x20 : Value) (x21 : Value) (x22 : Value) (h0 : Heap) (n0 : Nat) (Z0 : n0 ≤ h0.size) (I : own_I Z h0 r0 u ku cu en EC w sa) (G : own_G Z h0 r0 [(.ref (sa 5)), x1, x2, x3, x4, (.ref u), x6, x7, x8, x9, x10, x11, x12, (.int 3), x14, x15, x16, x17, x18, x19, x20, x21, x22]) (gn_r0 : n0 ≤ r0) (hEL : EW Z a0 own_EL) (hStr : ∀ a ∈ Bundle.stringAtoms, a.before a0 Z = true) (S_C : Sta Z h0 "java/lang/String" "COMPACT_STRINGS" "Z" (.int wC)) (hC : ¬ (wC = (0 : Int32))) (S_F : Sta Z h0 "jdk/internal/util/Preconditions" "SIOOBE_FORMATTER" "Ljava/util/function/BiFunction;" wF) (hG : wF.isRef = true) :
    MetFree l (⟨"com/example/corridor/corridor/iso20022/MarkupScanner", "other", "(I)I"⟩ : MethodName) (head1 (Jvm.Cond.code (⟨"com/example/corridor/corridor/iso20022/MarkupScanner", "other", "(I)I"⟩ : MethodName) prog_34_method_24_code 3 (some .int) :: ws) ({ frames := 4, cells := 2, slots := 28, locals := 54 } : Room)) (fun a U => a = #[(.ref r0), (.int 6)] ∧ Z.Warmed39 U.vm ∧ U.heap = h0 ∧ CHv Z own_EL U.vm h0) (fun _ _ _ _ _ => True) (fun _ U o U' => ∃ v L, o = .returned v ∧ (own_QG Z r0 n0 h0 (some (.int 7)) [(.ref (sa 5)), x1, x2, x3, x4, (.ref u), x6, x7, x8, x9, x10, x11, x12, (.int 4), x14, x15, x16, x17, x18, x19, x20, x21, x22]) v U'.heap L ∧ CHr Z own_EL U.vm U.heap U'.vm U'.heap ∧ ReturnedEndW U o U' L 2 28) := by
  refine MetFree.of_bodySF (plainFor_of_name pn8) hisR ?_
  intro p e s m args below meth c s₁ Bd hml0 hP hK
  obtain ⟨rfl, hZ, hh, hCH⟩ := hP
  have hx := Bd.exec
  have hby := Bd.bytes
  have hml : c.maxLocals = 3 := hml0
  have hown : s.vm.findClass "com/example/corridor/corridor/iso20022/MarkupScanner" = some m.cls := findClass_of_methodNamed Bd.named
  have hnm := (name_of_methodNamed Bd.named Bd.method).1
  have X0 : Stand p l e ({ frames := 4, cells := 2, slots := 28, locals := 54 } : Room) (s.setVm s.vm) m #[(.ref r0), (.int 6)] below meth c s₁ [] 0 0 := Stand.of_body Bd
  have e0 : s₁.heap = h0 := by rw [← hh, Bd.state]; rfl
  have N0 := Fr.nil n0
  have hS0 : s.Since s.vm 0 := (State.WarmedH.refl s).since 0
  have hC0 : CHr Z own_EL s.vm s.heap s.vm h0 := by rw [hh]; exact CHr.refl hCH
  have K0 : Keep h0 h0 [r0] := Keep.refl h0 [r0]
  show own_Goes p e below (own_EndW s Z own_EL (own_QG Z r0 n0 h0 (some (.int 7)) [(.ref (sa 5)), x1, x2, x3, x4, (.ref u), x6, x7, x8, x9, x10, x11, x12, (.int 4), x14, x15, x16, x17, x18, x19, x20, x21, x22]) 2 28) _
  refine own_g (s₁.setTop (mkF m 0 #[.val (.ref r0), .val (.int 6), .unset] [])) (fun t k => castTop (ef_oth6 m r0) k) ?_
  refine own_g (s₁.setTop (mkF m 1 #[.val (.ref r0), .val (.int 6), .unset] [(.ref r0)])) (fun _ k => XS.aloadN X0.here hx rfl (hb hby d8_0) rfl rfl k) ?_
  obtain ⟨T1, X1, e1, st1⟩ := getF X0 hx hZ hown (host := "") (Or.inl (own_w hw 32 rfl)) Via.refl e0 (own_Gf G 5 rfl rfl) (g := (mkF m 1 #[.val (.ref r0), .val (.int 6), .unset] [(.ref r0)])) rfl rfl (hb hby d8_1)
  refine own_g (T1.setTop (mkF m 4 #[.val (.ref r0), .val (.int 6), .unset] [(.ref u)])) (st1) ?_
  refine own_g (T1.setTop (mkF m 5 #[.val (.ref r0), .val (.int 6), .unset] [(.int 6), (.ref u)])) (fun _ k => XS.iloadN X1.here hx rfl (hb hby d8_4) rfl k) ?_
  obtain ⟨cl2, Ar2, hin2, hat2⟩ := own_I.at I (6 : Int32) (by decide) (by decide)
  refine own_g (T1.setTop (mkF m 6 #[.val (.ref r0), .val (.int 6), .unset] [(.int 84)])) (X1.caload hx (j := (6 : Int32)) (v := (.int 84)) (by rw [e1]; exact Ar2.1) (State.isArrayOf_alike hZ.alike Ar2.2.1) Ar2.2.2 hin2 hat2 (g := (mkF m 5 #[.val (.ref r0), .val (.int 6), .unset] [(.int 6), (.ref u)])) rfl rfl (hb hby d8_5)) ?_
  refine own_g (T1.setTop (mkF m 7 #[.val (.ref r0), .val (.int 6), .val (.int 84)] [])) (fun _ k => XS.istoreN X1.here hx rfl (hb hby d8_6) rfl (l' := #[.val (.ref r0), .val (.int 6), .val (.int 84)]) rfl k) ?_
  refine own_g (T1.setTop (mkF m 8 #[.val (.ref r0), .val (.int 6), .val (.int 84)] [(.ref r0)])) (fun _ k => XS.aloadN X1.here hx rfl (hb hby d8_7) rfl rfl k) ?_
  obtain ⟨T3, X3, e3, st3⟩ := getF X1 hx hZ hown (host := "") (Or.inl (own_w hw 17 rfl)) Via.refl e1 (own_Gf G 0 rfl rfl) (g := (mkF m 8 #[.val (.ref r0), .val (.int 6), .val (.int 84)] [(.ref r0)])) rfl rfl (hb hby d8_8)
  refine own_g (T3.setTop (mkF m 11 #[.val (.ref r0), .val (.int 6), .val (.int 84)] [(.ref (sa 5))])) (st3) ?_
  obtain ⟨cq4, kq4, qk4a, qk4b, qk4c⟩ := isOf hZ e3 (show Exa Z h0 (sa 5) "com/example/corridor/corridor/iso20022/MarkupScanner$State" from (I.1 4 _ rfl).2.1)
  obtain ⟨_, _, ⟨T4, L4, k4, n4⟩, -, X4, ⟨Lc4, hQ4, l4, y4, z4⟩, st4⟩ := X3.virtualBackUp hx (x := (⟨"com/example/corridor/corridor/iso20022/MarkupScanner$State", "ordinal", "()I"⟩ : MethodName)) (y := (⟨"java/lang/Enum", "ordinal", "()I"⟩ : MethodName)) (owner := "java/lang/Enum") hown (mvT hZ (own_w hw 56 rfl)) (mvT hZ (own_w hw 57 rfl)) (mvT hZ (own_w hw 58 rfl)) (by decide) (mvT hZ (own_w hw 60 rfl)) (mvT hZ (own_w hw 59 rfl)) (backOf (W := 0) (ord l Z a0 hw [] (sa 5) (5 : Int32) h0 n0 Z0 (show Fld Z h0 (sa 5) "java/lang/Enum" "ordinal" "I" (.int 5) from (I.1 4 _ rfl).2.2.1)) hZ (own_w hw 62 rfl) (own_w hw 61 rfl) (by decide) (by decide)) qk4a qk4c (g := (mkF m 11 #[.val (.ref r0), .val (.int 6), .val (.int 84)] [(.ref (sa 5))])) rfl (by rw [hml]; rfl) (Steps.refl _) (argsL := []) (rest := []) (lenOf pd4 rfl) rfl (by show 2 * 0 + _ ≤ _; exact Nat.le_of_eq rfl) (hb hby d8_11) (fun _ _ => ⟨rfl, e3, (by decide : 0 + 0 ≤ _), (by decide : 0 + 0 ≤ _)⟩)
  dsimp only [Pt.U, Pt.locs, Pt.cells, Pt.slots] at X4 l4 y4 z4 st4 hQ4
  subst l4 y4 z4
  obtain ⟨rfl, Nq4, e4⟩ := hQ4
  have N4 := Fr.app N0 Nq4
  refine own_g (T4.setTop (mkF m 14 #[.val (.ref r0), .val (.int 6), .val (.int 84)] [(.int 5)])) (fun _ k => st4.trans k) ?_
  refine own_g (T4.setTop (mkF m 126 #[.val (.ref r0), .val (.int 6), .val (.int 84)] [])) (fun _ k => XS.tswIn X4.here hx rfl (pc0 := 14) (pc' := 126) (o := 112) rfl (hb hby d8_14) rfl (by decide) rfl (by decide) (by decide) k) ?_
  refine own_g (T4.setTop (mkF m 127 #[.val (.ref r0), .val (.int 6), .val (.int 84)] [(.int 84)])) (fun _ k => XS.iloadN X4.here hx rfl (hb hby d8_126) rfl k) ?_
  obtain ⟨a5, T5, h5, k1_5, b5, k5, X5, e5, E5, hS5, hk5, hZ, hown, Ea5, Fc5, Fv5, Va5, la5, lb5, hC5, hL5, hSf5, st5⟩ := ldcCH (s := s) (vm0 := s.vm) X4 hx hZ hown (own_w hw 91 rfl) hStr e4 hS0 (Nat.zero_le _) hEL (by simp [own_EL]) hC0.1 (vs := [(.int 67), (.int 68), (.int 65), (.int 84), (.int 65), (.int 91)]) (z := (6 : Int32)) ⟨by decide, by decide⟩ (by decide) rfl (g := (mkF m 127 #[.val (.ref r0), .val (.int 6), .val (.int 84)] [(.int 84)])) rfl (hb hby d8_127) (n := 24) (by decide) (by decide) (by decide) (by decide)
  have G5 : own_G Z h5 r0 [(.ref (sa 5)), x1, x2, x3, x4, (.ref u), x6, x7, x8, x9, x10, x11, x12, (.int 3), x14, x15, x16, x17, x18, x19, x20, x21, x22] := G.ext E5
  have I5 : own_I Z h5 r0 u ku cu en EC w sa := I.ext E5
  have S_C_c5 := S_C.ext E5
  have S_F_c5 := S_F.ext E5
  have Z5 : n0 ≤ h5.size := Nat.le_trans Z0 E5.1
  have K5 : Keep h0 h5 [r0] := K0.ext E5
  have hCt5 := hC0.trans hC5
  refine own_g (T5.setTop (mkF m 129 #[.val (.ref r0), .val (.int 6), .val (.int 84)] [(.ref a5), (.int 84)])) (st5) ?_
  have ne_a5 : a5 ≠ r0 := (Exa.ne G5.1 Ea5 (by decide)).symm
  have ne_b5 : b5 ≠ r0 := (Exa.neArv G5.1 Va5 (own_w hw 6 rfl)).symm
  refine own_g (T5.setTop (mkF m 130 #[.val (.ref r0), .val (.int 6), .val (.int 84)] [(.ref r0), (.ref a5), (.int 84)])) (fun _ k => XS.aloadN X5.here hx rfl (hb hby d8_129) rfl rfl k) ?_
  obtain ⟨T6, X6, e6, st6⟩ := getF X5 hx hZ hown (host := "") (Or.inl (own_w hw 83 rfl)) Via.refl e5 (own_Gf G5 13 rfl rfl) (g := (mkF m 130 #[.val (.ref r0), .val (.int 6), .val (.int 84)] [(.ref r0), (.ref a5), (.int 84)])) rfl rfl (hb hby d8_130)
  refine own_g (T6.setTop (mkF m 133 #[.val (.ref r0), .val (.int 6), .val (.int 84)] [(.int 3), (.ref a5), (.int 84)])) (st6) ?_
  obtain ⟨cl, Ar, q_cl, S_cl, N_cl, Ha_cl, G_cl⟩ := id Va5
  have hin : ¬ ((3 : Int32) < 0 ∨ cl.slots.size ≤ ((3 : Int32)).toNatClampNeg) := inb_of S_cl ⟨by decide, by decide⟩
  have hat : cl.slots[((3 : Int32)).toNatClampNeg]? = some (.int 84) := Ha_cl.at hin rfl
  obtain ⟨cq7, kq7, qk7a, qk7b, qk7c⟩ := isOf hZ e6 Ea5
  obtain ⟨_, _, ⟨T7, L7, k7, n7⟩, -, X7, ⟨Lc7, hQ7, l7, y7, z7⟩, st7⟩ := X6.virtualBack hx (y := (⟨"java/lang/String", "charAt", "(I)C"⟩ : MethodName)) (z := (⟨"java/lang/String", "charAt", "(I)C"⟩ : MethodName)) hown (mvT hZ (own_w hw 99 rfl)) (mvT hZ (own_w hw 100 rfl)) (notFace_of_selects (args := #[]) (mvT hZ (own_w hw 102 rfl))) (mvT hZ (own_w hw 102 rfl)) (mvT hZ (own_w hw 101 rfl)) (by decide) (backOf (W := 1) (ch l Z a0 hw [] a5 (3 : Int32) wC wF b5 cl (84 : Int32) h5 n0 Z5 S_C_c5 hC S_F_c5 hG Ea5 Fc5 Fv5 (by decide) (by decide) (own_A.of Va5) Ar hin hat) hZ (own_w hw 103 rfl) (own_w hw 92 rfl) (by decide) (by decide)) qk7a qk7c (g := (mkF m 133 #[.val (.ref r0), .val (.int 6), .val (.int 84)] [(.int 3), (.ref a5), (.int 84)])) rfl (by rw [hml]; rfl) (Steps.refl _) (argsL := [(.int 3)]) (rest := [(.int 84)]) (lenOf pd1 rfl) rfl (by show 2 * 0 + _ ≤ _; exact Nat.le_of_eq rfl) (hb hby d8_133) (fun _ _ => ⟨rfl, e6, (by decide : 2 + 0 ≤ _), (by decide : 28 + 0 ≤ _)⟩)
  dsimp only [Pt.U, Pt.locs, Pt.cells, Pt.slots] at X7 l7 y7 z7 st7 hQ7
  subst l7 y7 z7
  obtain ⟨rfl, Nq7, e7⟩ := hQ7
  have N7 := Fr.app N4 Nq7
  refine own_g (T7.setTop (mkF m 136 #[.val (.ref r0), .val (.int 6), .val (.int 84)] [(.int (nar .char (nar .char (((84 : Int32) &&& (255 : Int32)).toUInt32.toUInt16.toUInt32.toInt32)))), (.int 84)])) (fun _ k => st7.trans k) ?_
  refine own_g (T7.setTop (mkF m 147 #[.val (.ref r0), .val (.int 6), .val (.int 84)] [])) (fun _ k => XS.icmpYes X7.here hx rfl (pc0 := 136) (pc' := 147) rfl (hb hby d8_136) rfl (teq (by decide : (84 : Int32) = (nar .char (nar .char (((84 : Int32) &&& (255 : Int32)).toUInt32.toUInt16.toUInt32.toInt32))))).1 (by decide) (by decide) k) ?_
  refine own_g (T7.setTop (mkF m 148 #[.val (.ref r0), .val (.int 6), .val (.int 84)] [(.ref r0)])) (fun _ k => XS.aloadN X7.here hx rfl (hb hby d8_147) rfl rfl k) ?_
  refine own_g (T7.setTop (mkF m 149 #[.val (.ref r0), .val (.int 6), .val (.int 84)] [(.ref r0), (.ref r0)])) (fun _ k => XS.dup X7.here hx rfl (hb hby d8_148) rfl rfl k) ?_
  obtain ⟨T8, X8, e8, st8⟩ := getF X7 hx hZ hown (host := "") (Or.inl (own_w hw 83 rfl)) Via.refl e7 (own_Gf G5 13 rfl rfl) (g := (mkF m 149 #[.val (.ref r0), .val (.int 6), .val (.int 84)] [(.ref r0), (.ref r0)])) rfl rfl (hb hby d8_149)
  refine own_g (T8.setTop (mkF m 152 #[.val (.ref r0), .val (.int 6), .val (.int 84)] [(.int 3), (.ref r0)])) (st8) ?_
  refine own_g (T8.setTop (mkF m 153 #[.val (.ref r0), .val (.int 6), .val (.int 84)] [(.int 1), (.int 3), (.ref r0)])) (fun _ k => XS.iconst X8.here hx rfl (hb hby d8_152) k) ?_
  refine own_g (T8.setTop (mkF m 154 #[.val (.ref r0), .val (.int 6), .val (.int 84)] [(.int ((3 : Int32) + (1 : Int32))), (.ref r0)])) (fun _ k => XS.iadd X8.here hx rfl (hb hby d8_153) rfl k) ?_
  rw [show ((3 : Int32) + (1 : Int32)) = (4 : Int32) from by decide]
  refine own_g (T8.setTop (mkF m 155 #[.val (.ref r0), .val (.int 6), .val (.int 84)] [(.int 4), (.ref r0), (.int 4)])) (fun _ k => XS.dupX1 X8.here hx rfl (hb hby d8_154) rfl rfl rfl k) ?_
  obtain ⟨T9, h9, X9, e9, W9, st9⟩ := putF X8 hx hZ hown (host := "") (Or.inl (own_w hw 83 rfl)) Via.refl e8 (own_Gf G5 13 rfl rfl) G5.1 (Or.inl (own_w hw 84 rfl)) (own_w hw 6 rfl) (ty := .int) (by decide) rfl rfl (g := (mkF m 155 #[.val (.ref r0), .val (.int 6), .val (.int 84)] [(.int 4), (.ref r0), (.int 4)])) rfl rfl (hb hby d8_155)
  have G9 : own_G Z h9 r0 [(.ref (sa 5)), x1, x2, x3, x4, (.ref u), x6, x7, x8, x9, x10, x11, x12, (.int 4), x14, x15, x16, x17, x18, x19, x20, x21, x22] := own_G.put hw G5 13 rfl (Nat.le_of_ble_eq_true rfl) W9
  have I9 : own_I Z h9 r0 u ku cu en EC w sa := I5.wr W9 G5.1
  have Ea5_c9 := Ea5.wr W9
  have Fc5_c9 := Fc5.other W9 (Or.inl ne_a5)
  have Fv5_c9 := Fv5.other W9 (Or.inl ne_a5)
  have Va5_c9 := Va5.other W9 ne_b5
  have S_C_c9 := S_C_c5.wr W9
  have S_F_c9 := S_F_c5.wr W9
  have N9 := Fr.snoc X9 N7 gn_r0
  have Z9 : n0 ≤ h9.size := Nat.le_trans Z5 (Keep.of_wr W9).1
  have K9 : Keep h0 h9 [r0] := K5.wr W9 (Or.inl (List.mem_of_getElem? (i := 0) rfl))
  have hCt9 := hCt5.trans (CHr.wr W9 (Safe.exa hZ.alike G5.1 (by decide) (by decide)) hCt5.1)
  refine own_g (T9.setTop (mkF m 158 #[.val (.ref r0), .val (.int 6), .val (.int 84)] [(.int 4)])) (st9) ?_
  refine own_g (T9.setTop (mkF m 160 #[.val (.ref r0), .val (.int 6), .val (.int 84)] [(.ref a5), (.int 4)])) (ldcAgain X9 hx hZ hown (own_w hw 91 rfl) hL5 (g := (mkF m 158 #[.val (.ref r0), .val (.int 6), .val (.int 84)] [(.int 4)])) rfl (hb hby d8_158)) ?_
  obtain ⟨cq10, kq10, qk10a, qk10b, qk10c⟩ := isOf hZ e9 Ea5_c9
  obtain ⟨_, _, ⟨T10, L10, k10, n10⟩, -, X10, ⟨Lc10, hQ10, l10, y10, z10⟩, st10⟩ := X9.virtualBack hx (y := (⟨"java/lang/String", "length", "()I"⟩ : MethodName)) (z := (⟨"java/lang/String", "length", "()I"⟩ : MethodName)) hown (mvT hZ (own_w hw 124 rfl)) (mvT hZ (own_w hw 125 rfl)) (notFace_of_selects (args := #[]) (mvT hZ (own_w hw 127 rfl))) (mvT hZ (own_w hw 127 rfl)) (mvT hZ (own_w hw 126 rfl)) (by decide) (backOf (W := 1) (len l Z a0 hw [] a5 wC b5 h9 n0 Z9 S_C_c9 hC Ea5_c9 Fc5_c9 Fv5_c9 (own_A.of Va5_c9)) hZ (own_w hw 128 rfl) (own_w hw 92 rfl) (by decide) (by decide)) qk10a qk10c (g := (mkF m 160 #[.val (.ref r0), .val (.int 6), .val (.int 84)] [(.ref a5), (.int 4)])) rfl (by rw [hml]; rfl) (Steps.refl _) (argsL := []) (rest := [(.int 4)]) (lenOf pd4 rfl) rfl (by show 2 * 0 + _ ≤ _; exact Nat.le_of_eq rfl) (hb hby d8_160) (fun _ _ => ⟨rfl, e9, (by decide : 2 + 0 ≤ _), (by decide : 28 + 0 ≤ _)⟩)
  dsimp only [Pt.U, Pt.locs, Pt.cells, Pt.slots] at X10 l10 y10 z10 st10 hQ10
  subst l10 y10 z10
  obtain ⟨rfl, Nq10, e10⟩ := hQ10
  have N10 := Fr.app N9 Nq10
  refine own_g (T10.setTop (mkF m 163 #[.val (.ref r0), .val (.int 6), .val (.int 84)] [(.int 6), (.int 4)])) (fun _ k => st10.trans k) ?_
  refine own_g (T10.setTop (mkF m 257 #[.val (.ref r0), .val (.int 6), .val (.int 84)] [])) (fun _ k => XS.icmpYes X10.here hx rfl (pc0 := 163) (pc' := 257) rfl (hb hby d8_163) rfl (feq (by decide : ¬ ((4 : Int32) = (6 : Int32)))).2 (by decide) (by decide) k) ?_
  refine own_g (T10.setTop (mkF m 258 #[.val (.ref r0), .val (.int 6), .val (.int 84)] [(.ref r0)])) (fun _ k => XS.aloadN X10.here hx rfl (hb hby d8_257) rfl rfl k) ?_
  refine own_g (T10.setTop (mkF m 259 #[.val (.ref r0), .val (.int 6), .val (.int 84)] [(.int 84), (.ref r0)])) (fun _ k => XS.iloadN X10.here hx rfl (hb hby d8_258) rfl k) ?_
  refine own_g (T10.setTop (mkF m 260 #[.val (.ref r0), .val (.int 6), .val (.int 84)] [(.int 6), (.int 84), (.ref r0)])) (fun _ k => XS.iloadN X10.here hx rfl (hb hby d8_259) rfl k) ?_
  obtain ⟨cq11, qk11, qk11'⟩ := G9.1.cell
  obtain ⟨_, _, ⟨T11, L11, k11, n11⟩, -, X11, ⟨Lc11, hQ11, l11, y11, z11⟩, st11⟩ := X10.privateBack hx (y := (⟨"com/example/corridor/corridor/iso20022/MarkupScanner", "lineEnd", "(CI)V"⟩ : MethodName)) hown (mvT hZ (own_w hw 87 rfl)) (mvT hZ (own_w hw 88 rfl)) (mvT hZ (own_selPriv (own_w hw 88 rfl) (own_w hw 89 rfl) (own_w hw 30 rfl) rfl (by decide))) (Cond.privateMethod_at (mvP hZ (own_w hw 89 rfl) (args := #[]))) (mvT hZ (own_w hw 90 rfl)) (by decide) (backOf (W := 0) (leg l Z a0 hw [] r0 (84 : Int32) (6 : Int32) u ku cu en EC w sa (.ref (sa 5)) x1 x2 x3 x4 (.ref u) x6 x7 x8 x9 x10 x11 x12 (.int 4) x14 x15 x16 x17 x18 x19 x20 x21 x22 h9 n0 Z9 I9 G9 gn_r0 (by decide)) hZ (own_w hw 90 rfl) (own_w hw 7 rfl) (by decide) (by decide)) (g := (mkF m 260 #[.val (.ref r0), .val (.int 6), .val (.int 84)] [(.int 6), (.int 84), (.ref r0)])) rfl (by rw [hml]; rfl) (Steps.refl _) (a := r0) (by rw [e10]; exact qk11) qk11' (argsL := [(.int 84), (.int 6)]) (rest := []) (lenOf pd5 rfl) rfl (by show 2 * 0 + _ ≤ _; exact Nat.le_of_eq rfl) (hb hby d8_260) (fun _ _ => ⟨rfl, e10, (by decide : 2 + 0 ≤ _), (by decide : 28 + 0 ≤ _)⟩)
  dsimp only [Pt.U, Pt.locs, Pt.cells, Pt.slots] at X11 l11 y11 z11 st11 hQ11
  subst l11 y11 z11
  obtain ⟨rfl, Nq11, e11⟩ := hQ11
  have N11 := Fr.app N10 Nq11
  refine own_g (T11.setTop (mkF m 263 #[.val (.ref r0), .val (.int 6), .val (.int 84)] [])) (fun _ k => st11.trans k) ?_
  refine own_g (T11.setTop (mkF m 264 #[.val (.ref r0), .val (.int 6), .val (.int 84)] [(.int 6)])) (fun _ k => XS.iloadN X11.here hx rfl (hb hby d8_263) rfl k) ?_
  refine own_g (T11.setTop (mkF m 265 #[.val (.ref r0), .val (.int 6), .val (.int 84)] [(.int 1), (.int 6)])) (fun _ k => XS.iconst X11.here hx rfl (hb hby d8_264) k) ?_
  refine own_g (T11.setTop (mkF m 266 #[.val (.ref r0), .val (.int 6), .val (.int 84)] [(.int ((6 : Int32) + (1 : Int32)))])) (fun _ k => XS.iadd X11.here hx rfl (hb hby d8_265) rfl k) ?_
  rw [show ((6 : Int32) + (1 : Int32)) = (7 : Int32) from by decide]
  exact own_retIW X11 hx Bd.returns (hb hby d8_266) Bd.notSynchronized hS5 (by rw [e11]; exact (Nat.le_trans hk5 (Keep.of_wr W9).1)) hZ hEL (by rw [e11]; exact hCt9) (by decide) (by decide) (by rw [e11]; exact ⟨rfl, N11, K9, G9⟩)
theorem ef_oth7 (m : MethodId) (r0 : Addr) : entryFrame m #[(.ref r0), (.int 7)] 3 = mkF m 0 #[.val (.ref r0), .val (.int 7), .unset] [] := by first | (simp [entryFrame, mkF, argsToLocals, Value.category]; done) | rfl
set_option maxRecDepth 65536 in
set_option maxHeartbeats 40000000 in
theorem oth7 (l : Launch) (Z : State) (a0 : Array Value) (hw : ∀ d ∈ tables_1, d.before a0 Z = true) (ws : List Jvm.Cond) (r0 : Addr) (u : Addr) (ku : ClassId) (cu : Int32) (en : Addr) (EC : String) (w : Int32) (sa : Nat → Addr) (wC : Int32) (wF : Value) (x1 : Value) (x2 : Value) (x3 : Value) (x4 : Value) (x6 : Value) (x7 : Value) (x8 : Value) (x9 : Value) (x10 : Value) (x11 : Value) (x12 : Value) (x14 : Value) (x15 : Value) (x16 : Value) (x17 : Value) (x18 : Value) (x19 : Value) (x20 : Value) (x21 : Value) (x22 : Value) (h0 : Heap) (n0 : Nat) (Z0 : n0 ≤ h0.size) (I : own_I Z h0 r0 u ku cu en EC w sa) (G : own_G Z h0 r0 [(.ref (sa 5)), x1, x2, x3, x4, (.ref u), x6, x7, x8, x9, x10, x11, x12, (.int 4), x14, x15, x16, x17, x18, x19, x20, x21, x22]) (gn_r0 : n0 ≤ r0) (hEL : EW Z a0 own_EL) (hStr : ∀ a ∈ Bundle.stringAtoms, a.before a0 Z = true) (S_C : Sta Z h0 "java/lang/String" "COMPACT_STRINGS" "Z" (.int wC)) (hC : ¬ (wC = (0 : Int32))) (S_F : Sta Z h0 "jdk/internal/util/Preconditions" "SIOOBE_FORMATTER" "Ljava/util/function/BiFunction;" wF) (hG : wF.isRef = true) :
    MetFree l (⟨"com/example/corridor/corridor/iso20022/MarkupScanner", "other", "(I)I"⟩ : MethodName) (head1 (Jvm.Cond.code (⟨"com/example/corridor/corridor/iso20022/MarkupScanner", "other", "(I)I"⟩ : MethodName) prog_34_method_24_code 3 (some .int) :: ws) ({ frames := 4, cells := 2, slots := 28, locals := 54 } : Room)) (fun a U => a = #[(.ref r0), (.int 7)] ∧ Z.Warmed39 U.vm ∧ U.heap = h0 ∧ CHv Z own_EL U.vm h0) (fun _ _ _ _ _ => True) (fun _ U o U' => ∃ v L, o = .returned v ∧ (own_QG Z r0 n0 h0 (some (.int 8)) [(.ref (sa 5)), x1, x2, x3, x4, (.ref u), x6, x7, x8, x9, x10, x11, x12, (.int 5), x14, x15, x16, x17, x18, x19, x20, x21, x22]) v U'.heap L ∧ CHr Z own_EL U.vm U.heap U'.vm U'.heap ∧ ReturnedEndW U o U' L 2 28) := by
  refine MetFree.of_bodySF (plainFor_of_name pn8) hisR ?_
  intro p e s m args below meth c s₁ Bd hml0 hP hK
  obtain ⟨rfl, hZ, hh, hCH⟩ := hP
  have hx := Bd.exec
  have hby := Bd.bytes
  have hml : c.maxLocals = 3 := hml0
  have hown : s.vm.findClass "com/example/corridor/corridor/iso20022/MarkupScanner" = some m.cls := findClass_of_methodNamed Bd.named
  have hnm := (name_of_methodNamed Bd.named Bd.method).1
  have X0 : Stand p l e ({ frames := 4, cells := 2, slots := 28, locals := 54 } : Room) (s.setVm s.vm) m #[(.ref r0), (.int 7)] below meth c s₁ [] 0 0 := Stand.of_body Bd
  have e0 : s₁.heap = h0 := by rw [← hh, Bd.state]; rfl
  have N0 := Fr.nil n0
  have hS0 : s.Since s.vm 0 := (State.WarmedH.refl s).since 0
  have hC0 : CHr Z own_EL s.vm s.heap s.vm h0 := by rw [hh]; exact CHr.refl hCH
  have K0 : Keep h0 h0 [r0] := Keep.refl h0 [r0]
  show own_Goes p e below (own_EndW s Z own_EL (own_QG Z r0 n0 h0 (some (.int 8)) [(.ref (sa 5)), x1, x2, x3, x4, (.ref u), x6, x7, x8, x9, x10, x11, x12, (.int 5), x14, x15, x16, x17, x18, x19, x20, x21, x22]) 2 28) _
  refine own_g (s₁.setTop (mkF m 0 #[.val (.ref r0), .val (.int 7), .unset] [])) (fun t k => castTop (ef_oth7 m r0) k) ?_
  refine own_g (s₁.setTop (mkF m 1 #[.val (.ref r0), .val (.int 7), .unset] [(.ref r0)])) (fun _ k => XS.aloadN X0.here hx rfl (hb hby d8_0) rfl rfl k) ?_
  obtain ⟨T1, X1, e1, st1⟩ := getF X0 hx hZ hown (host := "") (Or.inl (own_w hw 32 rfl)) Via.refl e0 (own_Gf G 5 rfl rfl) (g := (mkF m 1 #[.val (.ref r0), .val (.int 7), .unset] [(.ref r0)])) rfl rfl (hb hby d8_1)
  refine own_g (T1.setTop (mkF m 4 #[.val (.ref r0), .val (.int 7), .unset] [(.ref u)])) (st1) ?_
  refine own_g (T1.setTop (mkF m 5 #[.val (.ref r0), .val (.int 7), .unset] [(.int 7), (.ref u)])) (fun _ k => XS.iloadN X1.here hx rfl (hb hby d8_4) rfl k) ?_
  obtain ⟨cl2, Ar2, hin2, hat2⟩ := own_I.at I (7 : Int32) (by decide) (by decide)
  refine own_g (T1.setTop (mkF m 6 #[.val (.ref r0), .val (.int 7), .unset] [(.int 65)])) (X1.caload hx (j := (7 : Int32)) (v := (.int 65)) (by rw [e1]; exact Ar2.1) (State.isArrayOf_alike hZ.alike Ar2.2.1) Ar2.2.2 hin2 hat2 (g := (mkF m 5 #[.val (.ref r0), .val (.int 7), .unset] [(.int 7), (.ref u)])) rfl rfl (hb hby d8_5)) ?_
  refine own_g (T1.setTop (mkF m 7 #[.val (.ref r0), .val (.int 7), .val (.int 65)] [])) (fun _ k => XS.istoreN X1.here hx rfl (hb hby d8_6) rfl (l' := #[.val (.ref r0), .val (.int 7), .val (.int 65)]) rfl k) ?_
  refine own_g (T1.setTop (mkF m 8 #[.val (.ref r0), .val (.int 7), .val (.int 65)] [(.ref r0)])) (fun _ k => XS.aloadN X1.here hx rfl (hb hby d8_7) rfl rfl k) ?_
  obtain ⟨T3, X3, e3, st3⟩ := getF X1 hx hZ hown (host := "") (Or.inl (own_w hw 17 rfl)) Via.refl e1 (own_Gf G 0 rfl rfl) (g := (mkF m 8 #[.val (.ref r0), .val (.int 7), .val (.int 65)] [(.ref r0)])) rfl rfl (hb hby d8_8)
  refine own_g (T3.setTop (mkF m 11 #[.val (.ref r0), .val (.int 7), .val (.int 65)] [(.ref (sa 5))])) (st3) ?_
  obtain ⟨cq4, kq4, qk4a, qk4b, qk4c⟩ := isOf hZ e3 (show Exa Z h0 (sa 5) "com/example/corridor/corridor/iso20022/MarkupScanner$State" from (I.1 4 _ rfl).2.1)
  obtain ⟨_, _, ⟨T4, L4, k4, n4⟩, -, X4, ⟨Lc4, hQ4, l4, y4, z4⟩, st4⟩ := X3.virtualBackUp hx (x := (⟨"com/example/corridor/corridor/iso20022/MarkupScanner$State", "ordinal", "()I"⟩ : MethodName)) (y := (⟨"java/lang/Enum", "ordinal", "()I"⟩ : MethodName)) (owner := "java/lang/Enum") hown (mvT hZ (own_w hw 56 rfl)) (mvT hZ (own_w hw 57 rfl)) (mvT hZ (own_w hw 58 rfl)) (by decide) (mvT hZ (own_w hw 60 rfl)) (mvT hZ (own_w hw 59 rfl)) (backOf (W := 0) (ord l Z a0 hw [] (sa 5) (5 : Int32) h0 n0 Z0 (show Fld Z h0 (sa 5) "java/lang/Enum" "ordinal" "I" (.int 5) from (I.1 4 _ rfl).2.2.1)) hZ (own_w hw 62 rfl) (own_w hw 61 rfl) (by decide) (by decide)) qk4a qk4c (g := (mkF m 11 #[.val (.ref r0), .val (.int 7), .val (.int 65)] [(.ref (sa 5))])) rfl (by rw [hml]; rfl) (Steps.refl _) (argsL := []) (rest := []) (lenOf pd4 rfl) rfl (by show 2 * 0 + _ ≤ _; exact Nat.le_of_eq rfl) (hb hby d8_11) (fun _ _ => ⟨rfl, e3, (by decide : 0 + 0 ≤ _), (by decide : 0 + 0 ≤ _)⟩)
  dsimp only [Pt.U, Pt.locs, Pt.cells, Pt.slots] at X4 l4 y4 z4 st4 hQ4
  subst l4 y4 z4
  obtain ⟨rfl, Nq4, e4⟩ := hQ4
  have N4 := Fr.app N0 Nq4
  refine own_g (T4.setTop (mkF m 14 #[.val (.ref r0), .val (.int 7), .val (.int 65)] [(.int 5)])) (fun _ k => st4.trans k) ?_
  refine own_g (T4.setTop (mkF m 126 #[.val (.ref r0), .val (.int 7), .val (.int 65)] [])) (fun _ k => XS.tswIn X4.here hx rfl (pc0 := 14) (pc' := 126) (o := 112) rfl (hb hby d8_14) rfl (by decide) rfl (by decide) (by decide) k) ?_
  refine own_g (T4.setTop (mkF m 127 #[.val (.ref r0), .val (.int 7), .val (.int 65)] [(.int 65)])) (fun _ k => XS.iloadN X4.here hx rfl (hb hby d8_126) rfl k) ?_
  obtain ⟨a5, T5, h5, k1_5, b5, k5, X5, e5, E5, hS5, hk5, hZ, hown, Ea5, Fc5, Fv5, Va5, la5, lb5, hC5, hL5, hSf5, st5⟩ := ldcCH (s := s) (vm0 := s.vm) X4 hx hZ hown (own_w hw 91 rfl) hStr e4 hS0 (Nat.zero_le _) hEL (by simp [own_EL]) hC0.1 (vs := [(.int 67), (.int 68), (.int 65), (.int 84), (.int 65), (.int 91)]) (z := (6 : Int32)) ⟨by decide, by decide⟩ (by decide) rfl (g := (mkF m 127 #[.val (.ref r0), .val (.int 7), .val (.int 65)] [(.int 65)])) rfl (hb hby d8_127) (n := 24) (by decide) (by decide) (by decide) (by decide)
  have G5 : own_G Z h5 r0 [(.ref (sa 5)), x1, x2, x3, x4, (.ref u), x6, x7, x8, x9, x10, x11, x12, (.int 4), x14, x15, x16, x17, x18, x19, x20, x21, x22] := G.ext E5
  have I5 : own_I Z h5 r0 u ku cu en EC w sa := I.ext E5
  have S_C_c5 := S_C.ext E5
  have S_F_c5 := S_F.ext E5
  have Z5 : n0 ≤ h5.size := Nat.le_trans Z0 E5.1
  have K5 : Keep h0 h5 [r0] := K0.ext E5
  have hCt5 := hC0.trans hC5
  refine own_g (T5.setTop (mkF m 129 #[.val (.ref r0), .val (.int 7), .val (.int 65)] [(.ref a5), (.int 65)])) (st5) ?_
  have ne_a5 : a5 ≠ r0 := (Exa.ne G5.1 Ea5 (by decide)).symm
  have ne_b5 : b5 ≠ r0 := (Exa.neArv G5.1 Va5 (own_w hw 6 rfl)).symm
  refine own_g (T5.setTop (mkF m 130 #[.val (.ref r0), .val (.int 7), .val (.int 65)] [(.ref r0), (.ref a5), (.int 65)])) (fun _ k => XS.aloadN X5.here hx rfl (hb hby d8_129) rfl rfl k) ?_
  obtain ⟨T6, X6, e6, st6⟩ := getF X5 hx hZ hown (host := "") (Or.inl (own_w hw 83 rfl)) Via.refl e5 (own_Gf G5 13 rfl rfl) (g := (mkF m 130 #[.val (.ref r0), .val (.int 7), .val (.int 65)] [(.ref r0), (.ref a5), (.int 65)])) rfl rfl (hb hby d8_130)
  refine own_g (T6.setTop (mkF m 133 #[.val (.ref r0), .val (.int 7), .val (.int 65)] [(.int 4), (.ref a5), (.int 65)])) (st6) ?_
  obtain ⟨cl, Ar, q_cl, S_cl, N_cl, Ha_cl, G_cl⟩ := id Va5
  have hin : ¬ ((4 : Int32) < 0 ∨ cl.slots.size ≤ ((4 : Int32)).toNatClampNeg) := inb_of S_cl ⟨by decide, by decide⟩
  have hat : cl.slots[((4 : Int32)).toNatClampNeg]? = some (.int 65) := Ha_cl.at hin rfl
  obtain ⟨cq7, kq7, qk7a, qk7b, qk7c⟩ := isOf hZ e6 Ea5
  obtain ⟨_, _, ⟨T7, L7, k7, n7⟩, -, X7, ⟨Lc7, hQ7, l7, y7, z7⟩, st7⟩ := X6.virtualBack hx (y := (⟨"java/lang/String", "charAt", "(I)C"⟩ : MethodName)) (z := (⟨"java/lang/String", "charAt", "(I)C"⟩ : MethodName)) hown (mvT hZ (own_w hw 99 rfl)) (mvT hZ (own_w hw 100 rfl)) (notFace_of_selects (args := #[]) (mvT hZ (own_w hw 102 rfl))) (mvT hZ (own_w hw 102 rfl)) (mvT hZ (own_w hw 101 rfl)) (by decide) (backOf (W := 1) (ch l Z a0 hw [] a5 (4 : Int32) wC wF b5 cl (65 : Int32) h5 n0 Z5 S_C_c5 hC S_F_c5 hG Ea5 Fc5 Fv5 (by decide) (by decide) (own_A.of Va5) Ar hin hat) hZ (own_w hw 103 rfl) (own_w hw 92 rfl) (by decide) (by decide)) qk7a qk7c (g := (mkF m 133 #[.val (.ref r0), .val (.int 7), .val (.int 65)] [(.int 4), (.ref a5), (.int 65)])) rfl (by rw [hml]; rfl) (Steps.refl _) (argsL := [(.int 4)]) (rest := [(.int 65)]) (lenOf pd1 rfl) rfl (by show 2 * 0 + _ ≤ _; exact Nat.le_of_eq rfl) (hb hby d8_133) (fun _ _ => ⟨rfl, e6, (by decide : 2 + 0 ≤ _), (by decide : 28 + 0 ≤ _)⟩)
  dsimp only [Pt.U, Pt.locs, Pt.cells, Pt.slots] at X7 l7 y7 z7 st7 hQ7
  subst l7 y7 z7
  obtain ⟨rfl, Nq7, e7⟩ := hQ7
  have N7 := Fr.app N4 Nq7
  refine own_g (T7.setTop (mkF m 136 #[.val (.ref r0), .val (.int 7), .val (.int 65)] [(.int (nar .char (nar .char (((65 : Int32) &&& (255 : Int32)).toUInt32.toUInt16.toUInt32.toInt32)))), (.int 65)])) (fun _ k => st7.trans k) ?_
  refine own_g (T7.setTop (mkF m 147 #[.val (.ref r0), .val (.int 7), .val (.int 65)] [])) (fun _ k => XS.icmpYes X7.here hx rfl (pc0 := 136) (pc' := 147) rfl (hb hby d8_136) rfl (teq (by decide : (65 : Int32) = (nar .char (nar .char (((65 : Int32) &&& (255 : Int32)).toUInt32.toUInt16.toUInt32.toInt32))))).1 (by decide) (by decide) k) ?_
  refine own_g (T7.setTop (mkF m 148 #[.val (.ref r0), .val (.int 7), .val (.int 65)] [(.ref r0)])) (fun _ k => XS.aloadN X7.here hx rfl (hb hby d8_147) rfl rfl k) ?_
  refine own_g (T7.setTop (mkF m 149 #[.val (.ref r0), .val (.int 7), .val (.int 65)] [(.ref r0), (.ref r0)])) (fun _ k => XS.dup X7.here hx rfl (hb hby d8_148) rfl rfl k) ?_
  obtain ⟨T8, X8, e8, st8⟩ := getF X7 hx hZ hown (host := "") (Or.inl (own_w hw 83 rfl)) Via.refl e7 (own_Gf G5 13 rfl rfl) (g := (mkF m 149 #[.val (.ref r0), .val (.int 7), .val (.int 65)] [(.ref r0), (.ref r0)])) rfl rfl (hb hby d8_149)
  refine own_g (T8.setTop (mkF m 152 #[.val (.ref r0), .val (.int 7), .val (.int 65)] [(.int 4), (.ref r0)])) (st8) ?_
  refine own_g (T8.setTop (mkF m 153 #[.val (.ref r0), .val (.int 7), .val (.int 65)] [(.int 1), (.int 4), (.ref r0)])) (fun _ k => XS.iconst X8.here hx rfl (hb hby d8_152) k) ?_
  refine own_g (T8.setTop (mkF m 154 #[.val (.ref r0), .val (.int 7), .val (.int 65)] [(.int ((4 : Int32) + (1 : Int32))), (.ref r0)])) (fun _ k => XS.iadd X8.here hx rfl (hb hby d8_153) rfl k) ?_
  rw [show ((4 : Int32) + (1 : Int32)) = (5 : Int32) from by decide]
  refine own_g (T8.setTop (mkF m 155 #[.val (.ref r0), .val (.int 7), .val (.int 65)] [(.int 5), (.ref r0), (.int 5)])) (fun _ k => XS.dupX1 X8.here hx rfl (hb hby d8_154) rfl rfl rfl k) ?_
  obtain ⟨T9, h9, X9, e9, W9, st9⟩ := putF X8 hx hZ hown (host := "") (Or.inl (own_w hw 83 rfl)) Via.refl e8 (own_Gf G5 13 rfl rfl) G5.1 (Or.inl (own_w hw 84 rfl)) (own_w hw 6 rfl) (ty := .int) (by decide) rfl rfl (g := (mkF m 155 #[.val (.ref r0), .val (.int 7), .val (.int 65)] [(.int 5), (.ref r0), (.int 5)])) rfl rfl (hb hby d8_155)
  have G9 : own_G Z h9 r0 [(.ref (sa 5)), x1, x2, x3, x4, (.ref u), x6, x7, x8, x9, x10, x11, x12, (.int 5), x14, x15, x16, x17, x18, x19, x20, x21, x22] := own_G.put hw G5 13 rfl (Nat.le_of_ble_eq_true rfl) W9
  have I9 : own_I Z h9 r0 u ku cu en EC w sa := I5.wr W9 G5.1
  have Ea5_c9 := Ea5.wr W9
  have Fc5_c9 := Fc5.other W9 (Or.inl ne_a5)
  have Fv5_c9 := Fv5.other W9 (Or.inl ne_a5)
  have Va5_c9 := Va5.other W9 ne_b5
  have S_C_c9 := S_C_c5.wr W9
  have S_F_c9 := S_F_c5.wr W9
  have N9 := Fr.snoc X9 N7 gn_r0
  have Z9 : n0 ≤ h9.size := Nat.le_trans Z5 (Keep.of_wr W9).1
  have K9 : Keep h0 h9 [r0] := K5.wr W9 (Or.inl (List.mem_of_getElem? (i := 0) rfl))
  have hCt9 := hCt5.trans (CHr.wr W9 (Safe.exa hZ.alike G5.1 (by decide) (by decide)) hCt5.1)
  refine own_g (T9.setTop (mkF m 158 #[.val (.ref r0), .val (.int 7), .val (.int 65)] [(.int 5)])) (st9) ?_
  refine own_g (T9.setTop (mkF m 160 #[.val (.ref r0), .val (.int 7), .val (.int 65)] [(.ref a5), (.int 5)])) (ldcAgain X9 hx hZ hown (own_w hw 91 rfl) hL5 (g := (mkF m 158 #[.val (.ref r0), .val (.int 7), .val (.int 65)] [(.int 5)])) rfl (hb hby d8_158)) ?_
  obtain ⟨cq10, kq10, qk10a, qk10b, qk10c⟩ := isOf hZ e9 Ea5_c9
  obtain ⟨_, _, ⟨T10, L10, k10, n10⟩, -, X10, ⟨Lc10, hQ10, l10, y10, z10⟩, st10⟩ := X9.virtualBack hx (y := (⟨"java/lang/String", "length", "()I"⟩ : MethodName)) (z := (⟨"java/lang/String", "length", "()I"⟩ : MethodName)) hown (mvT hZ (own_w hw 124 rfl)) (mvT hZ (own_w hw 125 rfl)) (notFace_of_selects (args := #[]) (mvT hZ (own_w hw 127 rfl))) (mvT hZ (own_w hw 127 rfl)) (mvT hZ (own_w hw 126 rfl)) (by decide) (backOf (W := 1) (len l Z a0 hw [] a5 wC b5 h9 n0 Z9 S_C_c9 hC Ea5_c9 Fc5_c9 Fv5_c9 (own_A.of Va5_c9)) hZ (own_w hw 128 rfl) (own_w hw 92 rfl) (by decide) (by decide)) qk10a qk10c (g := (mkF m 160 #[.val (.ref r0), .val (.int 7), .val (.int 65)] [(.ref a5), (.int 5)])) rfl (by rw [hml]; rfl) (Steps.refl _) (argsL := []) (rest := [(.int 5)]) (lenOf pd4 rfl) rfl (by show 2 * 0 + _ ≤ _; exact Nat.le_of_eq rfl) (hb hby d8_160) (fun _ _ => ⟨rfl, e9, (by decide : 2 + 0 ≤ _), (by decide : 28 + 0 ≤ _)⟩)
  dsimp only [Pt.U, Pt.locs, Pt.cells, Pt.slots] at X10 l10 y10 z10 st10 hQ10
  subst l10 y10 z10
  obtain ⟨rfl, Nq10, e10⟩ := hQ10
  have N10 := Fr.app N9 Nq10
  refine own_g (T10.setTop (mkF m 163 #[.val (.ref r0), .val (.int 7), .val (.int 65)] [(.int 6), (.int 5)])) (fun _ k => st10.trans k) ?_
  refine own_g (T10.setTop (mkF m 257 #[.val (.ref r0), .val (.int 7), .val (.int 65)] [])) (fun _ k => XS.icmpYes X10.here hx rfl (pc0 := 163) (pc' := 257) rfl (hb hby d8_163) rfl (feq (by decide : ¬ ((5 : Int32) = (6 : Int32)))).2 (by decide) (by decide) k) ?_
  refine own_g (T10.setTop (mkF m 258 #[.val (.ref r0), .val (.int 7), .val (.int 65)] [(.ref r0)])) (fun _ k => XS.aloadN X10.here hx rfl (hb hby d8_257) rfl rfl k) ?_
  refine own_g (T10.setTop (mkF m 259 #[.val (.ref r0), .val (.int 7), .val (.int 65)] [(.int 65), (.ref r0)])) (fun _ k => XS.iloadN X10.here hx rfl (hb hby d8_258) rfl k) ?_
  refine own_g (T10.setTop (mkF m 260 #[.val (.ref r0), .val (.int 7), .val (.int 65)] [(.int 7), (.int 65), (.ref r0)])) (fun _ k => XS.iloadN X10.here hx rfl (hb hby d8_259) rfl k) ?_
  obtain ⟨cq11, qk11, qk11'⟩ := G9.1.cell
  obtain ⟨_, _, ⟨T11, L11, k11, n11⟩, -, X11, ⟨Lc11, hQ11, l11, y11, z11⟩, st11⟩ := X10.privateBack hx (y := (⟨"com/example/corridor/corridor/iso20022/MarkupScanner", "lineEnd", "(CI)V"⟩ : MethodName)) hown (mvT hZ (own_w hw 87 rfl)) (mvT hZ (own_w hw 88 rfl)) (mvT hZ (own_selPriv (own_w hw 88 rfl) (own_w hw 89 rfl) (own_w hw 30 rfl) rfl (by decide))) (Cond.privateMethod_at (mvP hZ (own_w hw 89 rfl) (args := #[]))) (mvT hZ (own_w hw 90 rfl)) (by decide) (backOf (W := 0) (leg l Z a0 hw [] r0 (65 : Int32) (7 : Int32) u ku cu en EC w sa (.ref (sa 5)) x1 x2 x3 x4 (.ref u) x6 x7 x8 x9 x10 x11 x12 (.int 5) x14 x15 x16 x17 x18 x19 x20 x21 x22 h9 n0 Z9 I9 G9 gn_r0 (by decide)) hZ (own_w hw 90 rfl) (own_w hw 7 rfl) (by decide) (by decide)) (g := (mkF m 260 #[.val (.ref r0), .val (.int 7), .val (.int 65)] [(.int 7), (.int 65), (.ref r0)])) rfl (by rw [hml]; rfl) (Steps.refl _) (a := r0) (by rw [e10]; exact qk11) qk11' (argsL := [(.int 65), (.int 7)]) (rest := []) (lenOf pd5 rfl) rfl (by show 2 * 0 + _ ≤ _; exact Nat.le_of_eq rfl) (hb hby d8_260) (fun _ _ => ⟨rfl, e10, (by decide : 2 + 0 ≤ _), (by decide : 28 + 0 ≤ _)⟩)
  dsimp only [Pt.U, Pt.locs, Pt.cells, Pt.slots] at X11 l11 y11 z11 st11 hQ11
  subst l11 y11 z11
  obtain ⟨rfl, Nq11, e11⟩ := hQ11
  have N11 := Fr.app N10 Nq11
  refine own_g (T11.setTop (mkF m 263 #[.val (.ref r0), .val (.int 7), .val (.int 65)] [])) (fun _ k => st11.trans k) ?_
  refine own_g (T11.setTop (mkF m 264 #[.val (.ref r0), .val (.int 7), .val (.int 65)] [(.int 7)])) (fun _ k => XS.iloadN X11.here hx rfl (hb hby d8_263) rfl k) ?_
  refine own_g (T11.setTop (mkF m 265 #[.val (.ref r0), .val (.int 7), .val (.int 65)] [(.int 1), (.int 7)])) (fun _ k => XS.iconst X11.here hx rfl (hb hby d8_264) k) ?_
  refine own_g (T11.setTop (mkF m 266 #[.val (.ref r0), .val (.int 7), .val (.int 65)] [(.int ((7 : Int32) + (1 : Int32)))])) (fun _ k => XS.iadd X11.here hx rfl (hb hby d8_265) rfl k) ?_
  rw [show ((7 : Int32) + (1 : Int32)) = (8 : Int32) from by decide]
  exact own_retIW X11 hx Bd.returns (hb hby d8_266) Bd.notSynchronized hS5 (by rw [e11]; exact (Nat.le_trans hk5 (Keep.of_wr W9).1)) hZ hEL (by rw [e11]; exact hCt9) (by decide) (by decide) (by rw [e11]; exact ⟨rfl, N11, K9, G9⟩)
theorem d8_166 : decode prog_34_method_24_code 166 = .ok (.aload_n 0, 1) := by decide +kernel
theorem d8_167 : decode prog_34_method_24_code 167 = .ok (.iconst 0, 1) := by decide +kernel
theorem d8_168 : decode prog_34_method_24_code 168 = .ok (.putfield 149, 3) := by decide +kernel
theorem d8_171 : decode prog_34_method_24_code 171 = .ok (.aload_n 0, 1) := by decide +kernel
theorem d8_172 : decode prog_34_method_24_code 172 = .ok (.iconst 0, 1) := by decide +kernel
theorem d8_173 : decode prog_34_method_24_code 173 = .ok (.putfield 105, 3) := by decide +kernel
theorem d8_176 : decode prog_34_method_24_code 176 = .ok (.aload_n 0, 1) := by decide +kernel
theorem d8_177 : decode prog_34_method_24_code 177 = .ok (.aload_n 0, 1) := by decide +kernel
theorem d8_178 : decode prog_34_method_24_code 178 = .ok (.iload_n 1, 1) := by decide +kernel
theorem d8_179 : decode prog_34_method_24_code 179 = .ok (.iconst 1, 1) := by decide +kernel
theorem d8_180 : decode prog_34_method_24_code 180 = .ok (.iadd, 1) := by decide +kernel
theorem d8_181 : decode prog_34_method_24_code 181 = .ok (.invokevirtual 92, 3) := by decide +kernel
theorem d8_184 : decode prog_34_method_24_code 184 = .ok (.putfield 114, 3) := by decide +kernel
theorem d8_187 : decode prog_34_method_24_code 187 = .ok (.aload_n 0, 1) := by decide +kernel
theorem d8_188 : decode prog_34_method_24_code 188 = .ok (.getstatic 228, 3) := by decide +kernel
theorem d8_191 : decode prog_34_method_24_code 191 = .ok (.putfield 13, 3) := by decide +kernel
theorem d8_194 : decode prog_34_method_24_code 194 = .ok (.goto 63, 3) := by decide +kernel
theorem ef_oth8 (m : MethodId) (r0 : Addr) : entryFrame m #[(.ref r0), (.int 8)] 3 = mkF m 0 #[.val (.ref r0), .val (.int 8), .unset] [] := by first | (simp [entryFrame, mkF, argsToLocals, Value.category]; done) | rfl
set_option maxRecDepth 65536 in
set_option maxHeartbeats 40000000 in
theorem oth8 (l : Launch) (Z : State) (a0 : Array Value) (hw : ∀ d ∈ tables_1, d.before a0 Z = true) (ws : List Jvm.Cond) (r0 : Addr) (u : Addr) (ku : ClassId) (cu : Int32) (en : Addr) (EC : String) (w : Int32) (sa : Nat → Addr) (wC : Int32) (wF : Value) (x1 : Value) (x2 : Value) (x3 : Value) (x4 : Value) (fr : Int32) (x7 : Value) (fo : Int64) (x9 : Value) (wd : Int32) (x11 : Value) (x12 : Value) (x14 : Value) (x15 : Value) (x16 : Value) (x17 : Value) (x18 : Value) (x19 : Value) (x20 : Value) (x21 : Value) (x22 : Value) (h0 : Heap) (n0 : Nat) (Z0 : n0 ≤ h0.size) (I : own_I Z h0 r0 u ku cu en EC w sa) (G : own_G Z h0 r0 [(.ref (sa 5)), x1, x2, x3, x4, (.ref u), (.int fr), x7, (.long fo), x9, (.int wd), x11, x12, (.int 5), x14, x15, x16, x17, x18, x19, x20, x21, x22]) (gn_r0 : n0 ≤ r0) (hEL : EW Z a0 own_EL) (hStr : ∀ a ∈ Bundle.stringAtoms, a.before a0 Z = true) (S_C : Sta Z h0 "java/lang/String" "COMPACT_STRINGS" "Z" (.int wC)) (hC : ¬ (wC = (0 : Int32))) (S_F : Sta Z h0 "jdk/internal/util/Preconditions" "SIOOBE_FORMATTER" "Ljava/util/function/BiFunction;" wF) (hG : wF.isRef = true) :
    MetFree l (⟨"com/example/corridor/corridor/iso20022/MarkupScanner", "other", "(I)I"⟩ : MethodName) (head1 (Jvm.Cond.code (⟨"com/example/corridor/corridor/iso20022/MarkupScanner", "other", "(I)I"⟩ : MethodName) prog_34_method_24_code 3 (some .int) :: ws) ({ frames := 4, cells := 2, slots := 28, locals := 54 } : Room)) (fun a U => a = #[(.ref r0), (.int 8)] ∧ Z.Warmed39 U.vm ∧ U.heap = h0 ∧ CHv Z own_EL U.vm h0) (fun _ _ _ _ _ => True) (fun _ U o U' => ∃ v L, o = .returned v ∧ (own_QG Z r0 n0 h0 (some (.int 9)) [(.ref (sa 9)), x1, x2, x3, x4, (.ref u), (.int fr), x7, (.long fo), x9, (.int wd), x11, (.int 0), (.int 6), (.int 0), (.long (fo + ((((9 : Int32) - fr).toInt64) * (wd.toInt64)))), x16, x17, x18, x19, x20, x21, x22]) v U'.heap L ∧ CHr Z own_EL U.vm U.heap U'.vm U'.heap ∧ ReturnedEndW U o U' L 2 28) := by
  refine MetFree.of_bodySF (plainFor_of_name pn8) hisR ?_
  intro p e s m args below meth c s₁ Bd hml0 hP hK
  obtain ⟨rfl, hZ, hh, hCH⟩ := hP
  have hx := Bd.exec
  have hby := Bd.bytes
  have hml : c.maxLocals = 3 := hml0
  have hown : s.vm.findClass "com/example/corridor/corridor/iso20022/MarkupScanner" = some m.cls := findClass_of_methodNamed Bd.named
  have hnm := (name_of_methodNamed Bd.named Bd.method).1
  have X0 : Stand p l e ({ frames := 4, cells := 2, slots := 28, locals := 54 } : Room) (s.setVm s.vm) m #[(.ref r0), (.int 8)] below meth c s₁ [] 0 0 := Stand.of_body Bd
  have e0 : s₁.heap = h0 := by rw [← hh, Bd.state]; rfl
  have N0 := Fr.nil n0
  have hS0 : s.Since s.vm 0 := (State.WarmedH.refl s).since 0
  have hC0 : CHr Z own_EL s.vm s.heap s.vm h0 := by rw [hh]; exact CHr.refl hCH
  have K0 : Keep h0 h0 [r0] := Keep.refl h0 [r0]
  show own_Goes p e below (own_EndW s Z own_EL (own_QG Z r0 n0 h0 (some (.int 9)) [(.ref (sa 9)), x1, x2, x3, x4, (.ref u), (.int fr), x7, (.long fo), x9, (.int wd), x11, (.int 0), (.int 6), (.int 0), (.long (fo + ((((9 : Int32) - fr).toInt64) * (wd.toInt64)))), x16, x17, x18, x19, x20, x21, x22]) 2 28) _
  refine own_g (s₁.setTop (mkF m 0 #[.val (.ref r0), .val (.int 8), .unset] [])) (fun t k => castTop (ef_oth8 m r0) k) ?_
  refine own_g (s₁.setTop (mkF m 1 #[.val (.ref r0), .val (.int 8), .unset] [(.ref r0)])) (fun _ k => XS.aloadN X0.here hx rfl (hb hby d8_0) rfl rfl k) ?_
  obtain ⟨T1, X1, e1, st1⟩ := getF X0 hx hZ hown (host := "") (Or.inl (own_w hw 32 rfl)) Via.refl e0 (own_Gf G 5 rfl rfl) (g := (mkF m 1 #[.val (.ref r0), .val (.int 8), .unset] [(.ref r0)])) rfl rfl (hb hby d8_1)
  refine own_g (T1.setTop (mkF m 4 #[.val (.ref r0), .val (.int 8), .unset] [(.ref u)])) (st1) ?_
  refine own_g (T1.setTop (mkF m 5 #[.val (.ref r0), .val (.int 8), .unset] [(.int 8), (.ref u)])) (fun _ k => XS.iloadN X1.here hx rfl (hb hby d8_4) rfl k) ?_
  obtain ⟨cl2, Ar2, hin2, hat2⟩ := own_I.at I (8 : Int32) (by decide) (by decide)
  refine own_g (T1.setTop (mkF m 6 #[.val (.ref r0), .val (.int 8), .unset] [(.int 91)])) (X1.caload hx (j := (8 : Int32)) (v := (.int 91)) (by rw [e1]; exact Ar2.1) (State.isArrayOf_alike hZ.alike Ar2.2.1) Ar2.2.2 hin2 hat2 (g := (mkF m 5 #[.val (.ref r0), .val (.int 8), .unset] [(.int 8), (.ref u)])) rfl rfl (hb hby d8_5)) ?_
  refine own_g (T1.setTop (mkF m 7 #[.val (.ref r0), .val (.int 8), .val (.int 91)] [])) (fun _ k => XS.istoreN X1.here hx rfl (hb hby d8_6) rfl (l' := #[.val (.ref r0), .val (.int 8), .val (.int 91)]) rfl k) ?_
  refine own_g (T1.setTop (mkF m 8 #[.val (.ref r0), .val (.int 8), .val (.int 91)] [(.ref r0)])) (fun _ k => XS.aloadN X1.here hx rfl (hb hby d8_7) rfl rfl k) ?_
  obtain ⟨T3, X3, e3, st3⟩ := getF X1 hx hZ hown (host := "") (Or.inl (own_w hw 17 rfl)) Via.refl e1 (own_Gf G 0 rfl rfl) (g := (mkF m 8 #[.val (.ref r0), .val (.int 8), .val (.int 91)] [(.ref r0)])) rfl rfl (hb hby d8_8)
  refine own_g (T3.setTop (mkF m 11 #[.val (.ref r0), .val (.int 8), .val (.int 91)] [(.ref (sa 5))])) (st3) ?_
  obtain ⟨cq4, kq4, qk4a, qk4b, qk4c⟩ := isOf hZ e3 (show Exa Z h0 (sa 5) "com/example/corridor/corridor/iso20022/MarkupScanner$State" from (I.1 4 _ rfl).2.1)
  obtain ⟨_, _, ⟨T4, L4, k4, n4⟩, -, X4, ⟨Lc4, hQ4, l4, y4, z4⟩, st4⟩ := X3.virtualBackUp hx (x := (⟨"com/example/corridor/corridor/iso20022/MarkupScanner$State", "ordinal", "()I"⟩ : MethodName)) (y := (⟨"java/lang/Enum", "ordinal", "()I"⟩ : MethodName)) (owner := "java/lang/Enum") hown (mvT hZ (own_w hw 56 rfl)) (mvT hZ (own_w hw 57 rfl)) (mvT hZ (own_w hw 58 rfl)) (by decide) (mvT hZ (own_w hw 60 rfl)) (mvT hZ (own_w hw 59 rfl)) (backOf (W := 0) (ord l Z a0 hw [] (sa 5) (5 : Int32) h0 n0 Z0 (show Fld Z h0 (sa 5) "java/lang/Enum" "ordinal" "I" (.int 5) from (I.1 4 _ rfl).2.2.1)) hZ (own_w hw 62 rfl) (own_w hw 61 rfl) (by decide) (by decide)) qk4a qk4c (g := (mkF m 11 #[.val (.ref r0), .val (.int 8), .val (.int 91)] [(.ref (sa 5))])) rfl (by rw [hml]; rfl) (Steps.refl _) (argsL := []) (rest := []) (lenOf pd4 rfl) rfl (by show 2 * 0 + _ ≤ _; exact Nat.le_of_eq rfl) (hb hby d8_11) (fun _ _ => ⟨rfl, e3, (by decide : 0 + 0 ≤ _), (by decide : 0 + 0 ≤ _)⟩)
  dsimp only [Pt.U, Pt.locs, Pt.cells, Pt.slots] at X4 l4 y4 z4 st4 hQ4
  subst l4 y4 z4
  obtain ⟨rfl, Nq4, e4⟩ := hQ4
  have N4 := Fr.app N0 Nq4
  refine own_g (T4.setTop (mkF m 14 #[.val (.ref r0), .val (.int 8), .val (.int 91)] [(.int 5)])) (fun _ k => st4.trans k) ?_
  refine own_g (T4.setTop (mkF m 126 #[.val (.ref r0), .val (.int 8), .val (.int 91)] [])) (fun _ k => XS.tswIn X4.here hx rfl (pc0 := 14) (pc' := 126) (o := 112) rfl (hb hby d8_14) rfl (by decide) rfl (by decide) (by decide) k) ?_
  refine own_g (T4.setTop (mkF m 127 #[.val (.ref r0), .val (.int 8), .val (.int 91)] [(.int 91)])) (fun _ k => XS.iloadN X4.here hx rfl (hb hby d8_126) rfl k) ?_
  obtain ⟨a5, T5, h5, k1_5, b5, k5, X5, e5, E5, hS5, hk5, hZ, hown, Ea5, Fc5, Fv5, Va5, la5, lb5, hC5, hL5, hSf5, st5⟩ := ldcCH (s := s) (vm0 := s.vm) X4 hx hZ hown (own_w hw 91 rfl) hStr e4 hS0 (Nat.zero_le _) hEL (by simp [own_EL]) hC0.1 (vs := [(.int 67), (.int 68), (.int 65), (.int 84), (.int 65), (.int 91)]) (z := (6 : Int32)) ⟨by decide, by decide⟩ (by decide) rfl (g := (mkF m 127 #[.val (.ref r0), .val (.int 8), .val (.int 91)] [(.int 91)])) rfl (hb hby d8_127) (n := 24) (by decide) (by decide) (by decide) (by decide)
  have G5 : own_G Z h5 r0 [(.ref (sa 5)), x1, x2, x3, x4, (.ref u), (.int fr), x7, (.long fo), x9, (.int wd), x11, x12, (.int 5), x14, x15, x16, x17, x18, x19, x20, x21, x22] := G.ext E5
  have I5 : own_I Z h5 r0 u ku cu en EC w sa := I.ext E5
  have S_C_c5 := S_C.ext E5
  have S_F_c5 := S_F.ext E5
  have Z5 : n0 ≤ h5.size := Nat.le_trans Z0 E5.1
  have K5 : Keep h0 h5 [r0] := K0.ext E5
  have hCt5 := hC0.trans hC5
  refine own_g (T5.setTop (mkF m 129 #[.val (.ref r0), .val (.int 8), .val (.int 91)] [(.ref a5), (.int 91)])) (st5) ?_
  have ne_a5 : a5 ≠ r0 := (Exa.ne G5.1 Ea5 (by decide)).symm
  have ne_b5 : b5 ≠ r0 := (Exa.neArv G5.1 Va5 (own_w hw 6 rfl)).symm
  refine own_g (T5.setTop (mkF m 130 #[.val (.ref r0), .val (.int 8), .val (.int 91)] [(.ref r0), (.ref a5), (.int 91)])) (fun _ k => XS.aloadN X5.here hx rfl (hb hby d8_129) rfl rfl k) ?_
  obtain ⟨T6, X6, e6, st6⟩ := getF X5 hx hZ hown (host := "") (Or.inl (own_w hw 83 rfl)) Via.refl e5 (own_Gf G5 13 rfl rfl) (g := (mkF m 130 #[.val (.ref r0), .val (.int 8), .val (.int 91)] [(.ref r0), (.ref a5), (.int 91)])) rfl rfl (hb hby d8_130)
  refine own_g (T6.setTop (mkF m 133 #[.val (.ref r0), .val (.int 8), .val (.int 91)] [(.int 5), (.ref a5), (.int 91)])) (st6) ?_
  obtain ⟨cl, Ar, q_cl, S_cl, N_cl, Ha_cl, G_cl⟩ := id Va5
  have hin : ¬ ((5 : Int32) < 0 ∨ cl.slots.size ≤ ((5 : Int32)).toNatClampNeg) := inb_of S_cl ⟨by decide, by decide⟩
  have hat : cl.slots[((5 : Int32)).toNatClampNeg]? = some (.int 91) := Ha_cl.at hin rfl
  obtain ⟨cq7, kq7, qk7a, qk7b, qk7c⟩ := isOf hZ e6 Ea5
  obtain ⟨_, _, ⟨T7, L7, k7, n7⟩, -, X7, ⟨Lc7, hQ7, l7, y7, z7⟩, st7⟩ := X6.virtualBack hx (y := (⟨"java/lang/String", "charAt", "(I)C"⟩ : MethodName)) (z := (⟨"java/lang/String", "charAt", "(I)C"⟩ : MethodName)) hown (mvT hZ (own_w hw 99 rfl)) (mvT hZ (own_w hw 100 rfl)) (notFace_of_selects (args := #[]) (mvT hZ (own_w hw 102 rfl))) (mvT hZ (own_w hw 102 rfl)) (mvT hZ (own_w hw 101 rfl)) (by decide) (backOf (W := 1) (ch l Z a0 hw [] a5 (5 : Int32) wC wF b5 cl (91 : Int32) h5 n0 Z5 S_C_c5 hC S_F_c5 hG Ea5 Fc5 Fv5 (by decide) (by decide) (own_A.of Va5) Ar hin hat) hZ (own_w hw 103 rfl) (own_w hw 92 rfl) (by decide) (by decide)) qk7a qk7c (g := (mkF m 133 #[.val (.ref r0), .val (.int 8), .val (.int 91)] [(.int 5), (.ref a5), (.int 91)])) rfl (by rw [hml]; rfl) (Steps.refl _) (argsL := [(.int 5)]) (rest := [(.int 91)]) (lenOf pd1 rfl) rfl (by show 2 * 0 + _ ≤ _; exact Nat.le_of_eq rfl) (hb hby d8_133) (fun _ _ => ⟨rfl, e6, (by decide : 2 + 0 ≤ _), (by decide : 28 + 0 ≤ _)⟩)
  dsimp only [Pt.U, Pt.locs, Pt.cells, Pt.slots] at X7 l7 y7 z7 st7 hQ7
  subst l7 y7 z7
  obtain ⟨rfl, Nq7, e7⟩ := hQ7
  have N7 := Fr.app N4 Nq7
  refine own_g (T7.setTop (mkF m 136 #[.val (.ref r0), .val (.int 8), .val (.int 91)] [(.int (nar .char (nar .char (((91 : Int32) &&& (255 : Int32)).toUInt32.toUInt16.toUInt32.toInt32)))), (.int 91)])) (fun _ k => st7.trans k) ?_
  refine own_g (T7.setTop (mkF m 147 #[.val (.ref r0), .val (.int 8), .val (.int 91)] [])) (fun _ k => XS.icmpYes X7.here hx rfl (pc0 := 136) (pc' := 147) rfl (hb hby d8_136) rfl (teq (by decide : (91 : Int32) = (nar .char (nar .char (((91 : Int32) &&& (255 : Int32)).toUInt32.toUInt16.toUInt32.toInt32))))).1 (by decide) (by decide) k) ?_
  refine own_g (T7.setTop (mkF m 148 #[.val (.ref r0), .val (.int 8), .val (.int 91)] [(.ref r0)])) (fun _ k => XS.aloadN X7.here hx rfl (hb hby d8_147) rfl rfl k) ?_
  refine own_g (T7.setTop (mkF m 149 #[.val (.ref r0), .val (.int 8), .val (.int 91)] [(.ref r0), (.ref r0)])) (fun _ k => XS.dup X7.here hx rfl (hb hby d8_148) rfl rfl k) ?_
  obtain ⟨T8, X8, e8, st8⟩ := getF X7 hx hZ hown (host := "") (Or.inl (own_w hw 83 rfl)) Via.refl e7 (own_Gf G5 13 rfl rfl) (g := (mkF m 149 #[.val (.ref r0), .val (.int 8), .val (.int 91)] [(.ref r0), (.ref r0)])) rfl rfl (hb hby d8_149)
  refine own_g (T8.setTop (mkF m 152 #[.val (.ref r0), .val (.int 8), .val (.int 91)] [(.int 5), (.ref r0)])) (st8) ?_
  refine own_g (T8.setTop (mkF m 153 #[.val (.ref r0), .val (.int 8), .val (.int 91)] [(.int 1), (.int 5), (.ref r0)])) (fun _ k => XS.iconst X8.here hx rfl (hb hby d8_152) k) ?_
  refine own_g (T8.setTop (mkF m 154 #[.val (.ref r0), .val (.int 8), .val (.int 91)] [(.int ((5 : Int32) + (1 : Int32))), (.ref r0)])) (fun _ k => XS.iadd X8.here hx rfl (hb hby d8_153) rfl k) ?_
  rw [show ((5 : Int32) + (1 : Int32)) = (6 : Int32) from by decide]
  refine own_g (T8.setTop (mkF m 155 #[.val (.ref r0), .val (.int 8), .val (.int 91)] [(.int 6), (.ref r0), (.int 6)])) (fun _ k => XS.dupX1 X8.here hx rfl (hb hby d8_154) rfl rfl rfl k) ?_
  obtain ⟨T9, h9, X9, e9, W9, st9⟩ := putF X8 hx hZ hown (host := "") (Or.inl (own_w hw 83 rfl)) Via.refl e8 (own_Gf G5 13 rfl rfl) G5.1 (Or.inl (own_w hw 84 rfl)) (own_w hw 6 rfl) (ty := .int) (by decide) rfl rfl (g := (mkF m 155 #[.val (.ref r0), .val (.int 8), .val (.int 91)] [(.int 6), (.ref r0), (.int 6)])) rfl rfl (hb hby d8_155)
  have G9 : own_G Z h9 r0 [(.ref (sa 5)), x1, x2, x3, x4, (.ref u), (.int fr), x7, (.long fo), x9, (.int wd), x11, x12, (.int 6), x14, x15, x16, x17, x18, x19, x20, x21, x22] := own_G.put hw G5 13 rfl (Nat.le_of_ble_eq_true rfl) W9
  have I9 : own_I Z h9 r0 u ku cu en EC w sa := I5.wr W9 G5.1
  have Ea5_c9 := Ea5.wr W9
  have Fc5_c9 := Fc5.other W9 (Or.inl ne_a5)
  have Fv5_c9 := Fv5.other W9 (Or.inl ne_a5)
  have Va5_c9 := Va5.other W9 ne_b5
  have S_C_c9 := S_C_c5.wr W9
  have S_F_c9 := S_F_c5.wr W9
  have N9 := Fr.snoc X9 N7 gn_r0
  have Z9 : n0 ≤ h9.size := Nat.le_trans Z5 (Keep.of_wr W9).1
  have K9 : Keep h0 h9 [r0] := K5.wr W9 (Or.inl (List.mem_of_getElem? (i := 0) rfl))
  have hCt9 := hCt5.trans (CHr.wr W9 (Safe.exa hZ.alike G5.1 (by decide) (by decide)) hCt5.1)
  refine own_g (T9.setTop (mkF m 158 #[.val (.ref r0), .val (.int 8), .val (.int 91)] [(.int 6)])) (st9) ?_
  refine own_g (T9.setTop (mkF m 160 #[.val (.ref r0), .val (.int 8), .val (.int 91)] [(.ref a5), (.int 6)])) (ldcAgain X9 hx hZ hown (own_w hw 91 rfl) hL5 (g := (mkF m 158 #[.val (.ref r0), .val (.int 8), .val (.int 91)] [(.int 6)])) rfl (hb hby d8_158)) ?_
  obtain ⟨cq10, kq10, qk10a, qk10b, qk10c⟩ := isOf hZ e9 Ea5_c9
  obtain ⟨_, _, ⟨T10, L10, k10, n10⟩, -, X10, ⟨Lc10, hQ10, l10, y10, z10⟩, st10⟩ := X9.virtualBack hx (y := (⟨"java/lang/String", "length", "()I"⟩ : MethodName)) (z := (⟨"java/lang/String", "length", "()I"⟩ : MethodName)) hown (mvT hZ (own_w hw 124 rfl)) (mvT hZ (own_w hw 125 rfl)) (notFace_of_selects (args := #[]) (mvT hZ (own_w hw 127 rfl))) (mvT hZ (own_w hw 127 rfl)) (mvT hZ (own_w hw 126 rfl)) (by decide) (backOf (W := 1) (len l Z a0 hw [] a5 wC b5 h9 n0 Z9 S_C_c9 hC Ea5_c9 Fc5_c9 Fv5_c9 (own_A.of Va5_c9)) hZ (own_w hw 128 rfl) (own_w hw 92 rfl) (by decide) (by decide)) qk10a qk10c (g := (mkF m 160 #[.val (.ref r0), .val (.int 8), .val (.int 91)] [(.ref a5), (.int 6)])) rfl (by rw [hml]; rfl) (Steps.refl _) (argsL := []) (rest := [(.int 6)]) (lenOf pd4 rfl) rfl (by show 2 * 0 + _ ≤ _; exact Nat.le_of_eq rfl) (hb hby d8_160) (fun _ _ => ⟨rfl, e9, (by decide : 2 + 0 ≤ _), (by decide : 28 + 0 ≤ _)⟩)
  dsimp only [Pt.U, Pt.locs, Pt.cells, Pt.slots] at X10 l10 y10 z10 st10 hQ10
  subst l10 y10 z10
  obtain ⟨rfl, Nq10, e10⟩ := hQ10
  have N10 := Fr.app N9 Nq10
  refine own_g (T10.setTop (mkF m 163 #[.val (.ref r0), .val (.int 8), .val (.int 91)] [(.int 6), (.int 6)])) (fun _ k => st10.trans k) ?_
  refine own_g (T10.setTop (mkF m 166 #[.val (.ref r0), .val (.int 8), .val (.int 91)] [])) (fun _ k => XS.icmpNo X10.here hx rfl (hb hby d8_163) rfl (teq (by decide : (6 : Int32) = (6 : Int32))).2 k) ?_
  refine own_g (T10.setTop (mkF m 167 #[.val (.ref r0), .val (.int 8), .val (.int 91)] [(.ref r0)])) (fun _ k => XS.aloadN X10.here hx rfl (hb hby d8_166) rfl rfl k) ?_
  refine own_g (T10.setTop (mkF m 168 #[.val (.ref r0), .val (.int 8), .val (.int 91)] [(.int 0), (.ref r0)])) (fun _ k => XS.iconst X10.here hx rfl (hb hby d8_167) k) ?_
  obtain ⟨T11, h11, X11, e11, W11, st11⟩ := putF X10 hx hZ hown (host := "") (Or.inl (own_w hw 134 rfl)) Via.refl e10 (own_Gf G9 14 rfl rfl) G9.1 (Or.inl (own_w hw 135 rfl)) (own_w hw 6 rfl) (ty := .int) (by decide) rfl rfl (g := (mkF m 168 #[.val (.ref r0), .val (.int 8), .val (.int 91)] [(.int 0), (.ref r0)])) rfl rfl (hb hby d8_168)
  have G11 : own_G Z h11 r0 [(.ref (sa 5)), x1, x2, x3, x4, (.ref u), (.int fr), x7, (.long fo), x9, (.int wd), x11, x12, (.int 6), (.int 0), x15, x16, x17, x18, x19, x20, x21, x22] := own_G.put hw G9 14 rfl (Nat.le_of_ble_eq_true rfl) W11
  have I11 : own_I Z h11 r0 u ku cu en EC w sa := I9.wr W11 G9.1
  have Ea5_c11 := Ea5_c9.wr W11
  have Fc5_c11 := Fc5_c9.other W11 (Or.inl ne_a5)
  have Fv5_c11 := Fv5_c9.other W11 (Or.inl ne_a5)
  have Va5_c11 := Va5_c9.other W11 ne_b5
  have S_C_c11 := S_C_c9.wr W11
  have S_F_c11 := S_F_c9.wr W11
  have N11 := Fr.snoc X11 N10 gn_r0
  have Z11 : n0 ≤ h11.size := Nat.le_trans Z9 (Keep.of_wr W11).1
  have K11 : Keep h0 h11 [r0] := K9.wr W11 (Or.inl (List.mem_of_getElem? (i := 0) rfl))
  have hCt11 := hCt9.trans (CHr.wr W11 (Safe.exa hZ.alike G9.1 (by decide) (by decide)) hCt9.1)
  refine own_g (T11.setTop (mkF m 171 #[.val (.ref r0), .val (.int 8), .val (.int 91)] [])) (st11) ?_
  refine own_g (T11.setTop (mkF m 172 #[.val (.ref r0), .val (.int 8), .val (.int 91)] [(.ref r0)])) (fun _ k => XS.aloadN X11.here hx rfl (hb hby d8_171) rfl rfl k) ?_
  refine own_g (T11.setTop (mkF m 173 #[.val (.ref r0), .val (.int 8), .val (.int 91)] [(.int 0), (.ref r0)])) (fun _ k => XS.iconst X11.here hx rfl (hb hby d8_172) k) ?_
  obtain ⟨T12, h12, X12, e12, W12, st12⟩ := putFN X11 hx hZ hown (own_w hw 73 rfl) Via.refl e11 (own_Gf G11 12 rfl rfl) G11.1 (Or.inl (own_w hw 74 rfl)) (own_w hw 6 rfl) (ty := .boolean) (v' := (.int 0)) (by decide) rfl rfl (g := (mkF m 173 #[.val (.ref r0), .val (.int 8), .val (.int 91)] [(.int 0), (.ref r0)])) rfl rfl (hb hby d8_173)
  have G12 : own_G Z h12 r0 [(.ref (sa 5)), x1, x2, x3, x4, (.ref u), (.int fr), x7, (.long fo), x9, (.int wd), x11, (.int 0), (.int 6), (.int 0), x15, x16, x17, x18, x19, x20, x21, x22] := own_G.put hw G11 12 rfl (Nat.le_of_ble_eq_true rfl) W12
  have I12 : own_I Z h12 r0 u ku cu en EC w sa := I11.wr W12 G11.1
  have Ea5_c12 := Ea5_c11.wr W12
  have Fc5_c12 := Fc5_c11.other W12 (Or.inl ne_a5)
  have Fv5_c12 := Fv5_c11.other W12 (Or.inl ne_a5)
  have Va5_c12 := Va5_c11.other W12 ne_b5
  have S_C_c12 := S_C_c11.wr W12
  have S_F_c12 := S_F_c11.wr W12
  have N12 := Fr.snoc X12 N11 gn_r0
  have Z12 : n0 ≤ h12.size := Nat.le_trans Z11 (Keep.of_wr W12).1
  have K12 : Keep h0 h12 [r0] := K11.wr W12 (Or.inl (List.mem_of_getElem? (i := 0) rfl))
  have hCt12 := hCt11.trans (CHr.wr W12 (Safe.exa hZ.alike G11.1 (by decide) (by decide)) hCt11.1)
  refine own_g (T12.setTop (mkF m 176 #[.val (.ref r0), .val (.int 8), .val (.int 91)] [])) (st12) ?_
  refine own_g (T12.setTop (mkF m 177 #[.val (.ref r0), .val (.int 8), .val (.int 91)] [(.ref r0)])) (fun _ k => XS.aloadN X12.here hx rfl (hb hby d8_176) rfl rfl k) ?_
  refine own_g (T12.setTop (mkF m 178 #[.val (.ref r0), .val (.int 8), .val (.int 91)] [(.ref r0), (.ref r0)])) (fun _ k => XS.aloadN X12.here hx rfl (hb hby d8_177) rfl rfl k) ?_
  refine own_g (T12.setTop (mkF m 179 #[.val (.ref r0), .val (.int 8), .val (.int 91)] [(.int 8), (.ref r0), (.ref r0)])) (fun _ k => XS.iloadN X12.here hx rfl (hb hby d8_178) rfl k) ?_
  refine own_g (T12.setTop (mkF m 180 #[.val (.ref r0), .val (.int 8), .val (.int 91)] [(.int 1), (.int 8), (.ref r0), (.ref r0)])) (fun _ k => XS.iconst X12.here hx rfl (hb hby d8_179) k) ?_
  refine own_g (T12.setTop (mkF m 181 #[.val (.ref r0), .val (.int 8), .val (.int 91)] [(.int ((8 : Int32) + (1 : Int32))), (.ref r0), (.ref r0)])) (fun _ k => XS.iadd X12.here hx rfl (hb hby d8_180) rfl k) ?_
  rw [show ((8 : Int32) + (1 : Int32)) = (9 : Int32) from by decide]
  obtain ⟨cq13, qk13, qk13'⟩ := G12.1.cell
  obtain ⟨_, _, ⟨T13, L13, k13, n13⟩, -, X13, ⟨Lc13, hQ13, l13, y13, z13⟩, st13⟩ := X12.privateBack hx (y := (⟨"com/example/corridor/corridor/iso20022/MarkupScanner", "offsetAt", "(I)J"⟩ : MethodName)) hown (mvT hZ (own_w hw 136 rfl)) (mvT hZ (own_w hw 137 rfl)) (mvT hZ (own_selPriv (own_w hw 137 rfl) (own_w hw 138 rfl) (own_w hw 30 rfl) rfl (by decide))) (Cond.privateMethod_at (mvP hZ (own_w hw 138 rfl) (args := #[]))) (mvT hZ (own_w hw 139 rfl)) (by decide) (backOf (W := 1) (off l Z a0 hw [] r0 (9 : Int32) u ku cu en EC w sa (.ref (sa 5)) x1 x2 x3 x4 (.ref u) fr x7 fo x9 wd x11 (.int 0) (.int 6) (.int 0) x15 x16 x17 x18 x19 x20 x21 x22 h12 n0 Z12 I12 G12 gn_r0) hZ (own_w hw 139 rfl) (own_w hw 7 rfl) (by decide) (by decide)) (g := (mkF m 181 #[.val (.ref r0), .val (.int 8), .val (.int 91)] [(.int 9), (.ref r0), (.ref r0)])) rfl (by rw [hml]; rfl) (Steps.refl _) (a := r0) (by rw [e12]; exact qk13) qk13' (argsL := [(.int 9)]) (rest := [(.ref r0)]) (lenOf pd6 rfl) rfl (by show 2 * 0 + _ ≤ _; exact Nat.le_of_eq rfl) (hb hby d8_181) (fun _ _ => ⟨rfl, e12, (by decide : 2 + 0 ≤ _), (by decide : 28 + 0 ≤ _)⟩)
  dsimp only [Pt.U, Pt.locs, Pt.cells, Pt.slots] at X13 l13 y13 z13 st13 hQ13
  subst l13 y13 z13
  obtain ⟨rfl, Nq13, e13⟩ := hQ13
  have N13 := Fr.app N12 Nq13
  refine own_g (T13.setTop (mkF m 184 #[.val (.ref r0), .val (.int 8), .val (.int 91)] [(.long (fo + ((((9 : Int32) - fr).toInt64) * (wd.toInt64)))), (.ref r0)])) (fun _ k => st13.trans k) ?_
  obtain ⟨T14, h14, X14, e14, W14, st14⟩ := putF X13 hx hZ hown (host := "") (Or.inl (own_w hw 140 rfl)) Via.refl e13 (own_Gf G12 15 rfl rfl) G12.1 (Or.inl (own_w hw 141 rfl)) (own_w hw 6 rfl) (ty := .long) (by decide) rfl rfl (g := (mkF m 184 #[.val (.ref r0), .val (.int 8), .val (.int 91)] [(.long (fo + ((((9 : Int32) - fr).toInt64) * (wd.toInt64)))), (.ref r0)])) rfl rfl (hb hby d8_184)
  have G14 : own_G Z h14 r0 [(.ref (sa 5)), x1, x2, x3, x4, (.ref u), (.int fr), x7, (.long fo), x9, (.int wd), x11, (.int 0), (.int 6), (.int 0), (.long (fo + ((((9 : Int32) - fr).toInt64) * (wd.toInt64)))), x16, x17, x18, x19, x20, x21, x22] := own_G.put hw G12 15 rfl (Nat.le_of_ble_eq_true rfl) W14
  have I14 : own_I Z h14 r0 u ku cu en EC w sa := I12.wr W14 G12.1
  have Ea5_c14 := Ea5_c12.wr W14
  have Fc5_c14 := Fc5_c12.other W14 (Or.inl ne_a5)
  have Fv5_c14 := Fv5_c12.other W14 (Or.inl ne_a5)
  have Va5_c14 := Va5_c12.other W14 ne_b5
  have S_C_c14 := S_C_c12.wr W14
  have S_F_c14 := S_F_c12.wr W14
  have N14 := Fr.snoc X14 N13 gn_r0
  have Z14 : n0 ≤ h14.size := Nat.le_trans Z12 (Keep.of_wr W14).1
  have K14 : Keep h0 h14 [r0] := K12.wr W14 (Or.inl (List.mem_of_getElem? (i := 0) rfl))
  have hCt14 := hCt12.trans (CHr.wr W14 (Safe.exa hZ.alike G12.1 (by decide) (by decide)) hCt12.1)
  refine own_g (T14.setTop (mkF m 187 #[.val (.ref r0), .val (.int 8), .val (.int 91)] [])) (st14) ?_
  refine own_g (T14.setTop (mkF m 188 #[.val (.ref r0), .val (.int 8), .val (.int 91)] [(.ref r0)])) (fun _ k => XS.aloadN X14.here hx rfl (hb hby d8_187) rfl rfl k) ?_
  obtain ⟨T15, X15, e15, st15⟩ := getS2 X14 hx hZ hown (host := "") (Or.inl (own_w hw 142 rfl)) Via.refl e14 (show Sta Z h14 "com/example/corridor/corridor/iso20022/MarkupScanner$State" "CDATA" "Lcom/example/corridor/corridor/iso20022/MarkupScanner$State;" (.ref (sa 9)) from (I14.1 6 _ rfl).1) (g := (mkF m 188 #[.val (.ref r0), .val (.int 8), .val (.int 91)] [(.ref r0)])) rfl (hb hby d8_188)
  refine own_g (T15.setTop (mkF m 191 #[.val (.ref r0), .val (.int 8), .val (.int 91)] [(.ref (sa 9)), (.ref r0)])) (st15) ?_
  obtain ⟨T16, h16, X16, e16, W16, st16⟩ := putF X15 hx hZ hown (host := "") (Or.inl (own_w hw 17 rfl)) Via.refl e15 (own_Gf G14 0 rfl rfl) G14.1 (Or.inl (own_w hw 18 rfl)) (own_w hw 6 rfl) (ty := (.object "com/example/corridor/corridor/iso20022/MarkupScanner$State")) (by decide) rfl rfl (g := (mkF m 191 #[.val (.ref r0), .val (.int 8), .val (.int 91)] [(.ref (sa 9)), (.ref r0)])) rfl rfl (hb hby d8_191)
  have G16 : own_G Z h16 r0 [(.ref (sa 9)), x1, x2, x3, x4, (.ref u), (.int fr), x7, (.long fo), x9, (.int wd), x11, (.int 0), (.int 6), (.int 0), (.long (fo + ((((9 : Int32) - fr).toInt64) * (wd.toInt64)))), x16, x17, x18, x19, x20, x21, x22] := own_G.put hw G14 0 rfl (Nat.le_of_ble_eq_true rfl) W16
  have I16 : own_I Z h16 r0 u ku cu en EC w sa := I14.wr W16 G14.1
  have Ea5_c16 := Ea5_c14.wr W16
  have Fc5_c16 := Fc5_c14.other W16 (Or.inl ne_a5)
  have Fv5_c16 := Fv5_c14.other W16 (Or.inl ne_a5)
  have Va5_c16 := Va5_c14.other W16 ne_b5
  have S_C_c16 := S_C_c14.wr W16
  have S_F_c16 := S_F_c14.wr W16
  have N16 := Fr.snoc X16 N14 gn_r0
  have Z16 : n0 ≤ h16.size := Nat.le_trans Z14 (Keep.of_wr W16).1
  have K16 : Keep h0 h16 [r0] := K14.wr W16 (Or.inl (List.mem_of_getElem? (i := 0) rfl))
  have hCt16 := hCt14.trans (CHr.wr W16 (Safe.exa hZ.alike G14.1 (by decide) (by decide)) hCt14.1)
  refine own_g (T16.setTop (mkF m 194 #[.val (.ref r0), .val (.int 8), .val (.int 91)] [])) (st16) ?_
  refine own_g (T16.setTop (mkF m 257 #[.val (.ref r0), .val (.int 8), .val (.int 91)] [])) (fun _ k => XS.goto X16.here hx rfl (pc0 := 194) (pc' := 257) rfl (hb hby d8_194) (by decide) (by decide) k) ?_
  refine own_g (T16.setTop (mkF m 258 #[.val (.ref r0), .val (.int 8), .val (.int 91)] [(.ref r0)])) (fun _ k => XS.aloadN X16.here hx rfl (hb hby d8_257) rfl rfl k) ?_
  refine own_g (T16.setTop (mkF m 259 #[.val (.ref r0), .val (.int 8), .val (.int 91)] [(.int 91), (.ref r0)])) (fun _ k => XS.iloadN X16.here hx rfl (hb hby d8_258) rfl k) ?_
  refine own_g (T16.setTop (mkF m 260 #[.val (.ref r0), .val (.int 8), .val (.int 91)] [(.int 8), (.int 91), (.ref r0)])) (fun _ k => XS.iloadN X16.here hx rfl (hb hby d8_259) rfl k) ?_
  obtain ⟨cq17, qk17, qk17'⟩ := G16.1.cell
  obtain ⟨_, _, ⟨T17, L17, k17, n17⟩, -, X17, ⟨Lc17, hQ17, l17, y17, z17⟩, st17⟩ := X16.privateBack hx (y := (⟨"com/example/corridor/corridor/iso20022/MarkupScanner", "lineEnd", "(CI)V"⟩ : MethodName)) hown (mvT hZ (own_w hw 87 rfl)) (mvT hZ (own_w hw 88 rfl)) (mvT hZ (own_selPriv (own_w hw 88 rfl) (own_w hw 89 rfl) (own_w hw 30 rfl) rfl (by decide))) (Cond.privateMethod_at (mvP hZ (own_w hw 89 rfl) (args := #[]))) (mvT hZ (own_w hw 90 rfl)) (by decide) (backOf (W := 0) (leg l Z a0 hw [] r0 (91 : Int32) (8 : Int32) u ku cu en EC w sa (.ref (sa 9)) x1 x2 x3 x4 (.ref u) (.int fr) x7 (.long fo) x9 (.int wd) x11 (.int 0) (.int 6) (.int 0) (.long (fo + ((((9 : Int32) - fr).toInt64) * (wd.toInt64)))) x16 x17 x18 x19 x20 x21 x22 h16 n0 Z16 I16 G16 gn_r0 (by decide)) hZ (own_w hw 90 rfl) (own_w hw 7 rfl) (by decide) (by decide)) (g := (mkF m 260 #[.val (.ref r0), .val (.int 8), .val (.int 91)] [(.int 8), (.int 91), (.ref r0)])) rfl (by rw [hml]; rfl) (Steps.refl _) (a := r0) (by rw [e16]; exact qk17) qk17' (argsL := [(.int 91), (.int 8)]) (rest := []) (lenOf pd5 rfl) rfl (by show 2 * 0 + _ ≤ _; exact Nat.le_of_eq rfl) (hb hby d8_260) (fun _ _ => ⟨rfl, e16, (by decide : 2 + 0 ≤ _), (by decide : 28 + 0 ≤ _)⟩)
  dsimp only [Pt.U, Pt.locs, Pt.cells, Pt.slots] at X17 l17 y17 z17 st17 hQ17
  subst l17 y17 z17
  obtain ⟨rfl, Nq17, e17⟩ := hQ17
  have N17 := Fr.app N16 Nq17
  refine own_g (T17.setTop (mkF m 263 #[.val (.ref r0), .val (.int 8), .val (.int 91)] [])) (fun _ k => st17.trans k) ?_
  refine own_g (T17.setTop (mkF m 264 #[.val (.ref r0), .val (.int 8), .val (.int 91)] [(.int 8)])) (fun _ k => XS.iloadN X17.here hx rfl (hb hby d8_263) rfl k) ?_
  refine own_g (T17.setTop (mkF m 265 #[.val (.ref r0), .val (.int 8), .val (.int 91)] [(.int 1), (.int 8)])) (fun _ k => XS.iconst X17.here hx rfl (hb hby d8_264) k) ?_
  refine own_g (T17.setTop (mkF m 266 #[.val (.ref r0), .val (.int 8), .val (.int 91)] [(.int ((8 : Int32) + (1 : Int32)))])) (fun _ k => XS.iadd X17.here hx rfl (hb hby d8_265) rfl k) ?_
  rw [show ((8 : Int32) + (1 : Int32)) = (9 : Int32) from by decide]
  exact own_retIW X17 hx Bd.returns (hb hby d8_266) Bd.notSynchronized hS5 (by rw [e17]; exact (Nat.le_trans (Nat.le_trans (Nat.le_trans (Nat.le_trans (Nat.le_trans hk5 (Keep.of_wr W9).1) (Keep.of_wr W11).1) (Keep.of_wr W12).1) (Keep.of_wr W14).1) (Keep.of_wr W16).1)) hZ hEL (by rw [e17]; exact hCt16) (by decide) (by decide) (by rw [e17]; exact ⟨rfl, N17, K16, G16⟩)
theorem d3_0 : decode prog_34_method_2_code 0 = .ok (.iload_n 3, 1) := by decide +kernel
theorem d3_1 : decode prog_34_method_2_code 1 = .ok (.iload_n 2, 1) := by decide +kernel
theorem d3_2 : decode prog_34_method_2_code 2 = .ok (.isub, 1) := by decide +kernel
theorem d3_3 : decode prog_34_method_2_code 3 = .ok (.sipush 8192, 3) := by decide +kernel
theorem d3_6 : decode prog_34_method_2_code 6 = .ok (.if_icmp .le 13, 3) := by decide +kernel
theorem d3_19 : decode prog_34_method_2_code 19 = .ok (.aload_n 0, 1) := by decide +kernel
theorem d3_20 : decode prog_34_method_2_code 20 = .ok (.aload_n 1, 1) := by decide +kernel
theorem d3_21 : decode prog_34_method_2_code 21 = .ok (.putfield 40, 3) := by decide +kernel
theorem d3_24 : decode prog_34_method_2_code 24 = .ok (.aload_n 0, 1) := by decide +kernel
theorem d3_25 : decode prog_34_method_2_code 25 = .ok (.iload_n 2, 1) := by decide +kernel
theorem d3_26 : decode prog_34_method_2_code 26 = .ok (.putfield 44, 3) := by decide +kernel
theorem d3_29 : decode prog_34_method_2_code 29 = .ok (.aload_n 0, 1) := by decide +kernel
theorem d3_30 : decode prog_34_method_2_code 30 = .ok (.aload_n 0, 1) := by decide +kernel
theorem d3_31 : decode prog_34_method_2_code 31 = .ok (.getfield 47, 3) := by decide +kernel
theorem d3_34 : decode prog_34_method_2_code 34 = .ok (.putfield 50, 3) := by decide +kernel
theorem d3_37 : decode prog_34_method_2_code 37 = .ok (.aload_n 0, 1) := by decide +kernel
theorem d3_38 : decode prog_34_method_2_code 38 = .ok (.aload 4, 2) := by decide +kernel
theorem d3_40 : decode prog_34_method_2_code 40 = .ok (.putfield 53, 3) := by decide +kernel
theorem d3_43 : decode prog_34_method_2_code 43 = .ok (.aload_n 0, 1) := by decide +kernel
theorem d3_44 : decode prog_34_method_2_code 44 = .ok (.aload 4, 2) := by decide +kernel
theorem d3_46 : decode prog_34_method_2_code 46 = .ok (.getfield 57, 3) := by decide +kernel
theorem d3_49 : decode prog_34_method_2_code 49 = .ok (.putfield 62, 3) := by decide +kernel
theorem d3_52 : decode prog_34_method_2_code 52 = .ok (.aload_n 0, 1) := by decide +kernel
theorem d3_53 : decode prog_34_method_2_code 53 = .ok (.invokevirtual 63, 3) := by decide +kernel
theorem d3_56 : decode prog_34_method_2_code 56 = .ok (.ifCond .eq 13, 3) := by decide +kernel
theorem d3_69 : decode prog_34_method_2_code 69 = .ok (.iload_n 2, 1) := by decide +kernel
theorem d3_70 : decode prog_34_method_2_code 70 = .ok (.istore 5, 2) := by decide +kernel
theorem d3_72 : decode prog_34_method_2_code 72 = .ok (.iload 5, 2) := by decide +kernel
theorem d3_74 : decode prog_34_method_2_code 74 = .ok (.iload_n 3, 1) := by decide +kernel
theorem d3_75 : decode prog_34_method_2_code 75 = .ok (.if_icmp .ge 104, 3) := by decide +kernel
theorem d3_78 : decode prog_34_method_2_code 78 = .ok (.aload_n 0, 1) := by decide +kernel
theorem d3_79 : decode prog_34_method_2_code 79 = .ok (.getfield 70, 3) := by decide +kernel
theorem d3_82 : decode prog_34_method_2_code 82 = .ok (.ifCond .ne 97, 3) := by decide +kernel
theorem d3_85 : decode prog_34_method_2_code 85 = .ok (.aload_n 0, 1) := by decide +kernel
theorem d3_86 : decode prog_34_method_2_code 86 = .ok (.getfield 13, 3) := by decide +kernel
theorem d3_89 : decode prog_34_method_2_code 89 = .ok (.invokevirtual 73, 3) := by decide +kernel
theorem d3_92 : decode prog_34_method_2_code 92 = .ok (.tableswitch 76 0 9 #[56, 56, 56, 76, 76, 76, 76, 76, 76, 66], 56) := by decide +kernel
theorem d3_148 : decode prog_34_method_2_code 148 = .ok (.aload_n 0, 1) := by decide +kernel
theorem d3_149 : decode prog_34_method_2_code 149 = .ok (.iload 5, 2) := by decide +kernel
theorem d3_151 : decode prog_34_method_2_code 151 = .ok (.iload_n 3, 1) := by decide +kernel
theorem d3_152 : decode prog_34_method_2_code 152 = .ok (.invokevirtual 77, 3) := by decide +kernel
theorem d3_155 : decode prog_34_method_2_code 155 = .ok (.goto 19, 3) := by decide +kernel
theorem d3_158 : decode prog_34_method_2_code 158 = .ok (.aload_n 0, 1) := by decide +kernel
theorem d3_159 : decode prog_34_method_2_code 159 = .ok (.iload 5, 2) := by decide +kernel
theorem d3_161 : decode prog_34_method_2_code 161 = .ok (.iload_n 3, 1) := by decide +kernel
theorem d3_162 : decode prog_34_method_2_code 162 = .ok (.invokevirtual 81, 3) := by decide +kernel
theorem d3_165 : decode prog_34_method_2_code 165 = .ok (.goto 9, 3) := by decide +kernel
theorem d3_168 : decode prog_34_method_2_code 168 = .ok (.aload_n 0, 1) := by decide +kernel
theorem d3_169 : decode prog_34_method_2_code 169 = .ok (.iload 5, 2) := by decide +kernel
theorem d3_171 : decode prog_34_method_2_code 171 = .ok (.invokevirtual 84, 3) := by decide +kernel
theorem d3_174 : decode prog_34_method_2_code 174 = .ok (.istore 5, 2) := by decide +kernel
theorem d3_176 : decode prog_34_method_2_code 176 = .ok (.goto (-104), 3) := by decide +kernel
theorem d3_179 : decode prog_34_method_2_code 179 = .ok (.iload 5, 2) := by decide +kernel
theorem d3_181 : decode prog_34_method_2_code 181 = .ok (.iload_n 2, 1) := by decide +kernel
theorem d3_182 : decode prog_34_method_2_code 182 = .ok (.if_icmp .le 16, 3) := by decide +kernel
theorem d3_185 : decode prog_34_method_2_code 185 = .ok (.aload_n 0, 1) := by decide +kernel
theorem d3_186 : decode prog_34_method_2_code 186 = .ok (.aload_n 0, 1) := by decide +kernel
theorem d3_187 : decode prog_34_method_2_code 187 = .ok (.getfield 40, 3) := by decide +kernel
theorem d3_190 : decode prog_34_method_2_code 190 = .ok (.iload 5, 2) := by decide +kernel
theorem d3_192 : decode prog_34_method_2_code 192 = .ok (.iconst 1, 1) := by decide +kernel
theorem d3_193 : decode prog_34_method_2_code 193 = .ok (.isub, 1) := by decide +kernel
theorem d3_194 : decode prog_34_method_2_code 194 = .ok (.caload, 1) := by decide +kernel
theorem d3_195 : decode prog_34_method_2_code 195 = .ok (.putfield 88, 3) := by decide +kernel
theorem d3_198 : decode prog_34_method_2_code 198 = .ok (.aload_n 0, 1) := by decide +kernel
theorem d3_199 : decode prog_34_method_2_code 199 = .ok (.getfield 22, 3) := by decide +kernel
theorem d3_202 : decode prog_34_method_2_code 202 = .ok (.ifCond .lt 20, 3) := by decide +kernel
theorem d3_205 : decode prog_34_method_2_code 205 = .ok (.aload_n 0, 1) := by decide +kernel
theorem d3_206 : decode prog_34_method_2_code 206 = .ok (.aload_n 0, 1) := by decide +kernel
theorem d3_207 : decode prog_34_method_2_code 207 = .ok (.aload_n 0, 1) := by decide +kernel
theorem d3_208 : decode prog_34_method_2_code 208 = .ok (.getfield 22, 3) := by decide +kernel
theorem d3_211 : decode prog_34_method_2_code 211 = .ok (.invokevirtual 92, 3) := by decide +kernel
theorem d3_214 : decode prog_34_method_2_code 214 = .ok (.putfield 96, 3) := by decide +kernel
theorem d3_217 : decode prog_34_method_2_code 217 = .ok (.aload_n 0, 1) := by decide +kernel
theorem d3_218 : decode prog_34_method_2_code 218 = .ok (.iconst (-1), 1) := by decide +kernel
theorem d3_219 : decode prog_34_method_2_code 219 = .ok (.putfield 22, 3) := by decide +kernel
theorem d3_222 : decode prog_34_method_2_code 222 = .ok (.aload_n 0, 1) := by decide +kernel
theorem d3_223 : decode prog_34_method_2_code 223 = .ok (.invokevirtual 63, 3) := by decide +kernel
theorem d3_226 : decode prog_34_method_2_code 226 = .ok (.ifCond .eq 29, 3) := by decide +kernel
theorem d3_255 : decode prog_34_method_2_code 255 = .ok (.aload_n 0, 1) := by decide +kernel
theorem d3_256 : decode prog_34_method_2_code 256 = .ok (.aload_n 0, 1) := by decide +kernel
theorem d3_257 : decode prog_34_method_2_code 257 = .ok (.iload 5, 2) := by decide +kernel
theorem d3_259 : decode prog_34_method_2_code 259 = .ok (.invokevirtual 92, 3) := by decide +kernel
theorem d3_262 : decode prog_34_method_2_code 262 = .ok (.putfield 47, 3) := by decide +kernel
theorem d3_265 : decode prog_34_method_2_code 265 = .ok (.aload_n 0, 1) := by decide +kernel
theorem d3_266 : decode prog_34_method_2_code 266 = .ok (.getfield 105, 3) := by decide +kernel
theorem d3_269 : decode prog_34_method_2_code 269 = .ok (.ifCond .eq 24, 3) := by decide +kernel
theorem d3_293 : decode prog_34_method_2_code 293 = .ok (.iload 5, 2) := by decide +kernel
theorem d3_295 : decode prog_34_method_2_code 295 = .ok (.ireturn, 1) := by decide +kernel
theorem pn3 : plainName "com/example/corridor/corridor/iso20022/MarkupScanner" = true := by first | (simp [plainName, overriddenIn]; done) | decide +kernel
theorem pd13 : parseMethodDescriptor "(II)I" = some ⟨[.int, .int], some .int⟩ := by decide +kernel
theorem pd14 : parseMethodDescriptor "(I)I" = some ⟨[.int], some .int⟩ := by decide +kernel
theorem ef_scan1 (m : MethodId) (r0 : Addr) (u : Addr) (en : Addr) : entryFrame m #[(.ref r0), (.ref u), (.int 0), (.int 10), (.ref en)] 6 = mkF m 0 #[.val (.ref r0), .val (.ref u), .val (.int 0), .val (.int 10), .val (.ref en), .unset] [] := by first | (simp [entryFrame, mkF, argsToLocals, Value.category]; done) | rfl
set_option maxRecDepth 65536 in
set_option maxHeartbeats 40000000 in
theorem scan1 (l : Launch) (Z : State) (a0 : Array Value) (hw : ∀ d ∈ tables_1, d.before a0 Z = true) (ws : List Jvm.Cond) (r0 : Addr) (u : Addr) (en : Addr) (ku : ClassId) (cu : Int32) (EC : String) (w : Int32) (sa : Nat → Addr) (wC : Int32) (wF : Value) (h0 : Heap) (n0 : Nat) (Z0 : n0 ≤ h0.size) (I : own_I Z h0 r0 u ku cu en EC w sa) (G : own_G Z h0 r0 [(.ref (sa 0)), (.int 1), (.int (-1)), (.long 1), (.long 1), .null, (.int 0), (.long 0), (.long 0), .null, (.int 0), (.int 0), (.int 0), (.int 0), (.int 0), (.long 0), (.int 0), (.long 0), (.int 0), (.int 0), (.int 0), (.int 0), (.int 0)]) (gn_r0 : n0 ≤ r0) (hEL : EW Z a0 own_EL) (hStr : ∀ a ∈ Bundle.stringAtoms, a.before a0 Z = true) (S_C : Sta Z h0 "java/lang/String" "COMPACT_STRINGS" "Z" (.int wC)) (hC : ¬ (wC = (0 : Int32))) (S_F : Sta Z h0 "jdk/internal/util/Preconditions" "SIOOBE_FORMATTER" "Ljava/util/function/BiFunction;" wF) (hG : wF.isRef = true) :
    MetFree l (⟨"com/example/corridor/corridor/iso20022/MarkupScanner", "scan", "([CIILcom/example/corridor/corridor/iso20022/MarkupScanner$Encoding;)I"⟩ : MethodName) (head1 (Jvm.Cond.code (⟨"com/example/corridor/corridor/iso20022/MarkupScanner", "scan", "([CIILcom/example/corridor/corridor/iso20022/MarkupScanner$Encoding;)I"⟩ : MethodName) prog_34_method_2_code 6 (some .int) :: ws) ({ frames := 5, cells := 12, slots := 168, locals := 68 } : Room)) (fun a U => a = #[(.ref r0), (.ref u), (.int 0), (.int 10), (.ref en)] ∧ Z.Warmed39 U.vm ∧ U.heap = h0 ∧ CHv Z own_EL U.vm h0) (fun _ _ _ _ _ => True) (fun _ U o U' => ∃ v L, o = .returned v ∧ (own_QG Z r0 n0 h0 (some (.int 10)) [(.ref (sa 9)), (.int 0), (.int (-1)), (.long 1), (.long (own_lx cu (1 : Int64))), (.ref u), (.int 0), (.long ((0 : Int64) + ((((10 : Int32) - (0 : Int32)).toInt64) * (w.toInt64)))), (.long 0), (.ref en), (.int w), (.int 0), (.int 0), (.int 6), (.int (own_mk cu)), (.long ((0 : Int64) + ((((9 : Int32) - (0 : Int32)).toInt64) * (w.toInt64)))), (.int (nar .char cu)), (.long ((0 : Int64) + ((((0 : Int32) - (0 : Int32)).toInt64) * (w.toInt64)))), (.int 0), (.int 0), (.int 0), (.int 0), (.int 0)]) v U'.heap L ∧ CHr Z own_EL U.vm U.heap U'.vm U'.heap ∧ ReturnedEndW U o U' L 12 168) := by
  refine MetFree.of_bodySF (plainFor_of_name pn3) hisR ?_
  intro p e s m args below meth c s₁ Bd hml0 hP hK
  obtain ⟨rfl, hZ, hh, hCH⟩ := hP
  have hx := Bd.exec
  have hby := Bd.bytes
  have hml : c.maxLocals = 6 := hml0
  have hown : s.vm.findClass "com/example/corridor/corridor/iso20022/MarkupScanner" = some m.cls := findClass_of_methodNamed Bd.named
  have hnm := (name_of_methodNamed Bd.named Bd.method).1
  have X0 : Stand p l e ({ frames := 5, cells := 12, slots := 168, locals := 68 } : Room) (s.setVm s.vm) m #[(.ref r0), (.ref u), (.int 0), (.int 10), (.ref en)] below meth c s₁ [] 0 0 := Stand.of_body Bd
  have e0 : s₁.heap = h0 := by rw [← hh, Bd.state]; rfl
  have N0 := Fr.nil n0
  have hS0 : s.Since s.vm 0 := (State.WarmedH.refl s).since 0
  have hC0 : CHr Z own_EL s.vm s.heap s.vm h0 := by rw [hh]; exact CHr.refl hCH
  have K0 : Keep h0 h0 [r0] := Keep.refl h0 [r0]
  show own_Goes p e below (own_EndW s Z own_EL (own_QG Z r0 n0 h0 (some (.int 10)) [(.ref (sa 9)), (.int 0), (.int (-1)), (.long 1), (.long (own_lx cu (1 : Int64))), (.ref u), (.int 0), (.long ((0 : Int64) + ((((10 : Int32) - (0 : Int32)).toInt64) * (w.toInt64)))), (.long 0), (.ref en), (.int w), (.int 0), (.int 0), (.int 6), (.int (own_mk cu)), (.long ((0 : Int64) + ((((9 : Int32) - (0 : Int32)).toInt64) * (w.toInt64)))), (.int (nar .char cu)), (.long ((0 : Int64) + ((((0 : Int32) - (0 : Int32)).toInt64) * (w.toInt64)))), (.int 0), (.int 0), (.int 0), (.int 0), (.int 0)]) 12 168) _
  refine own_g (s₁.setTop (mkF m 0 #[.val (.ref r0), .val (.ref u), .val (.int 0), .val (.int 10), .val (.ref en), .unset] [])) (fun t k => castTop (ef_scan1 m r0 u en) k) ?_
  have seg10 : ∀ (T : State) (locs : List Loc) (h : Heap) (vm : Vm) (k0 : Nat) (X : Stand p l e ({ frames := 5, cells := 12, slots := 168, locals := 68 } : Room) (s.setVm vm) m #[(.ref r0), (.ref u), (.int 0), (.int 10), (.ref en)] below meth c T locs 12 168) (eT : T.heap = h) (N : Fr n0 locs) (Zh : n0 ≤ h.size) (Kh : Keep h0 h [r0]) (Ih : own_I Z h r0 u ku cu en EC w sa) (Gh : own_G Z h r0 [(.ref (sa 9)), (.int 0), (.int 0), (.long 1), (.long (own_lx cu (1 : Int64))), (.ref u), (.int 0), (.long 0), (.long 0), (.ref en), (.int w), (.int 0), (.int 0), (.int 6), (.int (own_mk cu)), (.long ((0 : Int64) + ((((9 : Int32) - (0 : Int32)).toInt64) * (w.toInt64)))), (.int 0), (.long 0), (.int 0), (.int 0), (.int 0), (.int 0), (.int 0)]) (hS : s.Since vm k0) (hk : k0 ≤ h.size) (hZ : Z.Warmed39 (s.setVm vm).vm) (hown : (s.setVm vm).vm.findClass "com/example/corridor/corridor/iso20022/MarkupScanner" = some m.cls) (hCv : CHr Z own_EL s.vm s.heap vm h) (S_Cs : Sta Z h "java/lang/String" "COMPACT_STRINGS" "Z" (.int wC)) (S_Fs : Sta Z h "jdk/internal/util/Preconditions" "SIOOBE_FORMATTER" "Ljava/util/function/BiFunction;" wF), own_Goes p e below (own_EndW s Z own_EL (own_QG Z r0 n0 h0 (some (.int 10)) [(.ref (sa 9)), (.int 0), (.int (-1)), (.long 1), (.long (own_lx cu (1 : Int64))), (.ref u), (.int 0), (.long ((0 : Int64) + ((((10 : Int32) - (0 : Int32)).toInt64) * (w.toInt64)))), (.long 0), (.ref en), (.int w), (.int 0), (.int 0), (.int 6), (.int (own_mk cu)), (.long ((0 : Int64) + ((((9 : Int32) - (0 : Int32)).toInt64) * (w.toInt64)))), (.int (nar .char cu)), (.long ((0 : Int64) + ((((0 : Int32) - (0 : Int32)).toInt64) * (w.toInt64)))), (.int 0), (.int 0), (.int 0), (.int 0), (.int 0)]) 12 168) (T.setTop (mkF m 72 #[.val (.ref r0), .val (.ref u), .val (.int 0), .val (.int 10), .val (.ref en), .val (.int 10)] [])) := by
    intro T locs h vm k0 X eT N Zh Kh Ih Gh hS hk hZ hown hCv S_Cs S_Fs
    refine own_g (T.setTop (mkF m 74 #[.val (.ref r0), .val (.ref u), .val (.int 0), .val (.int 10), .val (.ref en), .val (.int 10)] [(.int 10)])) (fun _ k => XS.iload X.here hx rfl (hb hby d3_72) rfl k) ?_
    refine own_g (T.setTop (mkF m 75 #[.val (.ref r0), .val (.ref u), .val (.int 0), .val (.int 10), .val (.ref en), .val (.int 10)] [(.int 10), (.int 10)])) (fun _ k => XS.iloadN X.here hx rfl (hb hby d3_74) rfl k) ?_
    refine own_g (T.setTop (mkF m 179 #[.val (.ref r0), .val (.ref u), .val (.int 0), .val (.int 10), .val (.ref en), .val (.int 10)] [])) (fun _ k => XS.icmpYes X.here hx rfl (pc0 := 75) (pc' := 179) rfl (hb hby d3_75) rfl (flt (by decide : ¬ ((10 : Int32) < (10 : Int32)))).2.1 (by decide) (by decide) k) ?_
    refine own_g (T.setTop (mkF m 181 #[.val (.ref r0), .val (.ref u), .val (.int 0), .val (.int 10), .val (.ref en), .val (.int 10)] [(.int 10)])) (fun _ k => XS.iload X.here hx rfl (hb hby d3_179) rfl k) ?_
    refine own_g (T.setTop (mkF m 182 #[.val (.ref r0), .val (.ref u), .val (.int 0), .val (.int 10), .val (.ref en), .val (.int 10)] [(.int 0), (.int 10)])) (fun _ k => XS.iloadN X.here hx rfl (hb hby d3_181) rfl k) ?_
    refine own_g (T.setTop (mkF m 185 #[.val (.ref r0), .val (.ref u), .val (.int 0), .val (.int 10), .val (.ref en), .val (.int 10)] [])) (fun _ k => XS.icmpNo X.here hx rfl (hb hby d3_182) rfl (tlt (by decide : (0 : Int32) < (10 : Int32))).2.2.2 k) ?_
    refine own_g (T.setTop (mkF m 186 #[.val (.ref r0), .val (.ref u), .val (.int 0), .val (.int 10), .val (.ref en), .val (.int 10)] [(.ref r0)])) (fun _ k => XS.aloadN X.here hx rfl (hb hby d3_185) rfl rfl k) ?_
    refine own_g (T.setTop (mkF m 187 #[.val (.ref r0), .val (.ref u), .val (.int 0), .val (.int 10), .val (.ref en), .val (.int 10)] [(.ref r0), (.ref r0)])) (fun _ k => XS.aloadN X.here hx rfl (hb hby d3_186) rfl rfl k) ?_
    obtain ⟨T45, X45, e45, st45⟩ := getF X hx hZ hown (host := "") (Or.inl (own_w hw 32 rfl)) Via.refl eT (own_Gf Gh 5 rfl rfl) (g := (mkF m 187 #[.val (.ref r0), .val (.ref u), .val (.int 0), .val (.int 10), .val (.ref en), .val (.int 10)] [(.ref r0), (.ref r0)])) rfl rfl (hb hby d3_187)
    refine own_g (T45.setTop (mkF m 190 #[.val (.ref r0), .val (.ref u), .val (.int 0), .val (.int 10), .val (.ref en), .val (.int 10)] [(.ref u), (.ref r0)])) (st45) ?_
    refine own_g (T45.setTop (mkF m 192 #[.val (.ref r0), .val (.ref u), .val (.int 0), .val (.int 10), .val (.ref en), .val (.int 10)] [(.int 10), (.ref u), (.ref r0)])) (fun _ k => XS.iload X45.here hx rfl (hb hby d3_190) rfl k) ?_
    refine own_g (T45.setTop (mkF m 193 #[.val (.ref r0), .val (.ref u), .val (.int 0), .val (.int 10), .val (.ref en), .val (.int 10)] [(.int 1), (.int 10), (.ref u), (.ref r0)])) (fun _ k => XS.iconst X45.here hx rfl (hb hby d3_192) k) ?_
    refine own_g (T45.setTop (mkF m 194 #[.val (.ref r0), .val (.ref u), .val (.int 0), .val (.int 10), .val (.ref en), .val (.int 10)] [(.int ((10 : Int32) - (1 : Int32))), (.ref u), (.ref r0)])) (fun _ k => XS.isub X45.here hx rfl (hb hby d3_193) rfl k) ?_
    rw [show ((10 : Int32) - (1 : Int32)) = (9 : Int32) from by decide]
    obtain ⟨cl46, Ar46, hin46, hat46⟩ := own_I.at Ih (9 : Int32) (by decide) (by decide)
    refine own_g (T45.setTop (mkF m 195 #[.val (.ref r0), .val (.ref u), .val (.int 0), .val (.int 10), .val (.ref en), .val (.int 10)] [(.int cu), (.ref r0)])) (X45.caload hx (j := (9 : Int32)) (v := (.int cu)) (by rw [e45]; exact Ar46.1) (State.isArrayOf_alike hZ.alike Ar46.2.1) Ar46.2.2 hin46 hat46 (g := (mkF m 194 #[.val (.ref r0), .val (.ref u), .val (.int 0), .val (.int 10), .val (.ref en), .val (.int 10)] [(.int 9), (.ref u), (.ref r0)])) rfl rfl (hb hby d3_194)) ?_
    obtain ⟨T47, h47, X47, e47, W47, st47⟩ := putFN X45 hx hZ hown (own_w hw 160 rfl) Via.refl e45 (own_Gf Gh 16 rfl rfl) Gh.1 (Or.inl (own_w hw 161 rfl)) (own_w hw 6 rfl) (ty := .char) (v' := (.int (nar .char cu))) (by decide) rfl (fits_nar_char _) (g := (mkF m 195 #[.val (.ref r0), .val (.ref u), .val (.int 0), .val (.int 10), .val (.ref en), .val (.int 10)] [(.int cu), (.ref r0)])) rfl rfl (hb hby d3_195)
    have G47 : own_G Z h47 r0 [(.ref (sa 9)), (.int 0), (.int 0), (.long 1), (.long (own_lx cu (1 : Int64))), (.ref u), (.int 0), (.long 0), (.long 0), (.ref en), (.int w), (.int 0), (.int 0), (.int 6), (.int (own_mk cu)), (.long ((0 : Int64) + ((((9 : Int32) - (0 : Int32)).toInt64) * (w.toInt64)))), (.int (nar .char cu)), (.long 0), (.int 0), (.int 0), (.int 0), (.int 0), (.int 0)] := own_G.put hw Gh 16 rfl (Nat.le_of_ble_eq_true rfl) W47
    have I47 : own_I Z h47 r0 u ku cu en EC w sa := Ih.wr W47 Gh.1
    have S_Cs_c47 := S_Cs.wr W47
    have S_Fs_c47 := S_Fs.wr W47
    have N47 := Fr.snoc X47 N gn_r0
    have Z47 : n0 ≤ h47.size := Nat.le_trans Zh (Keep.of_wr W47).1
    have K47 : Keep h0 h47 [r0] := Kh.wr W47 (Or.inl (List.mem_of_getElem? (i := 0) rfl))
    have hCt47 := hCv.trans (CHr.wr W47 (Safe.exa hZ.alike Gh.1 (by decide) (by decide)) hCv.1)
    refine own_g (T47.setTop (mkF m 198 #[.val (.ref r0), .val (.ref u), .val (.int 0), .val (.int 10), .val (.ref en), .val (.int 10)] [])) (st47) ?_
    refine own_g (T47.setTop (mkF m 199 #[.val (.ref r0), .val (.ref u), .val (.int 0), .val (.int 10), .val (.ref en), .val (.int 10)] [(.ref r0)])) (fun _ k => XS.aloadN X47.here hx rfl (hb hby d3_198) rfl rfl k) ?_
    obtain ⟨T48, X48, e48, st48⟩ := getF X47 hx hZ hown (host := "") (Or.inl (own_w hw 21 rfl)) Via.refl e47 (own_Gf G47 2 rfl rfl) (g := (mkF m 199 #[.val (.ref r0), .val (.ref u), .val (.int 0), .val (.int 10), .val (.ref en), .val (.int 10)] [(.ref r0)])) rfl rfl (hb hby d3_199)
    refine own_g (T48.setTop (mkF m 202 #[.val (.ref r0), .val (.ref u), .val (.int 0), .val (.int 10), .val (.ref en), .val (.int 10)] [(.int 0)])) (st48) ?_
    refine own_g (T48.setTop (mkF m 205 #[.val (.ref r0), .val (.ref u), .val (.int 0), .val (.int 10), .val (.ref en), .val (.int 10)] [])) (fun _ k => XS.ifNo X48.here hx rfl (hb hby d3_202) rfl ((if0 _ _).trans (flt (by decide : ¬ ((0 : Int32) < (0 : Int32)))).1) k) ?_
    refine own_g (T48.setTop (mkF m 206 #[.val (.ref r0), .val (.ref u), .val (.int 0), .val (.int 10), .val (.ref en), .val (.int 10)] [(.ref r0)])) (fun _ k => XS.aloadN X48.here hx rfl (hb hby d3_205) rfl rfl k) ?_
    refine own_g (T48.setTop (mkF m 207 #[.val (.ref r0), .val (.ref u), .val (.int 0), .val (.int 10), .val (.ref en), .val (.int 10)] [(.ref r0), (.ref r0)])) (fun _ k => XS.aloadN X48.here hx rfl (hb hby d3_206) rfl rfl k) ?_
    refine own_g (T48.setTop (mkF m 208 #[.val (.ref r0), .val (.ref u), .val (.int 0), .val (.int 10), .val (.ref en), .val (.int 10)] [(.ref r0), (.ref r0), (.ref r0)])) (fun _ k => XS.aloadN X48.here hx rfl (hb hby d3_207) rfl rfl k) ?_
    obtain ⟨T49, X49, e49, st49⟩ := getF X48 hx hZ hown (host := "") (Or.inl (own_w hw 21 rfl)) Via.refl e48 (own_Gf G47 2 rfl rfl) (g := (mkF m 208 #[.val (.ref r0), .val (.ref u), .val (.int 0), .val (.int 10), .val (.ref en), .val (.int 10)] [(.ref r0), (.ref r0), (.ref r0)])) rfl rfl (hb hby d3_208)
    refine own_g (T49.setTop (mkF m 211 #[.val (.ref r0), .val (.ref u), .val (.int 0), .val (.int 10), .val (.ref en), .val (.int 10)] [(.int 0), (.ref r0), (.ref r0)])) (st49) ?_
    obtain ⟨cq50, qk50, qk50'⟩ := G47.1.cell
    obtain ⟨_, _, ⟨T50, L50, k50, n50⟩, -, X50, ⟨Lc50, hQ50, l50, y50, z50⟩, st50⟩ := X49.privateBack hx (y := (⟨"com/example/corridor/corridor/iso20022/MarkupScanner", "offsetAt", "(I)J"⟩ : MethodName)) hown (mvT hZ (own_w hw 136 rfl)) (mvT hZ (own_w hw 137 rfl)) (mvT hZ (own_selPriv (own_w hw 137 rfl) (own_w hw 138 rfl) (own_w hw 30 rfl) rfl (by decide))) (Cond.privateMethod_at (mvP hZ (own_w hw 138 rfl) (args := #[]))) (mvT hZ (own_w hw 139 rfl)) (by decide) (backOf (W := 1) (off l Z a0 hw [] r0 (0 : Int32) u ku cu en EC w sa (.ref (sa 9)) (.int 0) (.int 0) (.long 1) (.long (own_lx cu (1 : Int64))) (.ref u) (0 : Int32) (.long 0) (0 : Int64) (.ref en) w (.int 0) (.int 0) (.int 6) (.int (own_mk cu)) (.long ((0 : Int64) + ((((9 : Int32) - (0 : Int32)).toInt64) * (w.toInt64)))) (.int (nar .char cu)) (.long 0) (.int 0) (.int 0) (.int 0) (.int 0) (.int 0) h47 n0 Z47 I47 G47 gn_r0) hZ (own_w hw 139 rfl) (own_w hw 7 rfl) (by decide) (by decide)) (g := (mkF m 211 #[.val (.ref r0), .val (.ref u), .val (.int 0), .val (.int 10), .val (.ref en), .val (.int 10)] [(.int 0), (.ref r0), (.ref r0)])) rfl (by rw [hml]; rfl) (Steps.refl _) (a := r0) (by rw [e49]; exact qk50) qk50' (argsL := [(.int 0)]) (rest := [(.ref r0)]) (lenOf pd6 rfl) rfl (by show 2 * 0 + _ ≤ _; exact Nat.le_of_eq rfl) (hb hby d3_211) (fun _ _ => ⟨rfl, e49, (by decide : 12 + 0 ≤ _), (by decide : 168 + 0 ≤ _)⟩)
    dsimp only [Pt.U, Pt.locs, Pt.cells, Pt.slots] at X50 l50 y50 z50 st50 hQ50
    subst l50 y50 z50
    obtain ⟨rfl, Nq50, e50⟩ := hQ50
    have N50 := Fr.app N47 Nq50
    refine own_g (T50.setTop (mkF m 214 #[.val (.ref r0), .val (.ref u), .val (.int 0), .val (.int 10), .val (.ref en), .val (.int 10)] [(.long ((0 : Int64) + ((((0 : Int32) - (0 : Int32)).toInt64) * (w.toInt64)))), (.ref r0)])) (fun _ k => st50.trans k) ?_
    obtain ⟨T51, h51, X51, e51, W51, st51⟩ := putF X50 hx hZ hown (host := "") (Or.inl (own_w hw 162 rfl)) Via.refl e50 (own_Gf G47 17 rfl rfl) G47.1 (Or.inl (own_w hw 163 rfl)) (own_w hw 6 rfl) (ty := .long) (by decide) rfl rfl (g := (mkF m 214 #[.val (.ref r0), .val (.ref u), .val (.int 0), .val (.int 10), .val (.ref en), .val (.int 10)] [(.long ((0 : Int64) + ((((0 : Int32) - (0 : Int32)).toInt64) * (w.toInt64)))), (.ref r0)])) rfl rfl (hb hby d3_214)
    have G51 : own_G Z h51 r0 [(.ref (sa 9)), (.int 0), (.int 0), (.long 1), (.long (own_lx cu (1 : Int64))), (.ref u), (.int 0), (.long 0), (.long 0), (.ref en), (.int w), (.int 0), (.int 0), (.int 6), (.int (own_mk cu)), (.long ((0 : Int64) + ((((9 : Int32) - (0 : Int32)).toInt64) * (w.toInt64)))), (.int (nar .char cu)), (.long ((0 : Int64) + ((((0 : Int32) - (0 : Int32)).toInt64) * (w.toInt64)))), (.int 0), (.int 0), (.int 0), (.int 0), (.int 0)] := own_G.put hw G47 17 rfl (Nat.le_of_ble_eq_true rfl) W51
    have I51 : own_I Z h51 r0 u ku cu en EC w sa := I47.wr W51 G47.1
    have S_Cs_c51 := S_Cs_c47.wr W51
    have S_Fs_c51 := S_Fs_c47.wr W51
    have N51 := Fr.snoc X51 N50 gn_r0
    have Z51 : n0 ≤ h51.size := Nat.le_trans Z47 (Keep.of_wr W51).1
    have K51 : Keep h0 h51 [r0] := K47.wr W51 (Or.inl (List.mem_of_getElem? (i := 0) rfl))
    have hCt51 := hCt47.trans (CHr.wr W51 (Safe.exa hZ.alike G47.1 (by decide) (by decide)) hCt47.1)
    refine own_g (T51.setTop (mkF m 217 #[.val (.ref r0), .val (.ref u), .val (.int 0), .val (.int 10), .val (.ref en), .val (.int 10)] [])) (st51) ?_
    refine own_g (T51.setTop (mkF m 218 #[.val (.ref r0), .val (.ref u), .val (.int 0), .val (.int 10), .val (.ref en), .val (.int 10)] [(.ref r0)])) (fun _ k => XS.aloadN X51.here hx rfl (hb hby d3_217) rfl rfl k) ?_
    refine own_g (T51.setTop (mkF m 219 #[.val (.ref r0), .val (.ref u), .val (.int 0), .val (.int 10), .val (.ref en), .val (.int 10)] [(.int (-1)), (.ref r0)])) (fun _ k => XS.iconst X51.here hx rfl (hb hby d3_218) k) ?_
    obtain ⟨T52, h52, X52, e52, W52, st52⟩ := putF X51 hx hZ hown (host := "") (Or.inl (own_w hw 21 rfl)) Via.refl e51 (own_Gf G51 2 rfl rfl) G51.1 (Or.inl (own_w hw 22 rfl)) (own_w hw 6 rfl) (ty := .int) (by decide) rfl rfl (g := (mkF m 219 #[.val (.ref r0), .val (.ref u), .val (.int 0), .val (.int 10), .val (.ref en), .val (.int 10)] [(.int (-1)), (.ref r0)])) rfl rfl (hb hby d3_219)
    have G52 : own_G Z h52 r0 [(.ref (sa 9)), (.int 0), (.int (-1)), (.long 1), (.long (own_lx cu (1 : Int64))), (.ref u), (.int 0), (.long 0), (.long 0), (.ref en), (.int w), (.int 0), (.int 0), (.int 6), (.int (own_mk cu)), (.long ((0 : Int64) + ((((9 : Int32) - (0 : Int32)).toInt64) * (w.toInt64)))), (.int (nar .char cu)), (.long ((0 : Int64) + ((((0 : Int32) - (0 : Int32)).toInt64) * (w.toInt64)))), (.int 0), (.int 0), (.int 0), (.int 0), (.int 0)] := own_G.put hw G51 2 rfl (Nat.le_of_ble_eq_true rfl) W52
    have I52 : own_I Z h52 r0 u ku cu en EC w sa := I51.wr W52 G51.1
    have S_Cs_c52 := S_Cs_c51.wr W52
    have S_Fs_c52 := S_Fs_c51.wr W52
    have N52 := Fr.snoc X52 N51 gn_r0
    have Z52 : n0 ≤ h52.size := Nat.le_trans Z51 (Keep.of_wr W52).1
    have K52 : Keep h0 h52 [r0] := K51.wr W52 (Or.inl (List.mem_of_getElem? (i := 0) rfl))
    have hCt52 := hCt51.trans (CHr.wr W52 (Safe.exa hZ.alike G51.1 (by decide) (by decide)) hCt51.1)
    refine own_g (T52.setTop (mkF m 222 #[.val (.ref r0), .val (.ref u), .val (.int 0), .val (.int 10), .val (.ref en), .val (.int 10)] [])) (st52) ?_
    refine own_g (T52.setTop (mkF m 223 #[.val (.ref r0), .val (.ref u), .val (.int 0), .val (.int 10), .val (.ref en), .val (.int 10)] [(.ref r0)])) (fun _ k => XS.aloadN X52.here hx rfl (hb hby d3_222) rfl rfl k) ?_
    obtain ⟨cq53, qk53, qk53'⟩ := G52.1.cell
    obtain ⟨_, _, ⟨T53, L53, k53, n53⟩, -, X53, ⟨Lc53, hQ53, l53, y53, z53⟩, st53⟩ := X52.privateBack hx (y := (⟨"com/example/corridor/corridor/iso20022/MarkupScanner", "inName", "()Z"⟩ : MethodName)) hown (mvT hZ (own_w hw 46 rfl)) (mvT hZ (own_w hw 47 rfl)) (mvT hZ (own_selPriv (own_w hw 47 rfl) (own_w hw 48 rfl) (own_w hw 30 rfl) rfl (by decide))) (Cond.privateMethod_at (mvP hZ (own_w hw 48 rfl) (args := #[]))) (mvT hZ (own_w hw 49 rfl)) (by decide) (backOf (W := 0) (inn l Z a0 hw [] r0 u ku cu en EC w sa (sa 9) (.int 0) (.int (-1)) (.long 1) (.long (own_lx cu (1 : Int64))) (.ref u) (.int 0) (.long 0) (.long 0) (.ref en) (.int w) (.int 0) (.int 0) (.int 6) (.int (own_mk cu)) (.long ((0 : Int64) + ((((9 : Int32) - (0 : Int32)).toInt64) * (w.toInt64)))) (.int (nar .char cu)) (.long ((0 : Int64) + ((((0 : Int32) - (0 : Int32)).toInt64) * (w.toInt64)))) (.int 0) (.int 0) (.int 0) (.int 0) (.int 0) h52 n0 Z52 I52 G52 gn_r0 (own_I.ne I52 6 2 rfl rfl (by decide)) (own_I.ne I52 6 5 rfl rfl (by decide))) hZ (own_w hw 49 rfl) (own_w hw 7 rfl) (by decide) (by decide)) (g := (mkF m 223 #[.val (.ref r0), .val (.ref u), .val (.int 0), .val (.int 10), .val (.ref en), .val (.int 10)] [(.ref r0)])) rfl (by rw [hml]; rfl) (Steps.refl _) (a := r0) (by rw [e52]; exact qk53) qk53' (argsL := []) (rest := []) (lenOf pd10 rfl) rfl (by show 2 * 0 + _ ≤ _; exact Nat.le_of_eq rfl) (hb hby d3_223) (fun _ _ => ⟨rfl, e52, (by decide : 12 + 0 ≤ _), (by decide : 168 + 0 ≤ _)⟩)
    dsimp only [Pt.U, Pt.locs, Pt.cells, Pt.slots] at X53 l53 y53 z53 st53 hQ53
    subst l53 y53 z53
    obtain ⟨rfl, Nq53, e53⟩ := hQ53
    have N53 := Fr.app N52 Nq53
    refine own_g (T53.setTop (mkF m 226 #[.val (.ref r0), .val (.ref u), .val (.int 0), .val (.int 10), .val (.ref en), .val (.int 10)] [(.int 0)])) (fun _ k => st53.trans k) ?_
    refine own_g (T53.setTop (mkF m 255 #[.val (.ref r0), .val (.ref u), .val (.int 0), .val (.int 10), .val (.ref en), .val (.int 10)] [])) (fun _ k => XS.ifYes X53.here hx rfl (pc0 := 226) (pc' := 255) rfl (hb hby d3_226) rfl ((if0 _ _).trans (teq (by decide : (0 : Int32) = (0 : Int32))).1) (by decide) (by decide) k) ?_
    refine own_g (T53.setTop (mkF m 256 #[.val (.ref r0), .val (.ref u), .val (.int 0), .val (.int 10), .val (.ref en), .val (.int 10)] [(.ref r0)])) (fun _ k => XS.aloadN X53.here hx rfl (hb hby d3_255) rfl rfl k) ?_
    refine own_g (T53.setTop (mkF m 257 #[.val (.ref r0), .val (.ref u), .val (.int 0), .val (.int 10), .val (.ref en), .val (.int 10)] [(.ref r0), (.ref r0)])) (fun _ k => XS.aloadN X53.here hx rfl (hb hby d3_256) rfl rfl k) ?_
    refine own_g (T53.setTop (mkF m 259 #[.val (.ref r0), .val (.ref u), .val (.int 0), .val (.int 10), .val (.ref en), .val (.int 10)] [(.int 10), (.ref r0), (.ref r0)])) (fun _ k => XS.iload X53.here hx rfl (hb hby d3_257) rfl k) ?_
    obtain ⟨cq54, qk54, qk54'⟩ := G52.1.cell
    obtain ⟨_, _, ⟨T54, L54, k54, n54⟩, -, X54, ⟨Lc54, hQ54, l54, y54, z54⟩, st54⟩ := X53.privateBack hx (y := (⟨"com/example/corridor/corridor/iso20022/MarkupScanner", "offsetAt", "(I)J"⟩ : MethodName)) hown (mvT hZ (own_w hw 136 rfl)) (mvT hZ (own_w hw 137 rfl)) (mvT hZ (own_selPriv (own_w hw 137 rfl) (own_w hw 138 rfl) (own_w hw 30 rfl) rfl (by decide))) (Cond.privateMethod_at (mvP hZ (own_w hw 138 rfl) (args := #[]))) (mvT hZ (own_w hw 139 rfl)) (by decide) (backOf (W := 1) (off l Z a0 hw [] r0 (10 : Int32) u ku cu en EC w sa (.ref (sa 9)) (.int 0) (.int (-1)) (.long 1) (.long (own_lx cu (1 : Int64))) (.ref u) (0 : Int32) (.long 0) (0 : Int64) (.ref en) w (.int 0) (.int 0) (.int 6) (.int (own_mk cu)) (.long ((0 : Int64) + ((((9 : Int32) - (0 : Int32)).toInt64) * (w.toInt64)))) (.int (nar .char cu)) (.long ((0 : Int64) + ((((0 : Int32) - (0 : Int32)).toInt64) * (w.toInt64)))) (.int 0) (.int 0) (.int 0) (.int 0) (.int 0) h52 n0 Z52 I52 G52 gn_r0) hZ (own_w hw 139 rfl) (own_w hw 7 rfl) (by decide) (by decide)) (g := (mkF m 259 #[.val (.ref r0), .val (.ref u), .val (.int 0), .val (.int 10), .val (.ref en), .val (.int 10)] [(.int 10), (.ref r0), (.ref r0)])) rfl (by rw [hml]; rfl) (Steps.refl _) (a := r0) (by rw [e53]; exact qk54) qk54' (argsL := [(.int 10)]) (rest := [(.ref r0)]) (lenOf pd6 rfl) rfl (by show 2 * 0 + _ ≤ _; exact Nat.le_of_eq rfl) (hb hby d3_259) (fun _ _ => ⟨rfl, e53, (by decide : 12 + 0 ≤ _), (by decide : 168 + 0 ≤ _)⟩)
    dsimp only [Pt.U, Pt.locs, Pt.cells, Pt.slots] at X54 l54 y54 z54 st54 hQ54
    subst l54 y54 z54
    obtain ⟨rfl, Nq54, e54⟩ := hQ54
    have N54 := Fr.app N53 Nq54
    refine own_g (T54.setTop (mkF m 262 #[.val (.ref r0), .val (.ref u), .val (.int 0), .val (.int 10), .val (.ref en), .val (.int 10)] [(.long ((0 : Int64) + ((((10 : Int32) - (0 : Int32)).toInt64) * (w.toInt64)))), (.ref r0)])) (fun _ k => st54.trans k) ?_
    obtain ⟨T55, h55, X55, e55, W55, st55⟩ := putF X54 hx hZ hown (host := "") (Or.inl (own_w hw 36 rfl)) Via.refl e54 (own_Gf G52 7 rfl rfl) G52.1 (Or.inl (own_w hw 37 rfl)) (own_w hw 6 rfl) (ty := .long) (by decide) rfl rfl (g := (mkF m 262 #[.val (.ref r0), .val (.ref u), .val (.int 0), .val (.int 10), .val (.ref en), .val (.int 10)] [(.long ((0 : Int64) + ((((10 : Int32) - (0 : Int32)).toInt64) * (w.toInt64)))), (.ref r0)])) rfl rfl (hb hby d3_262)
    have G55 : own_G Z h55 r0 [(.ref (sa 9)), (.int 0), (.int (-1)), (.long 1), (.long (own_lx cu (1 : Int64))), (.ref u), (.int 0), (.long ((0 : Int64) + ((((10 : Int32) - (0 : Int32)).toInt64) * (w.toInt64)))), (.long 0), (.ref en), (.int w), (.int 0), (.int 0), (.int 6), (.int (own_mk cu)), (.long ((0 : Int64) + ((((9 : Int32) - (0 : Int32)).toInt64) * (w.toInt64)))), (.int (nar .char cu)), (.long ((0 : Int64) + ((((0 : Int32) - (0 : Int32)).toInt64) * (w.toInt64)))), (.int 0), (.int 0), (.int 0), (.int 0), (.int 0)] := own_G.put hw G52 7 rfl (Nat.le_of_ble_eq_true rfl) W55
    have I55 : own_I Z h55 r0 u ku cu en EC w sa := I52.wr W55 G52.1
    have S_Cs_c55 := S_Cs_c52.wr W55
    have S_Fs_c55 := S_Fs_c52.wr W55
    have N55 := Fr.snoc X55 N54 gn_r0
    have Z55 : n0 ≤ h55.size := Nat.le_trans Z52 (Keep.of_wr W55).1
    have K55 : Keep h0 h55 [r0] := K52.wr W55 (Or.inl (List.mem_of_getElem? (i := 0) rfl))
    have hCt55 := hCt52.trans (CHr.wr W55 (Safe.exa hZ.alike G52.1 (by decide) (by decide)) hCt52.1)
    refine own_g (T55.setTop (mkF m 265 #[.val (.ref r0), .val (.ref u), .val (.int 0), .val (.int 10), .val (.ref en), .val (.int 10)] [])) (st55) ?_
    refine own_g (T55.setTop (mkF m 266 #[.val (.ref r0), .val (.ref u), .val (.int 0), .val (.int 10), .val (.ref en), .val (.int 10)] [(.ref r0)])) (fun _ k => XS.aloadN X55.here hx rfl (hb hby d3_265) rfl rfl k) ?_
    obtain ⟨T56, X56, e56, st56⟩ := getF X55 hx hZ hown (host := "") (Or.inl (own_w hw 73 rfl)) Via.refl e55 (own_Gf G55 12 rfl rfl) (g := (mkF m 266 #[.val (.ref r0), .val (.ref u), .val (.int 0), .val (.int 10), .val (.ref en), .val (.int 10)] [(.ref r0)])) rfl rfl (hb hby d3_266)
    refine own_g (T56.setTop (mkF m 269 #[.val (.ref r0), .val (.ref u), .val (.int 0), .val (.int 10), .val (.ref en), .val (.int 10)] [(.int 0)])) (st56) ?_
    refine own_g (T56.setTop (mkF m 293 #[.val (.ref r0), .val (.ref u), .val (.int 0), .val (.int 10), .val (.ref en), .val (.int 10)] [])) (fun _ k => XS.ifYes X56.here hx rfl (pc0 := 269) (pc' := 293) rfl (hb hby d3_269) rfl ((if0 _ _).trans (teq (by decide : (0 : Int32) = (0 : Int32))).1) (by decide) (by decide) k) ?_
    refine own_g (T56.setTop (mkF m 295 #[.val (.ref r0), .val (.ref u), .val (.int 0), .val (.int 10), .val (.ref en), .val (.int 10)] [(.int 10)])) (fun _ k => XS.iload X56.here hx rfl (hb hby d3_293) rfl k) ?_
    exact own_retIW X56 hx Bd.returns (hb hby d3_295) Bd.notSynchronized hS (by rw [e56]; exact (Nat.le_trans (Nat.le_trans (Nat.le_trans (Nat.le_trans hk (Keep.of_wr W47).1) (Keep.of_wr W51).1) (Keep.of_wr W52).1) (Keep.of_wr W55).1)) hZ hEL (by rw [e56]; exact hCt55) (by decide) (by decide) (by rw [e56]; exact ⟨rfl, N55, K55, G55⟩)
  have seg9 : ∀ (T : State) (locs : List Loc) (h : Heap) (vm : Vm) (k0 : Nat) (X : Stand p l e ({ frames := 5, cells := 12, slots := 168, locals := 68 } : Room) (s.setVm vm) m #[(.ref r0), (.ref u), (.int 0), (.int 10), (.ref en)] below meth c T locs 12 168) (eT : T.heap = h) (N : Fr n0 locs) (Zh : n0 ≤ h.size) (Kh : Keep h0 h [r0]) (Ih : own_I Z h r0 u ku cu en EC w sa) (Gh : own_G Z h r0 [(.ref (sa 9)), (.int 0), (.int 0), (.long 1), (.long 1), (.ref u), (.int 0), (.long 0), (.long 0), (.ref en), (.int w), (.int 0), (.int 0), (.int 6), (.int 0), (.long ((0 : Int64) + ((((9 : Int32) - (0 : Int32)).toInt64) * (w.toInt64)))), (.int 0), (.long 0), (.int 0), (.int 0), (.int 0), (.int 0), (.int 0)]) (hS : s.Since vm k0) (hk : k0 ≤ h.size) (hZ : Z.Warmed39 (s.setVm vm).vm) (hown : (s.setVm vm).vm.findClass "com/example/corridor/corridor/iso20022/MarkupScanner" = some m.cls) (hCv : CHr Z own_EL s.vm s.heap vm h) (S_Cs : Sta Z h "java/lang/String" "COMPACT_STRINGS" "Z" (.int wC)) (S_Fs : Sta Z h "jdk/internal/util/Preconditions" "SIOOBE_FORMATTER" "Ljava/util/function/BiFunction;" wF), own_Goes p e below (own_EndW s Z own_EL (own_QG Z r0 n0 h0 (some (.int 10)) [(.ref (sa 9)), (.int 0), (.int (-1)), (.long 1), (.long (own_lx cu (1 : Int64))), (.ref u), (.int 0), (.long ((0 : Int64) + ((((10 : Int32) - (0 : Int32)).toInt64) * (w.toInt64)))), (.long 0), (.ref en), (.int w), (.int 0), (.int 0), (.int 6), (.int (own_mk cu)), (.long ((0 : Int64) + ((((9 : Int32) - (0 : Int32)).toInt64) * (w.toInt64)))), (.int (nar .char cu)), (.long ((0 : Int64) + ((((0 : Int32) - (0 : Int32)).toInt64) * (w.toInt64)))), (.int 0), (.int 0), (.int 0), (.int 0), (.int 0)]) 12 168) (T.setTop (mkF m 72 #[.val (.ref r0), .val (.ref u), .val (.int 0), .val (.int 10), .val (.ref en), .val (.int 9)] [])) := by
    intro T locs h vm k0 X eT N Zh Kh Ih Gh hS hk hZ hown hCv S_Cs S_Fs
    refine own_g (T.setTop (mkF m 74 #[.val (.ref r0), .val (.ref u), .val (.int 0), .val (.int 10), .val (.ref en), .val (.int 9)] [(.int 9)])) (fun _ k => XS.iload X.here hx rfl (hb hby d3_72) rfl k) ?_
    refine own_g (T.setTop (mkF m 75 #[.val (.ref r0), .val (.ref u), .val (.int 0), .val (.int 10), .val (.ref en), .val (.int 9)] [(.int 10), (.int 9)])) (fun _ k => XS.iloadN X.here hx rfl (hb hby d3_74) rfl k) ?_
    refine own_g (T.setTop (mkF m 78 #[.val (.ref r0), .val (.ref u), .val (.int 0), .val (.int 10), .val (.ref en), .val (.int 9)] [])) (fun _ k => XS.icmpNo X.here hx rfl (hb hby d3_75) rfl (tlt (by decide : (9 : Int32) < (10 : Int32))).2.1 k) ?_
    refine own_g (T.setTop (mkF m 79 #[.val (.ref r0), .val (.ref u), .val (.int 0), .val (.int 10), .val (.ref en), .val (.int 9)] [(.ref r0)])) (fun _ k => XS.aloadN X.here hx rfl (hb hby d3_78) rfl rfl k) ?_
    obtain ⟨T41, X41, e41, st41⟩ := getF X hx hZ hown (host := "") (Or.inl (own_w hw 54 rfl)) Via.refl eT (own_Gf Gh 11 rfl rfl) (g := (mkF m 79 #[.val (.ref r0), .val (.ref u), .val (.int 0), .val (.int 10), .val (.ref en), .val (.int 9)] [(.ref r0)])) rfl rfl (hb hby d3_79)
    refine own_g (T41.setTop (mkF m 82 #[.val (.ref r0), .val (.ref u), .val (.int 0), .val (.int 10), .val (.ref en), .val (.int 9)] [(.int 0)])) (st41) ?_
    refine own_g (T41.setTop (mkF m 85 #[.val (.ref r0), .val (.ref u), .val (.int 0), .val (.int 10), .val (.ref en), .val (.int 9)] [])) (fun _ k => XS.ifNo X41.here hx rfl (hb hby d3_82) rfl ((if0 _ _).trans (teq (by decide : (0 : Int32) = (0 : Int32))).2) k) ?_
    refine own_g (T41.setTop (mkF m 86 #[.val (.ref r0), .val (.ref u), .val (.int 0), .val (.int 10), .val (.ref en), .val (.int 9)] [(.ref r0)])) (fun _ k => XS.aloadN X41.here hx rfl (hb hby d3_85) rfl rfl k) ?_
    obtain ⟨T42, X42, e42, st42⟩ := getF X41 hx hZ hown (host := "") (Or.inl (own_w hw 17 rfl)) Via.refl e41 (own_Gf Gh 0 rfl rfl) (g := (mkF m 86 #[.val (.ref r0), .val (.ref u), .val (.int 0), .val (.int 10), .val (.ref en), .val (.int 9)] [(.ref r0)])) rfl rfl (hb hby d3_86)
    refine own_g (T42.setTop (mkF m 89 #[.val (.ref r0), .val (.ref u), .val (.int 0), .val (.int 10), .val (.ref en), .val (.int 9)] [(.ref (sa 9))])) (st42) ?_
    obtain ⟨cq43, kq43, qk43a, qk43b, qk43c⟩ := isOf hZ e42 (show Exa Z h (sa 9) "com/example/corridor/corridor/iso20022/MarkupScanner$State" from (Ih.1 6 _ rfl).2.1)
    obtain ⟨_, _, ⟨T43, L43, k43, n43⟩, -, X43, ⟨Lc43, hQ43, l43, y43, z43⟩, st43⟩ := X42.virtualBackUp hx (x := (⟨"com/example/corridor/corridor/iso20022/MarkupScanner$State", "ordinal", "()I"⟩ : MethodName)) (y := (⟨"java/lang/Enum", "ordinal", "()I"⟩ : MethodName)) (owner := "java/lang/Enum") hown (mvT hZ (own_w hw 56 rfl)) (mvT hZ (own_w hw 57 rfl)) (mvT hZ (own_w hw 58 rfl)) (by decide) (mvT hZ (own_w hw 60 rfl)) (mvT hZ (own_w hw 59 rfl)) (backOf (W := 0) (ord l Z a0 hw [] (sa 9) (9 : Int32) h n0 Zh (show Fld Z h (sa 9) "java/lang/Enum" "ordinal" "I" (.int 9) from (Ih.1 6 _ rfl).2.2.1)) hZ (own_w hw 62 rfl) (own_w hw 61 rfl) (by decide) (by decide)) qk43a qk43c (g := (mkF m 89 #[.val (.ref r0), .val (.ref u), .val (.int 0), .val (.int 10), .val (.ref en), .val (.int 9)] [(.ref (sa 9))])) rfl (by rw [hml]; rfl) (Steps.refl _) (argsL := []) (rest := []) (lenOf pd4 rfl) rfl (by show 2 * 0 + _ ≤ _; exact Nat.le_of_eq rfl) (hb hby d3_89) (fun _ _ => ⟨rfl, e42, (by decide : 12 + 0 ≤ _), (by decide : 168 + 0 ≤ _)⟩)
    dsimp only [Pt.U, Pt.locs, Pt.cells, Pt.slots] at X43 l43 y43 z43 st43 hQ43
    subst l43 y43 z43
    obtain ⟨rfl, Nq43, e43⟩ := hQ43
    have N43 := Fr.app N Nq43
    refine own_g (T43.setTop (mkF m 92 #[.val (.ref r0), .val (.ref u), .val (.int 0), .val (.int 10), .val (.ref en), .val (.int 9)] [(.int 9)])) (fun _ k => st43.trans k) ?_
    refine own_g (T43.setTop (mkF m 158 #[.val (.ref r0), .val (.ref u), .val (.int 0), .val (.int 10), .val (.ref en), .val (.int 9)] [])) (fun _ k => XS.tswIn X43.here hx rfl (pc0 := 92) (pc' := 158) (o := 66) rfl (hb hby d3_92) rfl (by decide) rfl (by decide) (by decide) k) ?_
    refine own_g (T43.setTop (mkF m 159 #[.val (.ref r0), .val (.ref u), .val (.int 0), .val (.int 10), .val (.ref en), .val (.int 9)] [(.ref r0)])) (fun _ k => XS.aloadN X43.here hx rfl (hb hby d3_158) rfl rfl k) ?_
    refine own_g (T43.setTop (mkF m 161 #[.val (.ref r0), .val (.ref u), .val (.int 0), .val (.int 10), .val (.ref en), .val (.int 9)] [(.int 9), (.ref r0)])) (fun _ k => XS.iload X43.here hx rfl (hb hby d3_159) rfl k) ?_
    refine own_g (T43.setTop (mkF m 162 #[.val (.ref r0), .val (.ref u), .val (.int 0), .val (.int 10), .val (.ref en), .val (.int 9)] [(.int 10), (.int 9), (.ref r0)])) (fun _ k => XS.iloadN X43.here hx rfl (hb hby d3_161) rfl k) ?_
    obtain ⟨cq44, qk44, qk44'⟩ := Gh.1.cell
    obtain ⟨_, _, ⟨T44, L44, k44, n44⟩, -, X44, ⟨Lc44, hQ44, l44, y44, z44⟩, st44⟩ := X43.privateBack hx (y := (⟨"com/example/corridor/corridor/iso20022/MarkupScanner", "cdata", "(II)I"⟩ : MethodName)) hown (mvT hZ (own_w hw 144 rfl)) (mvT hZ (own_w hw 145 rfl)) (mvT hZ (own_selPriv (own_w hw 145 rfl) (own_w hw 146 rfl) (own_w hw 30 rfl) rfl (by decide))) (Cond.privateMethod_at (mvP hZ (own_w hw 146 rfl) (args := #[]))) (mvT hZ (own_w hw 147 rfl)) (by decide) (backOf (W := 0) (cd9 l Z a0 hw [] r0 u ku cu en EC w sa (.ref (sa 9)) (.int 0) (.int 0) (.long 1) (1 : Int64) (.long 0) (0 : Int64) (.ref en) w (.int 0) (.int 0) (.int 6) ((0 : Int64) + ((((9 : Int32) - (0 : Int32)).toInt64) * (w.toInt64))) (.int 0) (.long 0) (.int 0) (.int 0) (.int 0) (.int 0) (.int 0) h n0 Zh Ih Gh gn_r0 (own_lz _)) hZ (own_w hw 147 rfl) (own_w hw 7 rfl) (by decide) (by decide)) (g := (mkF m 162 #[.val (.ref r0), .val (.ref u), .val (.int 0), .val (.int 10), .val (.ref en), .val (.int 9)] [(.int 10), (.int 9), (.ref r0)])) rfl (by rw [hml]; rfl) (Steps.refl _) (a := r0) (by rw [e43]; exact qk44) qk44' (argsL := [(.int 9), (.int 10)]) (rest := []) (lenOf pd13 rfl) rfl (by show 2 * 0 + _ ≤ _; exact Nat.le_of_eq rfl) (hb hby d3_162) (fun _ _ => ⟨rfl, e43, (by decide : 12 + 0 ≤ _), (by decide : 168 + 0 ≤ _)⟩)
    dsimp only [Pt.U, Pt.locs, Pt.cells, Pt.slots] at X44 l44 y44 z44 st44 hQ44
    subst l44 y44 z44
    obtain ⟨rfl, Nq44, Kq44, Gq44⟩ := hQ44
    have N44 := Fr.app N43 Nq44
    have I44 : own_I Z T44.heap r0 u ku cu en EC w sa := Ih.keep Kq44 Gh.1
    have G44 : own_G Z T44.heap r0 [(.ref (sa 9)), (.int 0), (.int 0), (.long 1), (.long (own_lx cu (1 : Int64))), (.ref u), (.int 0), (.long 0), (.long 0), (.ref en), (.int w), (.int 0), (.int 0), (.int 6), (.int (own_mk cu)), (.long ((0 : Int64) + ((((9 : Int32) - (0 : Int32)).toInt64) * (w.toInt64)))), (.int 0), (.long 0), (.int 0), (.int 0), (.int 0), (.int 0), (.int 0)] := Gq44
    have S_Cs_c44 := own_stk S_Cs Kq44 Gh.1
    have S_Fs_c44 := own_stk S_Fs Kq44 Gh.1
    have hCt44 := hCv.trans (CHr.keep Kq44 (own_safe1 hZ.alike Gh.1) hCv.1)
    have Z44 : n0 ≤ T44.heap.size := Nat.le_trans Zh Kq44.1
    have K44 : Keep h0 T44.heap [r0] := Kh.trans Kq44 (allS (Or.inl (List.mem_of_getElem? (i := 0) rfl)) all0)
    refine own_g (T44.setTop (mkF m 165 #[.val (.ref r0), .val (.ref u), .val (.int 0), .val (.int 10), .val (.ref en), .val (.int 9)] [(.int 10)])) (fun _ k => st44.trans k) ?_
    refine own_g (T44.setTop (mkF m 174 #[.val (.ref r0), .val (.ref u), .val (.int 0), .val (.int 10), .val (.ref en), .val (.int 9)] [(.int 10)])) (fun _ k => XS.goto X44.here hx rfl (pc0 := 165) (pc' := 174) rfl (hb hby d3_165) (by decide) (by decide) k) ?_
    refine own_g (T44.setTop (mkF m 176 #[.val (.ref r0), .val (.ref u), .val (.int 0), .val (.int 10), .val (.ref en), .val (.int 10)] [])) (fun _ k => XS.istore X44.here hx rfl (hb hby d3_174) rfl (l' := #[.val (.ref r0), .val (.ref u), .val (.int 0), .val (.int 10), .val (.ref en), .val (.int 10)]) rfl k) ?_
    refine own_g (T44.setTop (mkF m 72 #[.val (.ref r0), .val (.ref u), .val (.int 0), .val (.int 10), .val (.ref en), .val (.int 10)] [])) (fun _ k => XS.goto X44.here hx rfl (pc0 := 176) (pc' := 72) rfl (hb hby d3_176) (by decide) (by decide) k) ?_
    exact seg10 _ _ _ _ _ X44 rfl N44 Z44 K44 I44 G44 hS (by exact (Nat.le_trans hk Kq44.1)) hZ hown hCt44 S_Cs_c44 S_Fs_c44
  have seg8 : ∀ (T : State) (locs : List Loc) (h : Heap) (vm : Vm) (k0 : Nat) (X : Stand p l e ({ frames := 5, cells := 12, slots := 168, locals := 68 } : Room) (s.setVm vm) m #[(.ref r0), (.ref u), (.int 0), (.int 10), (.ref en)] below meth c T locs 10 140) (eT : T.heap = h) (N : Fr n0 locs) (Zh : n0 ≤ h.size) (Kh : Keep h0 h [r0]) (Ih : own_I Z h r0 u ku cu en EC w sa) (Gh : own_G Z h r0 [(.ref (sa 5)), (.int 0), (.int 0), (.long 1), (.long 1), (.ref u), (.int 0), (.long 0), (.long 0), (.ref en), (.int w), (.int 0), (.int 1), (.int 5), (.int 0), (.long 0), (.int 0), (.long 0), (.int 0), (.int 0), (.int 0), (.int 0), (.int 0)]) (hS : s.Since vm k0) (hk : k0 ≤ h.size) (hZ : Z.Warmed39 (s.setVm vm).vm) (hown : (s.setVm vm).vm.findClass "com/example/corridor/corridor/iso20022/MarkupScanner" = some m.cls) (hCv : CHr Z own_EL s.vm s.heap vm h) (S_Cs : Sta Z h "java/lang/String" "COMPACT_STRINGS" "Z" (.int wC)) (S_Fs : Sta Z h "jdk/internal/util/Preconditions" "SIOOBE_FORMATTER" "Ljava/util/function/BiFunction;" wF), own_Goes p e below (own_EndW s Z own_EL (own_QG Z r0 n0 h0 (some (.int 10)) [(.ref (sa 9)), (.int 0), (.int (-1)), (.long 1), (.long (own_lx cu (1 : Int64))), (.ref u), (.int 0), (.long ((0 : Int64) + ((((10 : Int32) - (0 : Int32)).toInt64) * (w.toInt64)))), (.long 0), (.ref en), (.int w), (.int 0), (.int 0), (.int 6), (.int (own_mk cu)), (.long ((0 : Int64) + ((((9 : Int32) - (0 : Int32)).toInt64) * (w.toInt64)))), (.int (nar .char cu)), (.long ((0 : Int64) + ((((0 : Int32) - (0 : Int32)).toInt64) * (w.toInt64)))), (.int 0), (.int 0), (.int 0), (.int 0), (.int 0)]) 12 168) (T.setTop (mkF m 72 #[.val (.ref r0), .val (.ref u), .val (.int 0), .val (.int 10), .val (.ref en), .val (.int 8)] [])) := by
    intro T locs h vm k0 X eT N Zh Kh Ih Gh hS hk hZ hown hCv S_Cs S_Fs
    refine own_g (T.setTop (mkF m 74 #[.val (.ref r0), .val (.ref u), .val (.int 0), .val (.int 10), .val (.ref en), .val (.int 8)] [(.int 8)])) (fun _ k => XS.iload X.here hx rfl (hb hby d3_72) rfl k) ?_
    refine own_g (T.setTop (mkF m 75 #[.val (.ref r0), .val (.ref u), .val (.int 0), .val (.int 10), .val (.ref en), .val (.int 8)] [(.int 10), (.int 8)])) (fun _ k => XS.iloadN X.here hx rfl (hb hby d3_74) rfl k) ?_
    refine own_g (T.setTop (mkF m 78 #[.val (.ref r0), .val (.ref u), .val (.int 0), .val (.int 10), .val (.ref en), .val (.int 8)] [])) (fun _ k => XS.icmpNo X.here hx rfl (hb hby d3_75) rfl (tlt (by decide : (8 : Int32) < (10 : Int32))).2.1 k) ?_
    refine own_g (T.setTop (mkF m 79 #[.val (.ref r0), .val (.ref u), .val (.int 0), .val (.int 10), .val (.ref en), .val (.int 8)] [(.ref r0)])) (fun _ k => XS.aloadN X.here hx rfl (hb hby d3_78) rfl rfl k) ?_
    obtain ⟨T37, X37, e37, st37⟩ := getF X hx hZ hown (host := "") (Or.inl (own_w hw 54 rfl)) Via.refl eT (own_Gf Gh 11 rfl rfl) (g := (mkF m 79 #[.val (.ref r0), .val (.ref u), .val (.int 0), .val (.int 10), .val (.ref en), .val (.int 8)] [(.ref r0)])) rfl rfl (hb hby d3_79)
    refine own_g (T37.setTop (mkF m 82 #[.val (.ref r0), .val (.ref u), .val (.int 0), .val (.int 10), .val (.ref en), .val (.int 8)] [(.int 0)])) (st37) ?_
    refine own_g (T37.setTop (mkF m 85 #[.val (.ref r0), .val (.ref u), .val (.int 0), .val (.int 10), .val (.ref en), .val (.int 8)] [])) (fun _ k => XS.ifNo X37.here hx rfl (hb hby d3_82) rfl ((if0 _ _).trans (teq (by decide : (0 : Int32) = (0 : Int32))).2) k) ?_
    refine own_g (T37.setTop (mkF m 86 #[.val (.ref r0), .val (.ref u), .val (.int 0), .val (.int 10), .val (.ref en), .val (.int 8)] [(.ref r0)])) (fun _ k => XS.aloadN X37.here hx rfl (hb hby d3_85) rfl rfl k) ?_
    obtain ⟨T38, X38, e38, st38⟩ := getF X37 hx hZ hown (host := "") (Or.inl (own_w hw 17 rfl)) Via.refl e37 (own_Gf Gh 0 rfl rfl) (g := (mkF m 86 #[.val (.ref r0), .val (.ref u), .val (.int 0), .val (.int 10), .val (.ref en), .val (.int 8)] [(.ref r0)])) rfl rfl (hb hby d3_86)
    refine own_g (T38.setTop (mkF m 89 #[.val (.ref r0), .val (.ref u), .val (.int 0), .val (.int 10), .val (.ref en), .val (.int 8)] [(.ref (sa 5))])) (st38) ?_
    obtain ⟨cq39, kq39, qk39a, qk39b, qk39c⟩ := isOf hZ e38 (show Exa Z h (sa 5) "com/example/corridor/corridor/iso20022/MarkupScanner$State" from (Ih.1 4 _ rfl).2.1)
    obtain ⟨_, _, ⟨T39, L39, k39, n39⟩, -, X39, ⟨Lc39, hQ39, l39, y39, z39⟩, st39⟩ := X38.virtualBackUp hx (x := (⟨"com/example/corridor/corridor/iso20022/MarkupScanner$State", "ordinal", "()I"⟩ : MethodName)) (y := (⟨"java/lang/Enum", "ordinal", "()I"⟩ : MethodName)) (owner := "java/lang/Enum") hown (mvT hZ (own_w hw 56 rfl)) (mvT hZ (own_w hw 57 rfl)) (mvT hZ (own_w hw 58 rfl)) (by decide) (mvT hZ (own_w hw 60 rfl)) (mvT hZ (own_w hw 59 rfl)) (backOf (W := 0) (ord l Z a0 hw [] (sa 5) (5 : Int32) h n0 Zh (show Fld Z h (sa 5) "java/lang/Enum" "ordinal" "I" (.int 5) from (Ih.1 4 _ rfl).2.2.1)) hZ (own_w hw 62 rfl) (own_w hw 61 rfl) (by decide) (by decide)) qk39a qk39c (g := (mkF m 89 #[.val (.ref r0), .val (.ref u), .val (.int 0), .val (.int 10), .val (.ref en), .val (.int 8)] [(.ref (sa 5))])) rfl (by rw [hml]; rfl) (Steps.refl _) (argsL := []) (rest := []) (lenOf pd4 rfl) rfl (by show 2 * 0 + _ ≤ _; exact Nat.le_of_eq rfl) (hb hby d3_89) (fun _ _ => ⟨rfl, e38, (by decide : 10 + 0 ≤ _), (by decide : 140 + 0 ≤ _)⟩)
    dsimp only [Pt.U, Pt.locs, Pt.cells, Pt.slots] at X39 l39 y39 z39 st39 hQ39
    subst l39 y39 z39
    obtain ⟨rfl, Nq39, e39⟩ := hQ39
    have N39 := Fr.app N Nq39
    refine own_g (T39.setTop (mkF m 92 #[.val (.ref r0), .val (.ref u), .val (.int 0), .val (.int 10), .val (.ref en), .val (.int 8)] [(.int 5)])) (fun _ k => st39.trans k) ?_
    refine own_g (T39.setTop (mkF m 168 #[.val (.ref r0), .val (.ref u), .val (.int 0), .val (.int 10), .val (.ref en), .val (.int 8)] [])) (fun _ k => XS.tswIn X39.here hx rfl (pc0 := 92) (pc' := 168) (o := 76) rfl (hb hby d3_92) rfl (by decide) rfl (by decide) (by decide) k) ?_
    refine own_g (T39.setTop (mkF m 169 #[.val (.ref r0), .val (.ref u), .val (.int 0), .val (.int 10), .val (.ref en), .val (.int 8)] [(.ref r0)])) (fun _ k => XS.aloadN X39.here hx rfl (hb hby d3_168) rfl rfl k) ?_
    refine own_g (T39.setTop (mkF m 171 #[.val (.ref r0), .val (.ref u), .val (.int 0), .val (.int 10), .val (.ref en), .val (.int 8)] [(.int 8), (.ref r0)])) (fun _ k => XS.iload X39.here hx rfl (hb hby d3_169) rfl k) ?_
    obtain ⟨cq40, qk40, qk40'⟩ := Gh.1.cell
    obtain ⟨_, _, ⟨T40, L40, k40, n40⟩, -, Xs40, hs40, hg40, ⟨Lc40, hQ40, l40, y40, z40, hD40⟩, st40⟩ := X39.privateBackS hx (y := (⟨"com/example/corridor/corridor/iso20022/MarkupScanner", "other", "(I)I"⟩ : MethodName)) hown (mvT hZ (own_w hw 79 rfl)) (mvT hZ (own_w hw 80 rfl)) (mvT hZ (own_selPriv (own_w hw 80 rfl) (own_w hw 81 rfl) (own_w hw 30 rfl) rfl (by decide))) (Cond.privateMethod_at (mvP hZ (own_w hw 81 rfl) (args := #[]))) (mvT hZ (own_w hw 82 rfl)) (by decide) (backOfSH (W := 0) (s := s) (vm0 := vm) (oth8 l Z a0 hw [] r0 u ku cu en EC w sa wC wF (.int 0) (.int 0) (.long 1) (.long 1) (0 : Int32) (.long 0) (0 : Int64) (.ref en) w (.int 0) (.int 1) (.int 0) (.long 0) (.int 0) (.long 0) (.int 0) (.int 0) (.int 0) (.int 0) (.int 0) h n0 Zh Ih Gh gn_r0 hEL hStr S_Cs hC S_Fs hG) hZ (own_w hw 82 rfl) (own_w hw 7 rfl) (by decide) (by decide) hEL hCv.1) (g := (mkF m 171 #[.val (.ref r0), .val (.ref u), .val (.int 0), .val (.int 10), .val (.ref en), .val (.int 8)] [(.int 8), (.ref r0)])) rfl (by rw [hml]; rfl) (Steps.refl _) (a := r0) (by rw [e39]; exact qk40) qk40' (argsL := [(.int 8)]) (rest := []) (lenOf pd14 rfl) rfl (by show 2 * 0 + _ ≤ _; exact Nat.le_of_eq rfl) (hb hby d3_171) (fun _ _ => ⟨rfl, e39, (by decide : 10 + 2 ≤ _), (by decide : 140 + 28 ≤ _)⟩)
    dsimp only [Pt.U, Pt.locs, Pt.cells, Pt.slots] at Xs40 hs40 hg40 l40 y40 z40 st40 hQ40 hD40
    subst l40 y40 z40
    obtain ⟨X40, hS40, hZ, hown⟩ := rebS hS (by rw [e39]; exact hk) Xs40 hs40 hg40 hZ hown
    have hCt40 := hCv.trans hD40
    obtain ⟨rfl, Nq40, Kq40, Gq40⟩ := hQ40
    have N40 := Fr.app N39 Nq40
    have I40 : own_I Z T40.heap r0 u ku cu en EC w sa := Ih.keep Kq40 Gh.1
    have G40 : own_G Z T40.heap r0 [(.ref (sa 9)), (.int 0), (.int 0), (.long 1), (.long 1), (.ref u), (.int 0), (.long 0), (.long 0), (.ref en), (.int w), (.int 0), (.int 0), (.int 6), (.int 0), (.long ((0 : Int64) + ((((9 : Int32) - (0 : Int32)).toInt64) * (w.toInt64)))), (.int 0), (.long 0), (.int 0), (.int 0), (.int 0), (.int 0), (.int 0)] := Gq40
    have S_Cs_c40 := own_stk S_Cs Kq40 Gh.1
    have S_Fs_c40 := own_stk S_Fs Kq40 Gh.1
    have Z40 : n0 ≤ T40.heap.size := Nat.le_trans Zh Kq40.1
    have K40 : Keep h0 T40.heap [r0] := Kh.trans Kq40 (allS (Or.inl (List.mem_of_getElem? (i := 0) rfl)) all0)
    refine own_g (T40.setTop (mkF m 174 #[.val (.ref r0), .val (.ref u), .val (.int 0), .val (.int 10), .val (.ref en), .val (.int 8)] [(.int 9)])) (fun _ k => st40.trans k) ?_
    refine own_g (T40.setTop (mkF m 176 #[.val (.ref r0), .val (.ref u), .val (.int 0), .val (.int 10), .val (.ref en), .val (.int 9)] [])) (fun _ k => XS.istore X40.here hx rfl (hb hby d3_174) rfl (l' := #[.val (.ref r0), .val (.ref u), .val (.int 0), .val (.int 10), .val (.ref en), .val (.int 9)]) rfl k) ?_
    refine own_g (T40.setTop (mkF m 72 #[.val (.ref r0), .val (.ref u), .val (.int 0), .val (.int 10), .val (.ref en), .val (.int 9)] [])) (fun _ k => XS.goto X40.here hx rfl (pc0 := 176) (pc' := 72) rfl (hb hby d3_176) (by decide) (by decide) k) ?_
    exact seg9 _ _ _ _ _ X40 rfl N40 Z40 K40 I40 G40 hS40 (by exact (Nat.le_refl _)) hZ hown hCt40 S_Cs_c40 S_Fs_c40
  have seg7 : ∀ (T : State) (locs : List Loc) (h : Heap) (vm : Vm) (k0 : Nat) (X : Stand p l e ({ frames := 5, cells := 12, slots := 168, locals := 68 } : Room) (s.setVm vm) m #[(.ref r0), (.ref u), (.int 0), (.int 10), (.ref en)] below meth c T locs 8 112) (eT : T.heap = h) (N : Fr n0 locs) (Zh : n0 ≤ h.size) (Kh : Keep h0 h [r0]) (Ih : own_I Z h r0 u ku cu en EC w sa) (Gh : own_G Z h r0 [(.ref (sa 5)), (.int 0), (.int 0), (.long 1), (.long 1), (.ref u), (.int 0), (.long 0), (.long 0), (.ref en), (.int w), (.int 0), (.int 1), (.int 4), (.int 0), (.long 0), (.int 0), (.long 0), (.int 0), (.int 0), (.int 0), (.int 0), (.int 0)]) (hS : s.Since vm k0) (hk : k0 ≤ h.size) (hZ : Z.Warmed39 (s.setVm vm).vm) (hown : (s.setVm vm).vm.findClass "com/example/corridor/corridor/iso20022/MarkupScanner" = some m.cls) (hCv : CHr Z own_EL s.vm s.heap vm h) (S_Cs : Sta Z h "java/lang/String" "COMPACT_STRINGS" "Z" (.int wC)) (S_Fs : Sta Z h "jdk/internal/util/Preconditions" "SIOOBE_FORMATTER" "Ljava/util/function/BiFunction;" wF), own_Goes p e below (own_EndW s Z own_EL (own_QG Z r0 n0 h0 (some (.int 10)) [(.ref (sa 9)), (.int 0), (.int (-1)), (.long 1), (.long (own_lx cu (1 : Int64))), (.ref u), (.int 0), (.long ((0 : Int64) + ((((10 : Int32) - (0 : Int32)).toInt64) * (w.toInt64)))), (.long 0), (.ref en), (.int w), (.int 0), (.int 0), (.int 6), (.int (own_mk cu)), (.long ((0 : Int64) + ((((9 : Int32) - (0 : Int32)).toInt64) * (w.toInt64)))), (.int (nar .char cu)), (.long ((0 : Int64) + ((((0 : Int32) - (0 : Int32)).toInt64) * (w.toInt64)))), (.int 0), (.int 0), (.int 0), (.int 0), (.int 0)]) 12 168) (T.setTop (mkF m 72 #[.val (.ref r0), .val (.ref u), .val (.int 0), .val (.int 10), .val (.ref en), .val (.int 7)] [])) := by
    intro T locs h vm k0 X eT N Zh Kh Ih Gh hS hk hZ hown hCv S_Cs S_Fs
    refine own_g (T.setTop (mkF m 74 #[.val (.ref r0), .val (.ref u), .val (.int 0), .val (.int 10), .val (.ref en), .val (.int 7)] [(.int 7)])) (fun _ k => XS.iload X.here hx rfl (hb hby d3_72) rfl k) ?_
    refine own_g (T.setTop (mkF m 75 #[.val (.ref r0), .val (.ref u), .val (.int 0), .val (.int 10), .val (.ref en), .val (.int 7)] [(.int 10), (.int 7)])) (fun _ k => XS.iloadN X.here hx rfl (hb hby d3_74) rfl k) ?_
    refine own_g (T.setTop (mkF m 78 #[.val (.ref r0), .val (.ref u), .val (.int 0), .val (.int 10), .val (.ref en), .val (.int 7)] [])) (fun _ k => XS.icmpNo X.here hx rfl (hb hby d3_75) rfl (tlt (by decide : (7 : Int32) < (10 : Int32))).2.1 k) ?_
    refine own_g (T.setTop (mkF m 79 #[.val (.ref r0), .val (.ref u), .val (.int 0), .val (.int 10), .val (.ref en), .val (.int 7)] [(.ref r0)])) (fun _ k => XS.aloadN X.here hx rfl (hb hby d3_78) rfl rfl k) ?_
    obtain ⟨T33, X33, e33, st33⟩ := getF X hx hZ hown (host := "") (Or.inl (own_w hw 54 rfl)) Via.refl eT (own_Gf Gh 11 rfl rfl) (g := (mkF m 79 #[.val (.ref r0), .val (.ref u), .val (.int 0), .val (.int 10), .val (.ref en), .val (.int 7)] [(.ref r0)])) rfl rfl (hb hby d3_79)
    refine own_g (T33.setTop (mkF m 82 #[.val (.ref r0), .val (.ref u), .val (.int 0), .val (.int 10), .val (.ref en), .val (.int 7)] [(.int 0)])) (st33) ?_
    refine own_g (T33.setTop (mkF m 85 #[.val (.ref r0), .val (.ref u), .val (.int 0), .val (.int 10), .val (.ref en), .val (.int 7)] [])) (fun _ k => XS.ifNo X33.here hx rfl (hb hby d3_82) rfl ((if0 _ _).trans (teq (by decide : (0 : Int32) = (0 : Int32))).2) k) ?_
    refine own_g (T33.setTop (mkF m 86 #[.val (.ref r0), .val (.ref u), .val (.int 0), .val (.int 10), .val (.ref en), .val (.int 7)] [(.ref r0)])) (fun _ k => XS.aloadN X33.here hx rfl (hb hby d3_85) rfl rfl k) ?_
    obtain ⟨T34, X34, e34, st34⟩ := getF X33 hx hZ hown (host := "") (Or.inl (own_w hw 17 rfl)) Via.refl e33 (own_Gf Gh 0 rfl rfl) (g := (mkF m 86 #[.val (.ref r0), .val (.ref u), .val (.int 0), .val (.int 10), .val (.ref en), .val (.int 7)] [(.ref r0)])) rfl rfl (hb hby d3_86)
    refine own_g (T34.setTop (mkF m 89 #[.val (.ref r0), .val (.ref u), .val (.int 0), .val (.int 10), .val (.ref en), .val (.int 7)] [(.ref (sa 5))])) (st34) ?_
    obtain ⟨cq35, kq35, qk35a, qk35b, qk35c⟩ := isOf hZ e34 (show Exa Z h (sa 5) "com/example/corridor/corridor/iso20022/MarkupScanner$State" from (Ih.1 4 _ rfl).2.1)
    obtain ⟨_, _, ⟨T35, L35, k35, n35⟩, -, X35, ⟨Lc35, hQ35, l35, y35, z35⟩, st35⟩ := X34.virtualBackUp hx (x := (⟨"com/example/corridor/corridor/iso20022/MarkupScanner$State", "ordinal", "()I"⟩ : MethodName)) (y := (⟨"java/lang/Enum", "ordinal", "()I"⟩ : MethodName)) (owner := "java/lang/Enum") hown (mvT hZ (own_w hw 56 rfl)) (mvT hZ (own_w hw 57 rfl)) (mvT hZ (own_w hw 58 rfl)) (by decide) (mvT hZ (own_w hw 60 rfl)) (mvT hZ (own_w hw 59 rfl)) (backOf (W := 0) (ord l Z a0 hw [] (sa 5) (5 : Int32) h n0 Zh (show Fld Z h (sa 5) "java/lang/Enum" "ordinal" "I" (.int 5) from (Ih.1 4 _ rfl).2.2.1)) hZ (own_w hw 62 rfl) (own_w hw 61 rfl) (by decide) (by decide)) qk35a qk35c (g := (mkF m 89 #[.val (.ref r0), .val (.ref u), .val (.int 0), .val (.int 10), .val (.ref en), .val (.int 7)] [(.ref (sa 5))])) rfl (by rw [hml]; rfl) (Steps.refl _) (argsL := []) (rest := []) (lenOf pd4 rfl) rfl (by show 2 * 0 + _ ≤ _; exact Nat.le_of_eq rfl) (hb hby d3_89) (fun _ _ => ⟨rfl, e34, (by decide : 8 + 0 ≤ _), (by decide : 112 + 0 ≤ _)⟩)
    dsimp only [Pt.U, Pt.locs, Pt.cells, Pt.slots] at X35 l35 y35 z35 st35 hQ35
    subst l35 y35 z35
    obtain ⟨rfl, Nq35, e35⟩ := hQ35
    have N35 := Fr.app N Nq35
    refine own_g (T35.setTop (mkF m 92 #[.val (.ref r0), .val (.ref u), .val (.int 0), .val (.int 10), .val (.ref en), .val (.int 7)] [(.int 5)])) (fun _ k => st35.trans k) ?_
    refine own_g (T35.setTop (mkF m 168 #[.val (.ref r0), .val (.ref u), .val (.int 0), .val (.int 10), .val (.ref en), .val (.int 7)] [])) (fun _ k => XS.tswIn X35.here hx rfl (pc0 := 92) (pc' := 168) (o := 76) rfl (hb hby d3_92) rfl (by decide) rfl (by decide) (by decide) k) ?_
    refine own_g (T35.setTop (mkF m 169 #[.val (.ref r0), .val (.ref u), .val (.int 0), .val (.int 10), .val (.ref en), .val (.int 7)] [(.ref r0)])) (fun _ k => XS.aloadN X35.here hx rfl (hb hby d3_168) rfl rfl k) ?_
    refine own_g (T35.setTop (mkF m 171 #[.val (.ref r0), .val (.ref u), .val (.int 0), .val (.int 10), .val (.ref en), .val (.int 7)] [(.int 7), (.ref r0)])) (fun _ k => XS.iload X35.here hx rfl (hb hby d3_169) rfl k) ?_
    obtain ⟨cq36, qk36, qk36'⟩ := Gh.1.cell
    obtain ⟨_, _, ⟨T36, L36, k36, n36⟩, -, Xs36, hs36, hg36, ⟨Lc36, hQ36, l36, y36, z36, hD36⟩, st36⟩ := X35.privateBackS hx (y := (⟨"com/example/corridor/corridor/iso20022/MarkupScanner", "other", "(I)I"⟩ : MethodName)) hown (mvT hZ (own_w hw 79 rfl)) (mvT hZ (own_w hw 80 rfl)) (mvT hZ (own_selPriv (own_w hw 80 rfl) (own_w hw 81 rfl) (own_w hw 30 rfl) rfl (by decide))) (Cond.privateMethod_at (mvP hZ (own_w hw 81 rfl) (args := #[]))) (mvT hZ (own_w hw 82 rfl)) (by decide) (backOfSH (W := 0) (s := s) (vm0 := vm) (oth7 l Z a0 hw [] r0 u ku cu en EC w sa wC wF (.int 0) (.int 0) (.long 1) (.long 1) (.int 0) (.long 0) (.long 0) (.ref en) (.int w) (.int 0) (.int 1) (.int 0) (.long 0) (.int 0) (.long 0) (.int 0) (.int 0) (.int 0) (.int 0) (.int 0) h n0 Zh Ih Gh gn_r0 hEL hStr S_Cs hC S_Fs hG) hZ (own_w hw 82 rfl) (own_w hw 7 rfl) (by decide) (by decide) hEL hCv.1) (g := (mkF m 171 #[.val (.ref r0), .val (.ref u), .val (.int 0), .val (.int 10), .val (.ref en), .val (.int 7)] [(.int 7), (.ref r0)])) rfl (by rw [hml]; rfl) (Steps.refl _) (a := r0) (by rw [e35]; exact qk36) qk36' (argsL := [(.int 7)]) (rest := []) (lenOf pd14 rfl) rfl (by show 2 * 0 + _ ≤ _; exact Nat.le_of_eq rfl) (hb hby d3_171) (fun _ _ => ⟨rfl, e35, (by decide : 8 + 2 ≤ _), (by decide : 112 + 28 ≤ _)⟩)
    dsimp only [Pt.U, Pt.locs, Pt.cells, Pt.slots] at Xs36 hs36 hg36 l36 y36 z36 st36 hQ36 hD36
    subst l36 y36 z36
    obtain ⟨X36, hS36, hZ, hown⟩ := rebS hS (by rw [e35]; exact hk) Xs36 hs36 hg36 hZ hown
    have hCt36 := hCv.trans hD36
    obtain ⟨rfl, Nq36, Kq36, Gq36⟩ := hQ36
    have N36 := Fr.app N35 Nq36
    have I36 : own_I Z T36.heap r0 u ku cu en EC w sa := Ih.keep Kq36 Gh.1
    have G36 : own_G Z T36.heap r0 [(.ref (sa 5)), (.int 0), (.int 0), (.long 1), (.long 1), (.ref u), (.int 0), (.long 0), (.long 0), (.ref en), (.int w), (.int 0), (.int 1), (.int 5), (.int 0), (.long 0), (.int 0), (.long 0), (.int 0), (.int 0), (.int 0), (.int 0), (.int 0)] := Gq36
    have S_Cs_c36 := own_stk S_Cs Kq36 Gh.1
    have S_Fs_c36 := own_stk S_Fs Kq36 Gh.1
    have Z36 : n0 ≤ T36.heap.size := Nat.le_trans Zh Kq36.1
    have K36 : Keep h0 T36.heap [r0] := Kh.trans Kq36 (allS (Or.inl (List.mem_of_getElem? (i := 0) rfl)) all0)
    refine own_g (T36.setTop (mkF m 174 #[.val (.ref r0), .val (.ref u), .val (.int 0), .val (.int 10), .val (.ref en), .val (.int 7)] [(.int 8)])) (fun _ k => st36.trans k) ?_
    refine own_g (T36.setTop (mkF m 176 #[.val (.ref r0), .val (.ref u), .val (.int 0), .val (.int 10), .val (.ref en), .val (.int 8)] [])) (fun _ k => XS.istore X36.here hx rfl (hb hby d3_174) rfl (l' := #[.val (.ref r0), .val (.ref u), .val (.int 0), .val (.int 10), .val (.ref en), .val (.int 8)]) rfl k) ?_
    refine own_g (T36.setTop (mkF m 72 #[.val (.ref r0), .val (.ref u), .val (.int 0), .val (.int 10), .val (.ref en), .val (.int 8)] [])) (fun _ k => XS.goto X36.here hx rfl (pc0 := 176) (pc' := 72) rfl (hb hby d3_176) (by decide) (by decide) k) ?_
    exact seg8 _ _ _ _ _ X36 rfl N36 Z36 K36 I36 G36 hS36 (by exact (Nat.le_refl _)) hZ hown hCt36 S_Cs_c36 S_Fs_c36
  have seg6 : ∀ (T : State) (locs : List Loc) (h : Heap) (vm : Vm) (k0 : Nat) (X : Stand p l e ({ frames := 5, cells := 12, slots := 168, locals := 68 } : Room) (s.setVm vm) m #[(.ref r0), (.ref u), (.int 0), (.int 10), (.ref en)] below meth c T locs 6 84) (eT : T.heap = h) (N : Fr n0 locs) (Zh : n0 ≤ h.size) (Kh : Keep h0 h [r0]) (Ih : own_I Z h r0 u ku cu en EC w sa) (Gh : own_G Z h r0 [(.ref (sa 5)), (.int 0), (.int 0), (.long 1), (.long 1), (.ref u), (.int 0), (.long 0), (.long 0), (.ref en), (.int w), (.int 0), (.int 1), (.int 3), (.int 0), (.long 0), (.int 0), (.long 0), (.int 0), (.int 0), (.int 0), (.int 0), (.int 0)]) (hS : s.Since vm k0) (hk : k0 ≤ h.size) (hZ : Z.Warmed39 (s.setVm vm).vm) (hown : (s.setVm vm).vm.findClass "com/example/corridor/corridor/iso20022/MarkupScanner" = some m.cls) (hCv : CHr Z own_EL s.vm s.heap vm h) (S_Cs : Sta Z h "java/lang/String" "COMPACT_STRINGS" "Z" (.int wC)) (S_Fs : Sta Z h "jdk/internal/util/Preconditions" "SIOOBE_FORMATTER" "Ljava/util/function/BiFunction;" wF), own_Goes p e below (own_EndW s Z own_EL (own_QG Z r0 n0 h0 (some (.int 10)) [(.ref (sa 9)), (.int 0), (.int (-1)), (.long 1), (.long (own_lx cu (1 : Int64))), (.ref u), (.int 0), (.long ((0 : Int64) + ((((10 : Int32) - (0 : Int32)).toInt64) * (w.toInt64)))), (.long 0), (.ref en), (.int w), (.int 0), (.int 0), (.int 6), (.int (own_mk cu)), (.long ((0 : Int64) + ((((9 : Int32) - (0 : Int32)).toInt64) * (w.toInt64)))), (.int (nar .char cu)), (.long ((0 : Int64) + ((((0 : Int32) - (0 : Int32)).toInt64) * (w.toInt64)))), (.int 0), (.int 0), (.int 0), (.int 0), (.int 0)]) 12 168) (T.setTop (mkF m 72 #[.val (.ref r0), .val (.ref u), .val (.int 0), .val (.int 10), .val (.ref en), .val (.int 6)] [])) := by
    intro T locs h vm k0 X eT N Zh Kh Ih Gh hS hk hZ hown hCv S_Cs S_Fs
    refine own_g (T.setTop (mkF m 74 #[.val (.ref r0), .val (.ref u), .val (.int 0), .val (.int 10), .val (.ref en), .val (.int 6)] [(.int 6)])) (fun _ k => XS.iload X.here hx rfl (hb hby d3_72) rfl k) ?_
    refine own_g (T.setTop (mkF m 75 #[.val (.ref r0), .val (.ref u), .val (.int 0), .val (.int 10), .val (.ref en), .val (.int 6)] [(.int 10), (.int 6)])) (fun _ k => XS.iloadN X.here hx rfl (hb hby d3_74) rfl k) ?_
    refine own_g (T.setTop (mkF m 78 #[.val (.ref r0), .val (.ref u), .val (.int 0), .val (.int 10), .val (.ref en), .val (.int 6)] [])) (fun _ k => XS.icmpNo X.here hx rfl (hb hby d3_75) rfl (tlt (by decide : (6 : Int32) < (10 : Int32))).2.1 k) ?_
    refine own_g (T.setTop (mkF m 79 #[.val (.ref r0), .val (.ref u), .val (.int 0), .val (.int 10), .val (.ref en), .val (.int 6)] [(.ref r0)])) (fun _ k => XS.aloadN X.here hx rfl (hb hby d3_78) rfl rfl k) ?_
    obtain ⟨T29, X29, e29, st29⟩ := getF X hx hZ hown (host := "") (Or.inl (own_w hw 54 rfl)) Via.refl eT (own_Gf Gh 11 rfl rfl) (g := (mkF m 79 #[.val (.ref r0), .val (.ref u), .val (.int 0), .val (.int 10), .val (.ref en), .val (.int 6)] [(.ref r0)])) rfl rfl (hb hby d3_79)
    refine own_g (T29.setTop (mkF m 82 #[.val (.ref r0), .val (.ref u), .val (.int 0), .val (.int 10), .val (.ref en), .val (.int 6)] [(.int 0)])) (st29) ?_
    refine own_g (T29.setTop (mkF m 85 #[.val (.ref r0), .val (.ref u), .val (.int 0), .val (.int 10), .val (.ref en), .val (.int 6)] [])) (fun _ k => XS.ifNo X29.here hx rfl (hb hby d3_82) rfl ((if0 _ _).trans (teq (by decide : (0 : Int32) = (0 : Int32))).2) k) ?_
    refine own_g (T29.setTop (mkF m 86 #[.val (.ref r0), .val (.ref u), .val (.int 0), .val (.int 10), .val (.ref en), .val (.int 6)] [(.ref r0)])) (fun _ k => XS.aloadN X29.here hx rfl (hb hby d3_85) rfl rfl k) ?_
    obtain ⟨T30, X30, e30, st30⟩ := getF X29 hx hZ hown (host := "") (Or.inl (own_w hw 17 rfl)) Via.refl e29 (own_Gf Gh 0 rfl rfl) (g := (mkF m 86 #[.val (.ref r0), .val (.ref u), .val (.int 0), .val (.int 10), .val (.ref en), .val (.int 6)] [(.ref r0)])) rfl rfl (hb hby d3_86)
    refine own_g (T30.setTop (mkF m 89 #[.val (.ref r0), .val (.ref u), .val (.int 0), .val (.int 10), .val (.ref en), .val (.int 6)] [(.ref (sa 5))])) (st30) ?_
    obtain ⟨cq31, kq31, qk31a, qk31b, qk31c⟩ := isOf hZ e30 (show Exa Z h (sa 5) "com/example/corridor/corridor/iso20022/MarkupScanner$State" from (Ih.1 4 _ rfl).2.1)
    obtain ⟨_, _, ⟨T31, L31, k31, n31⟩, -, X31, ⟨Lc31, hQ31, l31, y31, z31⟩, st31⟩ := X30.virtualBackUp hx (x := (⟨"com/example/corridor/corridor/iso20022/MarkupScanner$State", "ordinal", "()I"⟩ : MethodName)) (y := (⟨"java/lang/Enum", "ordinal", "()I"⟩ : MethodName)) (owner := "java/lang/Enum") hown (mvT hZ (own_w hw 56 rfl)) (mvT hZ (own_w hw 57 rfl)) (mvT hZ (own_w hw 58 rfl)) (by decide) (mvT hZ (own_w hw 60 rfl)) (mvT hZ (own_w hw 59 rfl)) (backOf (W := 0) (ord l Z a0 hw [] (sa 5) (5 : Int32) h n0 Zh (show Fld Z h (sa 5) "java/lang/Enum" "ordinal" "I" (.int 5) from (Ih.1 4 _ rfl).2.2.1)) hZ (own_w hw 62 rfl) (own_w hw 61 rfl) (by decide) (by decide)) qk31a qk31c (g := (mkF m 89 #[.val (.ref r0), .val (.ref u), .val (.int 0), .val (.int 10), .val (.ref en), .val (.int 6)] [(.ref (sa 5))])) rfl (by rw [hml]; rfl) (Steps.refl _) (argsL := []) (rest := []) (lenOf pd4 rfl) rfl (by show 2 * 0 + _ ≤ _; exact Nat.le_of_eq rfl) (hb hby d3_89) (fun _ _ => ⟨rfl, e30, (by decide : 6 + 0 ≤ _), (by decide : 84 + 0 ≤ _)⟩)
    dsimp only [Pt.U, Pt.locs, Pt.cells, Pt.slots] at X31 l31 y31 z31 st31 hQ31
    subst l31 y31 z31
    obtain ⟨rfl, Nq31, e31⟩ := hQ31
    have N31 := Fr.app N Nq31
    refine own_g (T31.setTop (mkF m 92 #[.val (.ref r0), .val (.ref u), .val (.int 0), .val (.int 10), .val (.ref en), .val (.int 6)] [(.int 5)])) (fun _ k => st31.trans k) ?_
    refine own_g (T31.setTop (mkF m 168 #[.val (.ref r0), .val (.ref u), .val (.int 0), .val (.int 10), .val (.ref en), .val (.int 6)] [])) (fun _ k => XS.tswIn X31.here hx rfl (pc0 := 92) (pc' := 168) (o := 76) rfl (hb hby d3_92) rfl (by decide) rfl (by decide) (by decide) k) ?_
    refine own_g (T31.setTop (mkF m 169 #[.val (.ref r0), .val (.ref u), .val (.int 0), .val (.int 10), .val (.ref en), .val (.int 6)] [(.ref r0)])) (fun _ k => XS.aloadN X31.here hx rfl (hb hby d3_168) rfl rfl k) ?_
    refine own_g (T31.setTop (mkF m 171 #[.val (.ref r0), .val (.ref u), .val (.int 0), .val (.int 10), .val (.ref en), .val (.int 6)] [(.int 6), (.ref r0)])) (fun _ k => XS.iload X31.here hx rfl (hb hby d3_169) rfl k) ?_
    obtain ⟨cq32, qk32, qk32'⟩ := Gh.1.cell
    obtain ⟨_, _, ⟨T32, L32, k32, n32⟩, -, Xs32, hs32, hg32, ⟨Lc32, hQ32, l32, y32, z32, hD32⟩, st32⟩ := X31.privateBackS hx (y := (⟨"com/example/corridor/corridor/iso20022/MarkupScanner", "other", "(I)I"⟩ : MethodName)) hown (mvT hZ (own_w hw 79 rfl)) (mvT hZ (own_w hw 80 rfl)) (mvT hZ (own_selPriv (own_w hw 80 rfl) (own_w hw 81 rfl) (own_w hw 30 rfl) rfl (by decide))) (Cond.privateMethod_at (mvP hZ (own_w hw 81 rfl) (args := #[]))) (mvT hZ (own_w hw 82 rfl)) (by decide) (backOfSH (W := 0) (s := s) (vm0 := vm) (oth6 l Z a0 hw [] r0 u ku cu en EC w sa wC wF (.int 0) (.int 0) (.long 1) (.long 1) (.int 0) (.long 0) (.long 0) (.ref en) (.int w) (.int 0) (.int 1) (.int 0) (.long 0) (.int 0) (.long 0) (.int 0) (.int 0) (.int 0) (.int 0) (.int 0) h n0 Zh Ih Gh gn_r0 hEL hStr S_Cs hC S_Fs hG) hZ (own_w hw 82 rfl) (own_w hw 7 rfl) (by decide) (by decide) hEL hCv.1) (g := (mkF m 171 #[.val (.ref r0), .val (.ref u), .val (.int 0), .val (.int 10), .val (.ref en), .val (.int 6)] [(.int 6), (.ref r0)])) rfl (by rw [hml]; rfl) (Steps.refl _) (a := r0) (by rw [e31]; exact qk32) qk32' (argsL := [(.int 6)]) (rest := []) (lenOf pd14 rfl) rfl (by show 2 * 0 + _ ≤ _; exact Nat.le_of_eq rfl) (hb hby d3_171) (fun _ _ => ⟨rfl, e31, (by decide : 6 + 2 ≤ _), (by decide : 84 + 28 ≤ _)⟩)
    dsimp only [Pt.U, Pt.locs, Pt.cells, Pt.slots] at Xs32 hs32 hg32 l32 y32 z32 st32 hQ32 hD32
    subst l32 y32 z32
    obtain ⟨X32, hS32, hZ, hown⟩ := rebS hS (by rw [e31]; exact hk) Xs32 hs32 hg32 hZ hown
    have hCt32 := hCv.trans hD32
    obtain ⟨rfl, Nq32, Kq32, Gq32⟩ := hQ32
    have N32 := Fr.app N31 Nq32
    have I32 : own_I Z T32.heap r0 u ku cu en EC w sa := Ih.keep Kq32 Gh.1
    have G32 : own_G Z T32.heap r0 [(.ref (sa 5)), (.int 0), (.int 0), (.long 1), (.long 1), (.ref u), (.int 0), (.long 0), (.long 0), (.ref en), (.int w), (.int 0), (.int 1), (.int 4), (.int 0), (.long 0), (.int 0), (.long 0), (.int 0), (.int 0), (.int 0), (.int 0), (.int 0)] := Gq32
    have S_Cs_c32 := own_stk S_Cs Kq32 Gh.1
    have S_Fs_c32 := own_stk S_Fs Kq32 Gh.1
    have Z32 : n0 ≤ T32.heap.size := Nat.le_trans Zh Kq32.1
    have K32 : Keep h0 T32.heap [r0] := Kh.trans Kq32 (allS (Or.inl (List.mem_of_getElem? (i := 0) rfl)) all0)
    refine own_g (T32.setTop (mkF m 174 #[.val (.ref r0), .val (.ref u), .val (.int 0), .val (.int 10), .val (.ref en), .val (.int 6)] [(.int 7)])) (fun _ k => st32.trans k) ?_
    refine own_g (T32.setTop (mkF m 176 #[.val (.ref r0), .val (.ref u), .val (.int 0), .val (.int 10), .val (.ref en), .val (.int 7)] [])) (fun _ k => XS.istore X32.here hx rfl (hb hby d3_174) rfl (l' := #[.val (.ref r0), .val (.ref u), .val (.int 0), .val (.int 10), .val (.ref en), .val (.int 7)]) rfl k) ?_
    refine own_g (T32.setTop (mkF m 72 #[.val (.ref r0), .val (.ref u), .val (.int 0), .val (.int 10), .val (.ref en), .val (.int 7)] [])) (fun _ k => XS.goto X32.here hx rfl (pc0 := 176) (pc' := 72) rfl (hb hby d3_176) (by decide) (by decide) k) ?_
    exact seg7 _ _ _ _ _ X32 rfl N32 Z32 K32 I32 G32 hS32 (by exact (Nat.le_refl _)) hZ hown hCt32 S_Cs_c32 S_Fs_c32
  have seg5 : ∀ (T : State) (locs : List Loc) (h : Heap) (vm : Vm) (k0 : Nat) (X : Stand p l e ({ frames := 5, cells := 12, slots := 168, locals := 68 } : Room) (s.setVm vm) m #[(.ref r0), (.ref u), (.int 0), (.int 10), (.ref en)] below meth c T locs 4 56) (eT : T.heap = h) (N : Fr n0 locs) (Zh : n0 ≤ h.size) (Kh : Keep h0 h [r0]) (Ih : own_I Z h r0 u ku cu en EC w sa) (Gh : own_G Z h r0 [(.ref (sa 5)), (.int 0), (.int 0), (.long 1), (.long 1), (.ref u), (.int 0), (.long 0), (.long 0), (.ref en), (.int w), (.int 0), (.int 1), (.int 2), (.int 0), (.long 0), (.int 0), (.long 0), (.int 0), (.int 0), (.int 0), (.int 0), (.int 0)]) (hS : s.Since vm k0) (hk : k0 ≤ h.size) (hZ : Z.Warmed39 (s.setVm vm).vm) (hown : (s.setVm vm).vm.findClass "com/example/corridor/corridor/iso20022/MarkupScanner" = some m.cls) (hCv : CHr Z own_EL s.vm s.heap vm h) (S_Cs : Sta Z h "java/lang/String" "COMPACT_STRINGS" "Z" (.int wC)) (S_Fs : Sta Z h "jdk/internal/util/Preconditions" "SIOOBE_FORMATTER" "Ljava/util/function/BiFunction;" wF), own_Goes p e below (own_EndW s Z own_EL (own_QG Z r0 n0 h0 (some (.int 10)) [(.ref (sa 9)), (.int 0), (.int (-1)), (.long 1), (.long (own_lx cu (1 : Int64))), (.ref u), (.int 0), (.long ((0 : Int64) + ((((10 : Int32) - (0 : Int32)).toInt64) * (w.toInt64)))), (.long 0), (.ref en), (.int w), (.int 0), (.int 0), (.int 6), (.int (own_mk cu)), (.long ((0 : Int64) + ((((9 : Int32) - (0 : Int32)).toInt64) * (w.toInt64)))), (.int (nar .char cu)), (.long ((0 : Int64) + ((((0 : Int32) - (0 : Int32)).toInt64) * (w.toInt64)))), (.int 0), (.int 0), (.int 0), (.int 0), (.int 0)]) 12 168) (T.setTop (mkF m 72 #[.val (.ref r0), .val (.ref u), .val (.int 0), .val (.int 10), .val (.ref en), .val (.int 5)] [])) := by
    intro T locs h vm k0 X eT N Zh Kh Ih Gh hS hk hZ hown hCv S_Cs S_Fs
    refine own_g (T.setTop (mkF m 74 #[.val (.ref r0), .val (.ref u), .val (.int 0), .val (.int 10), .val (.ref en), .val (.int 5)] [(.int 5)])) (fun _ k => XS.iload X.here hx rfl (hb hby d3_72) rfl k) ?_
    refine own_g (T.setTop (mkF m 75 #[.val (.ref r0), .val (.ref u), .val (.int 0), .val (.int 10), .val (.ref en), .val (.int 5)] [(.int 10), (.int 5)])) (fun _ k => XS.iloadN X.here hx rfl (hb hby d3_74) rfl k) ?_
    refine own_g (T.setTop (mkF m 78 #[.val (.ref r0), .val (.ref u), .val (.int 0), .val (.int 10), .val (.ref en), .val (.int 5)] [])) (fun _ k => XS.icmpNo X.here hx rfl (hb hby d3_75) rfl (tlt (by decide : (5 : Int32) < (10 : Int32))).2.1 k) ?_
    refine own_g (T.setTop (mkF m 79 #[.val (.ref r0), .val (.ref u), .val (.int 0), .val (.int 10), .val (.ref en), .val (.int 5)] [(.ref r0)])) (fun _ k => XS.aloadN X.here hx rfl (hb hby d3_78) rfl rfl k) ?_
    obtain ⟨T25, X25, e25, st25⟩ := getF X hx hZ hown (host := "") (Or.inl (own_w hw 54 rfl)) Via.refl eT (own_Gf Gh 11 rfl rfl) (g := (mkF m 79 #[.val (.ref r0), .val (.ref u), .val (.int 0), .val (.int 10), .val (.ref en), .val (.int 5)] [(.ref r0)])) rfl rfl (hb hby d3_79)
    refine own_g (T25.setTop (mkF m 82 #[.val (.ref r0), .val (.ref u), .val (.int 0), .val (.int 10), .val (.ref en), .val (.int 5)] [(.int 0)])) (st25) ?_
    refine own_g (T25.setTop (mkF m 85 #[.val (.ref r0), .val (.ref u), .val (.int 0), .val (.int 10), .val (.ref en), .val (.int 5)] [])) (fun _ k => XS.ifNo X25.here hx rfl (hb hby d3_82) rfl ((if0 _ _).trans (teq (by decide : (0 : Int32) = (0 : Int32))).2) k) ?_
    refine own_g (T25.setTop (mkF m 86 #[.val (.ref r0), .val (.ref u), .val (.int 0), .val (.int 10), .val (.ref en), .val (.int 5)] [(.ref r0)])) (fun _ k => XS.aloadN X25.here hx rfl (hb hby d3_85) rfl rfl k) ?_
    obtain ⟨T26, X26, e26, st26⟩ := getF X25 hx hZ hown (host := "") (Or.inl (own_w hw 17 rfl)) Via.refl e25 (own_Gf Gh 0 rfl rfl) (g := (mkF m 86 #[.val (.ref r0), .val (.ref u), .val (.int 0), .val (.int 10), .val (.ref en), .val (.int 5)] [(.ref r0)])) rfl rfl (hb hby d3_86)
    refine own_g (T26.setTop (mkF m 89 #[.val (.ref r0), .val (.ref u), .val (.int 0), .val (.int 10), .val (.ref en), .val (.int 5)] [(.ref (sa 5))])) (st26) ?_
    obtain ⟨cq27, kq27, qk27a, qk27b, qk27c⟩ := isOf hZ e26 (show Exa Z h (sa 5) "com/example/corridor/corridor/iso20022/MarkupScanner$State" from (Ih.1 4 _ rfl).2.1)
    obtain ⟨_, _, ⟨T27, L27, k27, n27⟩, -, X27, ⟨Lc27, hQ27, l27, y27, z27⟩, st27⟩ := X26.virtualBackUp hx (x := (⟨"com/example/corridor/corridor/iso20022/MarkupScanner$State", "ordinal", "()I"⟩ : MethodName)) (y := (⟨"java/lang/Enum", "ordinal", "()I"⟩ : MethodName)) (owner := "java/lang/Enum") hown (mvT hZ (own_w hw 56 rfl)) (mvT hZ (own_w hw 57 rfl)) (mvT hZ (own_w hw 58 rfl)) (by decide) (mvT hZ (own_w hw 60 rfl)) (mvT hZ (own_w hw 59 rfl)) (backOf (W := 0) (ord l Z a0 hw [] (sa 5) (5 : Int32) h n0 Zh (show Fld Z h (sa 5) "java/lang/Enum" "ordinal" "I" (.int 5) from (Ih.1 4 _ rfl).2.2.1)) hZ (own_w hw 62 rfl) (own_w hw 61 rfl) (by decide) (by decide)) qk27a qk27c (g := (mkF m 89 #[.val (.ref r0), .val (.ref u), .val (.int 0), .val (.int 10), .val (.ref en), .val (.int 5)] [(.ref (sa 5))])) rfl (by rw [hml]; rfl) (Steps.refl _) (argsL := []) (rest := []) (lenOf pd4 rfl) rfl (by show 2 * 0 + _ ≤ _; exact Nat.le_of_eq rfl) (hb hby d3_89) (fun _ _ => ⟨rfl, e26, (by decide : 4 + 0 ≤ _), (by decide : 56 + 0 ≤ _)⟩)
    dsimp only [Pt.U, Pt.locs, Pt.cells, Pt.slots] at X27 l27 y27 z27 st27 hQ27
    subst l27 y27 z27
    obtain ⟨rfl, Nq27, e27⟩ := hQ27
    have N27 := Fr.app N Nq27
    refine own_g (T27.setTop (mkF m 92 #[.val (.ref r0), .val (.ref u), .val (.int 0), .val (.int 10), .val (.ref en), .val (.int 5)] [(.int 5)])) (fun _ k => st27.trans k) ?_
    refine own_g (T27.setTop (mkF m 168 #[.val (.ref r0), .val (.ref u), .val (.int 0), .val (.int 10), .val (.ref en), .val (.int 5)] [])) (fun _ k => XS.tswIn X27.here hx rfl (pc0 := 92) (pc' := 168) (o := 76) rfl (hb hby d3_92) rfl (by decide) rfl (by decide) (by decide) k) ?_
    refine own_g (T27.setTop (mkF m 169 #[.val (.ref r0), .val (.ref u), .val (.int 0), .val (.int 10), .val (.ref en), .val (.int 5)] [(.ref r0)])) (fun _ k => XS.aloadN X27.here hx rfl (hb hby d3_168) rfl rfl k) ?_
    refine own_g (T27.setTop (mkF m 171 #[.val (.ref r0), .val (.ref u), .val (.int 0), .val (.int 10), .val (.ref en), .val (.int 5)] [(.int 5), (.ref r0)])) (fun _ k => XS.iload X27.here hx rfl (hb hby d3_169) rfl k) ?_
    obtain ⟨cq28, qk28, qk28'⟩ := Gh.1.cell
    obtain ⟨_, _, ⟨T28, L28, k28, n28⟩, -, Xs28, hs28, hg28, ⟨Lc28, hQ28, l28, y28, z28, hD28⟩, st28⟩ := X27.privateBackS hx (y := (⟨"com/example/corridor/corridor/iso20022/MarkupScanner", "other", "(I)I"⟩ : MethodName)) hown (mvT hZ (own_w hw 79 rfl)) (mvT hZ (own_w hw 80 rfl)) (mvT hZ (own_selPriv (own_w hw 80 rfl) (own_w hw 81 rfl) (own_w hw 30 rfl) rfl (by decide))) (Cond.privateMethod_at (mvP hZ (own_w hw 81 rfl) (args := #[]))) (mvT hZ (own_w hw 82 rfl)) (by decide) (backOfSH (W := 0) (s := s) (vm0 := vm) (oth5 l Z a0 hw [] r0 u ku cu en EC w sa wC wF (.int 0) (.int 0) (.long 1) (.long 1) (.int 0) (.long 0) (.long 0) (.ref en) (.int w) (.int 0) (.int 1) (.int 0) (.long 0) (.int 0) (.long 0) (.int 0) (.int 0) (.int 0) (.int 0) (.int 0) h n0 Zh Ih Gh gn_r0 hEL hStr S_Cs hC S_Fs hG) hZ (own_w hw 82 rfl) (own_w hw 7 rfl) (by decide) (by decide) hEL hCv.1) (g := (mkF m 171 #[.val (.ref r0), .val (.ref u), .val (.int 0), .val (.int 10), .val (.ref en), .val (.int 5)] [(.int 5), (.ref r0)])) rfl (by rw [hml]; rfl) (Steps.refl _) (a := r0) (by rw [e27]; exact qk28) qk28' (argsL := [(.int 5)]) (rest := []) (lenOf pd14 rfl) rfl (by show 2 * 0 + _ ≤ _; exact Nat.le_of_eq rfl) (hb hby d3_171) (fun _ _ => ⟨rfl, e27, (by decide : 4 + 2 ≤ _), (by decide : 56 + 28 ≤ _)⟩)
    dsimp only [Pt.U, Pt.locs, Pt.cells, Pt.slots] at Xs28 hs28 hg28 l28 y28 z28 st28 hQ28 hD28
    subst l28 y28 z28
    obtain ⟨X28, hS28, hZ, hown⟩ := rebS hS (by rw [e27]; exact hk) Xs28 hs28 hg28 hZ hown
    have hCt28 := hCv.trans hD28
    obtain ⟨rfl, Nq28, Kq28, Gq28⟩ := hQ28
    have N28 := Fr.app N27 Nq28
    have I28 : own_I Z T28.heap r0 u ku cu en EC w sa := Ih.keep Kq28 Gh.1
    have G28 : own_G Z T28.heap r0 [(.ref (sa 5)), (.int 0), (.int 0), (.long 1), (.long 1), (.ref u), (.int 0), (.long 0), (.long 0), (.ref en), (.int w), (.int 0), (.int 1), (.int 3), (.int 0), (.long 0), (.int 0), (.long 0), (.int 0), (.int 0), (.int 0), (.int 0), (.int 0)] := Gq28
    have S_Cs_c28 := own_stk S_Cs Kq28 Gh.1
    have S_Fs_c28 := own_stk S_Fs Kq28 Gh.1
    have Z28 : n0 ≤ T28.heap.size := Nat.le_trans Zh Kq28.1
    have K28 : Keep h0 T28.heap [r0] := Kh.trans Kq28 (allS (Or.inl (List.mem_of_getElem? (i := 0) rfl)) all0)
    refine own_g (T28.setTop (mkF m 174 #[.val (.ref r0), .val (.ref u), .val (.int 0), .val (.int 10), .val (.ref en), .val (.int 5)] [(.int 6)])) (fun _ k => st28.trans k) ?_
    refine own_g (T28.setTop (mkF m 176 #[.val (.ref r0), .val (.ref u), .val (.int 0), .val (.int 10), .val (.ref en), .val (.int 6)] [])) (fun _ k => XS.istore X28.here hx rfl (hb hby d3_174) rfl (l' := #[.val (.ref r0), .val (.ref u), .val (.int 0), .val (.int 10), .val (.ref en), .val (.int 6)]) rfl k) ?_
    refine own_g (T28.setTop (mkF m 72 #[.val (.ref r0), .val (.ref u), .val (.int 0), .val (.int 10), .val (.ref en), .val (.int 6)] [])) (fun _ k => XS.goto X28.here hx rfl (pc0 := 176) (pc' := 72) rfl (hb hby d3_176) (by decide) (by decide) k) ?_
    exact seg6 _ _ _ _ _ X28 rfl N28 Z28 K28 I28 G28 hS28 (by exact (Nat.le_refl _)) hZ hown hCt28 S_Cs_c28 S_Fs_c28
  have seg4 : ∀ (T : State) (locs : List Loc) (h : Heap) (vm : Vm) (k0 : Nat) (X : Stand p l e ({ frames := 5, cells := 12, slots := 168, locals := 68 } : Room) (s.setVm vm) m #[(.ref r0), (.ref u), (.int 0), (.int 10), (.ref en)] below meth c T locs 2 28) (eT : T.heap = h) (N : Fr n0 locs) (Zh : n0 ≤ h.size) (Kh : Keep h0 h [r0]) (Ih : own_I Z h r0 u ku cu en EC w sa) (Gh : own_G Z h r0 [(.ref (sa 5)), (.int 0), (.int 0), (.long 1), (.long 1), (.ref u), (.int 0), (.long 0), (.long 0), (.ref en), (.int w), (.int 0), (.int 1), (.int 1), (.int 0), (.long 0), (.int 0), (.long 0), (.int 0), (.int 0), (.int 0), (.int 0), (.int 0)]) (hS : s.Since vm k0) (hk : k0 ≤ h.size) (hZ : Z.Warmed39 (s.setVm vm).vm) (hown : (s.setVm vm).vm.findClass "com/example/corridor/corridor/iso20022/MarkupScanner" = some m.cls) (hCv : CHr Z own_EL s.vm s.heap vm h) (S_Cs : Sta Z h "java/lang/String" "COMPACT_STRINGS" "Z" (.int wC)) (S_Fs : Sta Z h "jdk/internal/util/Preconditions" "SIOOBE_FORMATTER" "Ljava/util/function/BiFunction;" wF), own_Goes p e below (own_EndW s Z own_EL (own_QG Z r0 n0 h0 (some (.int 10)) [(.ref (sa 9)), (.int 0), (.int (-1)), (.long 1), (.long (own_lx cu (1 : Int64))), (.ref u), (.int 0), (.long ((0 : Int64) + ((((10 : Int32) - (0 : Int32)).toInt64) * (w.toInt64)))), (.long 0), (.ref en), (.int w), (.int 0), (.int 0), (.int 6), (.int (own_mk cu)), (.long ((0 : Int64) + ((((9 : Int32) - (0 : Int32)).toInt64) * (w.toInt64)))), (.int (nar .char cu)), (.long ((0 : Int64) + ((((0 : Int32) - (0 : Int32)).toInt64) * (w.toInt64)))), (.int 0), (.int 0), (.int 0), (.int 0), (.int 0)]) 12 168) (T.setTop (mkF m 72 #[.val (.ref r0), .val (.ref u), .val (.int 0), .val (.int 10), .val (.ref en), .val (.int 4)] [])) := by
    intro T locs h vm k0 X eT N Zh Kh Ih Gh hS hk hZ hown hCv S_Cs S_Fs
    refine own_g (T.setTop (mkF m 74 #[.val (.ref r0), .val (.ref u), .val (.int 0), .val (.int 10), .val (.ref en), .val (.int 4)] [(.int 4)])) (fun _ k => XS.iload X.here hx rfl (hb hby d3_72) rfl k) ?_
    refine own_g (T.setTop (mkF m 75 #[.val (.ref r0), .val (.ref u), .val (.int 0), .val (.int 10), .val (.ref en), .val (.int 4)] [(.int 10), (.int 4)])) (fun _ k => XS.iloadN X.here hx rfl (hb hby d3_74) rfl k) ?_
    refine own_g (T.setTop (mkF m 78 #[.val (.ref r0), .val (.ref u), .val (.int 0), .val (.int 10), .val (.ref en), .val (.int 4)] [])) (fun _ k => XS.icmpNo X.here hx rfl (hb hby d3_75) rfl (tlt (by decide : (4 : Int32) < (10 : Int32))).2.1 k) ?_
    refine own_g (T.setTop (mkF m 79 #[.val (.ref r0), .val (.ref u), .val (.int 0), .val (.int 10), .val (.ref en), .val (.int 4)] [(.ref r0)])) (fun _ k => XS.aloadN X.here hx rfl (hb hby d3_78) rfl rfl k) ?_
    obtain ⟨T21, X21, e21, st21⟩ := getF X hx hZ hown (host := "") (Or.inl (own_w hw 54 rfl)) Via.refl eT (own_Gf Gh 11 rfl rfl) (g := (mkF m 79 #[.val (.ref r0), .val (.ref u), .val (.int 0), .val (.int 10), .val (.ref en), .val (.int 4)] [(.ref r0)])) rfl rfl (hb hby d3_79)
    refine own_g (T21.setTop (mkF m 82 #[.val (.ref r0), .val (.ref u), .val (.int 0), .val (.int 10), .val (.ref en), .val (.int 4)] [(.int 0)])) (st21) ?_
    refine own_g (T21.setTop (mkF m 85 #[.val (.ref r0), .val (.ref u), .val (.int 0), .val (.int 10), .val (.ref en), .val (.int 4)] [])) (fun _ k => XS.ifNo X21.here hx rfl (hb hby d3_82) rfl ((if0 _ _).trans (teq (by decide : (0 : Int32) = (0 : Int32))).2) k) ?_
    refine own_g (T21.setTop (mkF m 86 #[.val (.ref r0), .val (.ref u), .val (.int 0), .val (.int 10), .val (.ref en), .val (.int 4)] [(.ref r0)])) (fun _ k => XS.aloadN X21.here hx rfl (hb hby d3_85) rfl rfl k) ?_
    obtain ⟨T22, X22, e22, st22⟩ := getF X21 hx hZ hown (host := "") (Or.inl (own_w hw 17 rfl)) Via.refl e21 (own_Gf Gh 0 rfl rfl) (g := (mkF m 86 #[.val (.ref r0), .val (.ref u), .val (.int 0), .val (.int 10), .val (.ref en), .val (.int 4)] [(.ref r0)])) rfl rfl (hb hby d3_86)
    refine own_g (T22.setTop (mkF m 89 #[.val (.ref r0), .val (.ref u), .val (.int 0), .val (.int 10), .val (.ref en), .val (.int 4)] [(.ref (sa 5))])) (st22) ?_
    obtain ⟨cq23, kq23, qk23a, qk23b, qk23c⟩ := isOf hZ e22 (show Exa Z h (sa 5) "com/example/corridor/corridor/iso20022/MarkupScanner$State" from (Ih.1 4 _ rfl).2.1)
    obtain ⟨_, _, ⟨T23, L23, k23, n23⟩, -, X23, ⟨Lc23, hQ23, l23, y23, z23⟩, st23⟩ := X22.virtualBackUp hx (x := (⟨"com/example/corridor/corridor/iso20022/MarkupScanner$State", "ordinal", "()I"⟩ : MethodName)) (y := (⟨"java/lang/Enum", "ordinal", "()I"⟩ : MethodName)) (owner := "java/lang/Enum") hown (mvT hZ (own_w hw 56 rfl)) (mvT hZ (own_w hw 57 rfl)) (mvT hZ (own_w hw 58 rfl)) (by decide) (mvT hZ (own_w hw 60 rfl)) (mvT hZ (own_w hw 59 rfl)) (backOf (W := 0) (ord l Z a0 hw [] (sa 5) (5 : Int32) h n0 Zh (show Fld Z h (sa 5) "java/lang/Enum" "ordinal" "I" (.int 5) from (Ih.1 4 _ rfl).2.2.1)) hZ (own_w hw 62 rfl) (own_w hw 61 rfl) (by decide) (by decide)) qk23a qk23c (g := (mkF m 89 #[.val (.ref r0), .val (.ref u), .val (.int 0), .val (.int 10), .val (.ref en), .val (.int 4)] [(.ref (sa 5))])) rfl (by rw [hml]; rfl) (Steps.refl _) (argsL := []) (rest := []) (lenOf pd4 rfl) rfl (by show 2 * 0 + _ ≤ _; exact Nat.le_of_eq rfl) (hb hby d3_89) (fun _ _ => ⟨rfl, e22, (by decide : 2 + 0 ≤ _), (by decide : 28 + 0 ≤ _)⟩)
    dsimp only [Pt.U, Pt.locs, Pt.cells, Pt.slots] at X23 l23 y23 z23 st23 hQ23
    subst l23 y23 z23
    obtain ⟨rfl, Nq23, e23⟩ := hQ23
    have N23 := Fr.app N Nq23
    refine own_g (T23.setTop (mkF m 92 #[.val (.ref r0), .val (.ref u), .val (.int 0), .val (.int 10), .val (.ref en), .val (.int 4)] [(.int 5)])) (fun _ k => st23.trans k) ?_
    refine own_g (T23.setTop (mkF m 168 #[.val (.ref r0), .val (.ref u), .val (.int 0), .val (.int 10), .val (.ref en), .val (.int 4)] [])) (fun _ k => XS.tswIn X23.here hx rfl (pc0 := 92) (pc' := 168) (o := 76) rfl (hb hby d3_92) rfl (by decide) rfl (by decide) (by decide) k) ?_
    refine own_g (T23.setTop (mkF m 169 #[.val (.ref r0), .val (.ref u), .val (.int 0), .val (.int 10), .val (.ref en), .val (.int 4)] [(.ref r0)])) (fun _ k => XS.aloadN X23.here hx rfl (hb hby d3_168) rfl rfl k) ?_
    refine own_g (T23.setTop (mkF m 171 #[.val (.ref r0), .val (.ref u), .val (.int 0), .val (.int 10), .val (.ref en), .val (.int 4)] [(.int 4), (.ref r0)])) (fun _ k => XS.iload X23.here hx rfl (hb hby d3_169) rfl k) ?_
    obtain ⟨cq24, qk24, qk24'⟩ := Gh.1.cell
    obtain ⟨_, _, ⟨T24, L24, k24, n24⟩, -, Xs24, hs24, hg24, ⟨Lc24, hQ24, l24, y24, z24, hD24⟩, st24⟩ := X23.privateBackS hx (y := (⟨"com/example/corridor/corridor/iso20022/MarkupScanner", "other", "(I)I"⟩ : MethodName)) hown (mvT hZ (own_w hw 79 rfl)) (mvT hZ (own_w hw 80 rfl)) (mvT hZ (own_selPriv (own_w hw 80 rfl) (own_w hw 81 rfl) (own_w hw 30 rfl) rfl (by decide))) (Cond.privateMethod_at (mvP hZ (own_w hw 81 rfl) (args := #[]))) (mvT hZ (own_w hw 82 rfl)) (by decide) (backOfSH (W := 0) (s := s) (vm0 := vm) (oth4 l Z a0 hw [] r0 u ku cu en EC w sa wC wF (.int 0) (.int 0) (.long 1) (.long 1) (.int 0) (.long 0) (.long 0) (.ref en) (.int w) (.int 0) (.int 1) (.int 0) (.long 0) (.int 0) (.long 0) (.int 0) (.int 0) (.int 0) (.int 0) (.int 0) h n0 Zh Ih Gh gn_r0 hEL hStr S_Cs hC S_Fs hG) hZ (own_w hw 82 rfl) (own_w hw 7 rfl) (by decide) (by decide) hEL hCv.1) (g := (mkF m 171 #[.val (.ref r0), .val (.ref u), .val (.int 0), .val (.int 10), .val (.ref en), .val (.int 4)] [(.int 4), (.ref r0)])) rfl (by rw [hml]; rfl) (Steps.refl _) (a := r0) (by rw [e23]; exact qk24) qk24' (argsL := [(.int 4)]) (rest := []) (lenOf pd14 rfl) rfl (by show 2 * 0 + _ ≤ _; exact Nat.le_of_eq rfl) (hb hby d3_171) (fun _ _ => ⟨rfl, e23, (by decide : 2 + 2 ≤ _), (by decide : 28 + 28 ≤ _)⟩)
    dsimp only [Pt.U, Pt.locs, Pt.cells, Pt.slots] at Xs24 hs24 hg24 l24 y24 z24 st24 hQ24 hD24
    subst l24 y24 z24
    obtain ⟨X24, hS24, hZ, hown⟩ := rebS hS (by rw [e23]; exact hk) Xs24 hs24 hg24 hZ hown
    have hCt24 := hCv.trans hD24
    obtain ⟨rfl, Nq24, Kq24, Gq24⟩ := hQ24
    have N24 := Fr.app N23 Nq24
    have I24 : own_I Z T24.heap r0 u ku cu en EC w sa := Ih.keep Kq24 Gh.1
    have G24 : own_G Z T24.heap r0 [(.ref (sa 5)), (.int 0), (.int 0), (.long 1), (.long 1), (.ref u), (.int 0), (.long 0), (.long 0), (.ref en), (.int w), (.int 0), (.int 1), (.int 2), (.int 0), (.long 0), (.int 0), (.long 0), (.int 0), (.int 0), (.int 0), (.int 0), (.int 0)] := Gq24
    have S_Cs_c24 := own_stk S_Cs Kq24 Gh.1
    have S_Fs_c24 := own_stk S_Fs Kq24 Gh.1
    have Z24 : n0 ≤ T24.heap.size := Nat.le_trans Zh Kq24.1
    have K24 : Keep h0 T24.heap [r0] := Kh.trans Kq24 (allS (Or.inl (List.mem_of_getElem? (i := 0) rfl)) all0)
    refine own_g (T24.setTop (mkF m 174 #[.val (.ref r0), .val (.ref u), .val (.int 0), .val (.int 10), .val (.ref en), .val (.int 4)] [(.int 5)])) (fun _ k => st24.trans k) ?_
    refine own_g (T24.setTop (mkF m 176 #[.val (.ref r0), .val (.ref u), .val (.int 0), .val (.int 10), .val (.ref en), .val (.int 5)] [])) (fun _ k => XS.istore X24.here hx rfl (hb hby d3_174) rfl (l' := #[.val (.ref r0), .val (.ref u), .val (.int 0), .val (.int 10), .val (.ref en), .val (.int 5)]) rfl k) ?_
    refine own_g (T24.setTop (mkF m 72 #[.val (.ref r0), .val (.ref u), .val (.int 0), .val (.int 10), .val (.ref en), .val (.int 5)] [])) (fun _ k => XS.goto X24.here hx rfl (pc0 := 176) (pc' := 72) rfl (hb hby d3_176) (by decide) (by decide) k) ?_
    exact seg5 _ _ _ _ _ X24 rfl N24 Z24 K24 I24 G24 hS24 (by exact (Nat.le_refl _)) hZ hown hCt24 S_Cs_c24 S_Fs_c24
  have seg3 : ∀ (T : State) (locs : List Loc) (h : Heap) (vm : Vm) (k0 : Nat) (X : Stand p l e ({ frames := 5, cells := 12, slots := 168, locals := 68 } : Room) (s.setVm vm) m #[(.ref r0), (.ref u), (.int 0), (.int 10), (.ref en)] below meth c T locs 0 0) (eT : T.heap = h) (N : Fr n0 locs) (Zh : n0 ≤ h.size) (Kh : Keep h0 h [r0]) (Ih : own_I Z h r0 u ku cu en EC w sa) (Gh : own_G Z h r0 [(.ref (sa 5)), (.int 0), (.int 0), (.long 1), (.long 1), (.ref u), (.int 0), (.long 0), (.long 0), (.ref en), (.int w), (.int 0), (.int 1), (.int 0), (.int 0), (.long 0), (.int 0), (.long 0), (.int 0), (.int 0), (.int 0), (.int 0), (.int 0)]) (hS : s.Since vm k0) (hk : k0 ≤ h.size) (hZ : Z.Warmed39 (s.setVm vm).vm) (hown : (s.setVm vm).vm.findClass "com/example/corridor/corridor/iso20022/MarkupScanner" = some m.cls) (hCv : CHr Z own_EL s.vm s.heap vm h) (S_Cs : Sta Z h "java/lang/String" "COMPACT_STRINGS" "Z" (.int wC)) (S_Fs : Sta Z h "jdk/internal/util/Preconditions" "SIOOBE_FORMATTER" "Ljava/util/function/BiFunction;" wF), own_Goes p e below (own_EndW s Z own_EL (own_QG Z r0 n0 h0 (some (.int 10)) [(.ref (sa 9)), (.int 0), (.int (-1)), (.long 1), (.long (own_lx cu (1 : Int64))), (.ref u), (.int 0), (.long ((0 : Int64) + ((((10 : Int32) - (0 : Int32)).toInt64) * (w.toInt64)))), (.long 0), (.ref en), (.int w), (.int 0), (.int 0), (.int 6), (.int (own_mk cu)), (.long ((0 : Int64) + ((((9 : Int32) - (0 : Int32)).toInt64) * (w.toInt64)))), (.int (nar .char cu)), (.long ((0 : Int64) + ((((0 : Int32) - (0 : Int32)).toInt64) * (w.toInt64)))), (.int 0), (.int 0), (.int 0), (.int 0), (.int 0)]) 12 168) (T.setTop (mkF m 72 #[.val (.ref r0), .val (.ref u), .val (.int 0), .val (.int 10), .val (.ref en), .val (.int 3)] [])) := by
    intro T locs h vm k0 X eT N Zh Kh Ih Gh hS hk hZ hown hCv S_Cs S_Fs
    refine own_g (T.setTop (mkF m 74 #[.val (.ref r0), .val (.ref u), .val (.int 0), .val (.int 10), .val (.ref en), .val (.int 3)] [(.int 3)])) (fun _ k => XS.iload X.here hx rfl (hb hby d3_72) rfl k) ?_
    refine own_g (T.setTop (mkF m 75 #[.val (.ref r0), .val (.ref u), .val (.int 0), .val (.int 10), .val (.ref en), .val (.int 3)] [(.int 10), (.int 3)])) (fun _ k => XS.iloadN X.here hx rfl (hb hby d3_74) rfl k) ?_
    refine own_g (T.setTop (mkF m 78 #[.val (.ref r0), .val (.ref u), .val (.int 0), .val (.int 10), .val (.ref en), .val (.int 3)] [])) (fun _ k => XS.icmpNo X.here hx rfl (hb hby d3_75) rfl (tlt (by decide : (3 : Int32) < (10 : Int32))).2.1 k) ?_
    refine own_g (T.setTop (mkF m 79 #[.val (.ref r0), .val (.ref u), .val (.int 0), .val (.int 10), .val (.ref en), .val (.int 3)] [(.ref r0)])) (fun _ k => XS.aloadN X.here hx rfl (hb hby d3_78) rfl rfl k) ?_
    obtain ⟨T17, X17, e17, st17⟩ := getF X hx hZ hown (host := "") (Or.inl (own_w hw 54 rfl)) Via.refl eT (own_Gf Gh 11 rfl rfl) (g := (mkF m 79 #[.val (.ref r0), .val (.ref u), .val (.int 0), .val (.int 10), .val (.ref en), .val (.int 3)] [(.ref r0)])) rfl rfl (hb hby d3_79)
    refine own_g (T17.setTop (mkF m 82 #[.val (.ref r0), .val (.ref u), .val (.int 0), .val (.int 10), .val (.ref en), .val (.int 3)] [(.int 0)])) (st17) ?_
    refine own_g (T17.setTop (mkF m 85 #[.val (.ref r0), .val (.ref u), .val (.int 0), .val (.int 10), .val (.ref en), .val (.int 3)] [])) (fun _ k => XS.ifNo X17.here hx rfl (hb hby d3_82) rfl ((if0 _ _).trans (teq (by decide : (0 : Int32) = (0 : Int32))).2) k) ?_
    refine own_g (T17.setTop (mkF m 86 #[.val (.ref r0), .val (.ref u), .val (.int 0), .val (.int 10), .val (.ref en), .val (.int 3)] [(.ref r0)])) (fun _ k => XS.aloadN X17.here hx rfl (hb hby d3_85) rfl rfl k) ?_
    obtain ⟨T18, X18, e18, st18⟩ := getF X17 hx hZ hown (host := "") (Or.inl (own_w hw 17 rfl)) Via.refl e17 (own_Gf Gh 0 rfl rfl) (g := (mkF m 86 #[.val (.ref r0), .val (.ref u), .val (.int 0), .val (.int 10), .val (.ref en), .val (.int 3)] [(.ref r0)])) rfl rfl (hb hby d3_86)
    refine own_g (T18.setTop (mkF m 89 #[.val (.ref r0), .val (.ref u), .val (.int 0), .val (.int 10), .val (.ref en), .val (.int 3)] [(.ref (sa 5))])) (st18) ?_
    obtain ⟨cq19, kq19, qk19a, qk19b, qk19c⟩ := isOf hZ e18 (show Exa Z h (sa 5) "com/example/corridor/corridor/iso20022/MarkupScanner$State" from (Ih.1 4 _ rfl).2.1)
    obtain ⟨_, _, ⟨T19, L19, k19, n19⟩, -, X19, ⟨Lc19, hQ19, l19, y19, z19⟩, st19⟩ := X18.virtualBackUp hx (x := (⟨"com/example/corridor/corridor/iso20022/MarkupScanner$State", "ordinal", "()I"⟩ : MethodName)) (y := (⟨"java/lang/Enum", "ordinal", "()I"⟩ : MethodName)) (owner := "java/lang/Enum") hown (mvT hZ (own_w hw 56 rfl)) (mvT hZ (own_w hw 57 rfl)) (mvT hZ (own_w hw 58 rfl)) (by decide) (mvT hZ (own_w hw 60 rfl)) (mvT hZ (own_w hw 59 rfl)) (backOf (W := 0) (ord l Z a0 hw [] (sa 5) (5 : Int32) h n0 Zh (show Fld Z h (sa 5) "java/lang/Enum" "ordinal" "I" (.int 5) from (Ih.1 4 _ rfl).2.2.1)) hZ (own_w hw 62 rfl) (own_w hw 61 rfl) (by decide) (by decide)) qk19a qk19c (g := (mkF m 89 #[.val (.ref r0), .val (.ref u), .val (.int 0), .val (.int 10), .val (.ref en), .val (.int 3)] [(.ref (sa 5))])) rfl (by rw [hml]; rfl) (Steps.refl _) (argsL := []) (rest := []) (lenOf pd4 rfl) rfl (by show 2 * 0 + _ ≤ _; exact Nat.le_of_eq rfl) (hb hby d3_89) (fun _ _ => ⟨rfl, e18, (by decide : 0 + 0 ≤ _), (by decide : 0 + 0 ≤ _)⟩)
    dsimp only [Pt.U, Pt.locs, Pt.cells, Pt.slots] at X19 l19 y19 z19 st19 hQ19
    subst l19 y19 z19
    obtain ⟨rfl, Nq19, e19⟩ := hQ19
    have N19 := Fr.app N Nq19
    refine own_g (T19.setTop (mkF m 92 #[.val (.ref r0), .val (.ref u), .val (.int 0), .val (.int 10), .val (.ref en), .val (.int 3)] [(.int 5)])) (fun _ k => st19.trans k) ?_
    refine own_g (T19.setTop (mkF m 168 #[.val (.ref r0), .val (.ref u), .val (.int 0), .val (.int 10), .val (.ref en), .val (.int 3)] [])) (fun _ k => XS.tswIn X19.here hx rfl (pc0 := 92) (pc' := 168) (o := 76) rfl (hb hby d3_92) rfl (by decide) rfl (by decide) (by decide) k) ?_
    refine own_g (T19.setTop (mkF m 169 #[.val (.ref r0), .val (.ref u), .val (.int 0), .val (.int 10), .val (.ref en), .val (.int 3)] [(.ref r0)])) (fun _ k => XS.aloadN X19.here hx rfl (hb hby d3_168) rfl rfl k) ?_
    refine own_g (T19.setTop (mkF m 171 #[.val (.ref r0), .val (.ref u), .val (.int 0), .val (.int 10), .val (.ref en), .val (.int 3)] [(.int 3), (.ref r0)])) (fun _ k => XS.iload X19.here hx rfl (hb hby d3_169) rfl k) ?_
    obtain ⟨cq20, qk20, qk20'⟩ := Gh.1.cell
    obtain ⟨_, _, ⟨T20, L20, k20, n20⟩, -, Xs20, hs20, hg20, ⟨Lc20, hQ20, l20, y20, z20, hD20⟩, st20⟩ := X19.privateBackS hx (y := (⟨"com/example/corridor/corridor/iso20022/MarkupScanner", "other", "(I)I"⟩ : MethodName)) hown (mvT hZ (own_w hw 79 rfl)) (mvT hZ (own_w hw 80 rfl)) (mvT hZ (own_selPriv (own_w hw 80 rfl) (own_w hw 81 rfl) (own_w hw 30 rfl) rfl (by decide))) (Cond.privateMethod_at (mvP hZ (own_w hw 81 rfl) (args := #[]))) (mvT hZ (own_w hw 82 rfl)) (by decide) (backOfSH (W := 0) (s := s) (vm0 := vm) (oth3 l Z a0 hw [] r0 u ku cu en EC w sa wC wF (.int 0) (.int 0) (.long 1) (.long 1) (.int 0) (.long 0) (.long 0) (.ref en) (.int w) (.int 0) (.int 1) (.int 0) (.long 0) (.int 0) (.long 0) (.int 0) (.int 0) (.int 0) (.int 0) (.int 0) h n0 Zh Ih Gh gn_r0 hEL hStr S_Cs hC S_Fs hG) hZ (own_w hw 82 rfl) (own_w hw 7 rfl) (by decide) (by decide) hEL hCv.1) (g := (mkF m 171 #[.val (.ref r0), .val (.ref u), .val (.int 0), .val (.int 10), .val (.ref en), .val (.int 3)] [(.int 3), (.ref r0)])) rfl (by rw [hml]; rfl) (Steps.refl _) (a := r0) (by rw [e19]; exact qk20) qk20' (argsL := [(.int 3)]) (rest := []) (lenOf pd14 rfl) rfl (by show 2 * 0 + _ ≤ _; exact Nat.le_of_eq rfl) (hb hby d3_171) (fun _ _ => ⟨rfl, e19, (by decide : 0 + 2 ≤ _), (by decide : 0 + 28 ≤ _)⟩)
    dsimp only [Pt.U, Pt.locs, Pt.cells, Pt.slots] at Xs20 hs20 hg20 l20 y20 z20 st20 hQ20 hD20
    subst l20 y20 z20
    obtain ⟨X20, hS20, hZ, hown⟩ := rebS hS (by rw [e19]; exact hk) Xs20 hs20 hg20 hZ hown
    have hCt20 := hCv.trans hD20
    obtain ⟨rfl, Nq20, Kq20, Gq20⟩ := hQ20
    have N20 := Fr.app N19 Nq20
    have I20 : own_I Z T20.heap r0 u ku cu en EC w sa := Ih.keep Kq20 Gh.1
    have G20 : own_G Z T20.heap r0 [(.ref (sa 5)), (.int 0), (.int 0), (.long 1), (.long 1), (.ref u), (.int 0), (.long 0), (.long 0), (.ref en), (.int w), (.int 0), (.int 1), (.int 1), (.int 0), (.long 0), (.int 0), (.long 0), (.int 0), (.int 0), (.int 0), (.int 0), (.int 0)] := Gq20
    have S_Cs_c20 := own_stk S_Cs Kq20 Gh.1
    have S_Fs_c20 := own_stk S_Fs Kq20 Gh.1
    have Z20 : n0 ≤ T20.heap.size := Nat.le_trans Zh Kq20.1
    have K20 : Keep h0 T20.heap [r0] := Kh.trans Kq20 (allS (Or.inl (List.mem_of_getElem? (i := 0) rfl)) all0)
    refine own_g (T20.setTop (mkF m 174 #[.val (.ref r0), .val (.ref u), .val (.int 0), .val (.int 10), .val (.ref en), .val (.int 3)] [(.int 4)])) (fun _ k => st20.trans k) ?_
    refine own_g (T20.setTop (mkF m 176 #[.val (.ref r0), .val (.ref u), .val (.int 0), .val (.int 10), .val (.ref en), .val (.int 4)] [])) (fun _ k => XS.istore X20.here hx rfl (hb hby d3_174) rfl (l' := #[.val (.ref r0), .val (.ref u), .val (.int 0), .val (.int 10), .val (.ref en), .val (.int 4)]) rfl k) ?_
    refine own_g (T20.setTop (mkF m 72 #[.val (.ref r0), .val (.ref u), .val (.int 0), .val (.int 10), .val (.ref en), .val (.int 4)] [])) (fun _ k => XS.goto X20.here hx rfl (pc0 := 176) (pc' := 72) rfl (hb hby d3_176) (by decide) (by decide) k) ?_
    exact seg4 _ _ _ _ _ X20 rfl N20 Z20 K20 I20 G20 hS20 (by exact (Nat.le_refl _)) hZ hown hCt20 S_Cs_c20 S_Fs_c20
  have seg2 : ∀ (T : State) (locs : List Loc) (h : Heap) (vm : Vm) (k0 : Nat) (X : Stand p l e ({ frames := 5, cells := 12, slots := 168, locals := 68 } : Room) (s.setVm vm) m #[(.ref r0), (.ref u), (.int 0), (.int 10), (.ref en)] below meth c T locs 0 0) (eT : T.heap = h) (N : Fr n0 locs) (Zh : n0 ≤ h.size) (Kh : Keep h0 h [r0]) (Ih : own_I Z h r0 u ku cu en EC w sa) (Gh : own_G Z h r0 [(.ref (sa 3)), (.int 0), (.int 0), (.long 1), (.long 1), (.ref u), (.int 0), (.long 0), (.long 0), (.ref en), (.int w), (.int 0), (.int 1), (.int 0), (.int 0), (.long 0), (.int 0), (.long 0), (.int 0), (.int 0), (.int 0), (.int 0), (.int 0)]) (hS : s.Since vm k0) (hk : k0 ≤ h.size) (hZ : Z.Warmed39 (s.setVm vm).vm) (hown : (s.setVm vm).vm.findClass "com/example/corridor/corridor/iso20022/MarkupScanner" = some m.cls) (hCv : CHr Z own_EL s.vm s.heap vm h) (S_Cs : Sta Z h "java/lang/String" "COMPACT_STRINGS" "Z" (.int wC)) (S_Fs : Sta Z h "jdk/internal/util/Preconditions" "SIOOBE_FORMATTER" "Ljava/util/function/BiFunction;" wF), own_Goes p e below (own_EndW s Z own_EL (own_QG Z r0 n0 h0 (some (.int 10)) [(.ref (sa 9)), (.int 0), (.int (-1)), (.long 1), (.long (own_lx cu (1 : Int64))), (.ref u), (.int 0), (.long ((0 : Int64) + ((((10 : Int32) - (0 : Int32)).toInt64) * (w.toInt64)))), (.long 0), (.ref en), (.int w), (.int 0), (.int 0), (.int 6), (.int (own_mk cu)), (.long ((0 : Int64) + ((((9 : Int32) - (0 : Int32)).toInt64) * (w.toInt64)))), (.int (nar .char cu)), (.long ((0 : Int64) + ((((0 : Int32) - (0 : Int32)).toInt64) * (w.toInt64)))), (.int 0), (.int 0), (.int 0), (.int 0), (.int 0)]) 12 168) (T.setTop (mkF m 72 #[.val (.ref r0), .val (.ref u), .val (.int 0), .val (.int 10), .val (.ref en), .val (.int 2)] [])) := by
    intro T locs h vm k0 X eT N Zh Kh Ih Gh hS hk hZ hown hCv S_Cs S_Fs
    refine own_g (T.setTop (mkF m 74 #[.val (.ref r0), .val (.ref u), .val (.int 0), .val (.int 10), .val (.ref en), .val (.int 2)] [(.int 2)])) (fun _ k => XS.iload X.here hx rfl (hb hby d3_72) rfl k) ?_
    refine own_g (T.setTop (mkF m 75 #[.val (.ref r0), .val (.ref u), .val (.int 0), .val (.int 10), .val (.ref en), .val (.int 2)] [(.int 10), (.int 2)])) (fun _ k => XS.iloadN X.here hx rfl (hb hby d3_74) rfl k) ?_
    refine own_g (T.setTop (mkF m 78 #[.val (.ref r0), .val (.ref u), .val (.int 0), .val (.int 10), .val (.ref en), .val (.int 2)] [])) (fun _ k => XS.icmpNo X.here hx rfl (hb hby d3_75) rfl (tlt (by decide : (2 : Int32) < (10 : Int32))).2.1 k) ?_
    refine own_g (T.setTop (mkF m 79 #[.val (.ref r0), .val (.ref u), .val (.int 0), .val (.int 10), .val (.ref en), .val (.int 2)] [(.ref r0)])) (fun _ k => XS.aloadN X.here hx rfl (hb hby d3_78) rfl rfl k) ?_
    obtain ⟨T13, X13, e13, st13⟩ := getF X hx hZ hown (host := "") (Or.inl (own_w hw 54 rfl)) Via.refl eT (own_Gf Gh 11 rfl rfl) (g := (mkF m 79 #[.val (.ref r0), .val (.ref u), .val (.int 0), .val (.int 10), .val (.ref en), .val (.int 2)] [(.ref r0)])) rfl rfl (hb hby d3_79)
    refine own_g (T13.setTop (mkF m 82 #[.val (.ref r0), .val (.ref u), .val (.int 0), .val (.int 10), .val (.ref en), .val (.int 2)] [(.int 0)])) (st13) ?_
    refine own_g (T13.setTop (mkF m 85 #[.val (.ref r0), .val (.ref u), .val (.int 0), .val (.int 10), .val (.ref en), .val (.int 2)] [])) (fun _ k => XS.ifNo X13.here hx rfl (hb hby d3_82) rfl ((if0 _ _).trans (teq (by decide : (0 : Int32) = (0 : Int32))).2) k) ?_
    refine own_g (T13.setTop (mkF m 86 #[.val (.ref r0), .val (.ref u), .val (.int 0), .val (.int 10), .val (.ref en), .val (.int 2)] [(.ref r0)])) (fun _ k => XS.aloadN X13.here hx rfl (hb hby d3_85) rfl rfl k) ?_
    obtain ⟨T14, X14, e14, st14⟩ := getF X13 hx hZ hown (host := "") (Or.inl (own_w hw 17 rfl)) Via.refl e13 (own_Gf Gh 0 rfl rfl) (g := (mkF m 86 #[.val (.ref r0), .val (.ref u), .val (.int 0), .val (.int 10), .val (.ref en), .val (.int 2)] [(.ref r0)])) rfl rfl (hb hby d3_86)
    refine own_g (T14.setTop (mkF m 89 #[.val (.ref r0), .val (.ref u), .val (.int 0), .val (.int 10), .val (.ref en), .val (.int 2)] [(.ref (sa 3))])) (st14) ?_
    obtain ⟨cq15, kq15, qk15a, qk15b, qk15c⟩ := isOf hZ e14 (show Exa Z h (sa 3) "com/example/corridor/corridor/iso20022/MarkupScanner$State" from (Ih.1 3 _ rfl).2.1)
    obtain ⟨_, _, ⟨T15, L15, k15, n15⟩, -, X15, ⟨Lc15, hQ15, l15, y15, z15⟩, st15⟩ := X14.virtualBackUp hx (x := (⟨"com/example/corridor/corridor/iso20022/MarkupScanner$State", "ordinal", "()I"⟩ : MethodName)) (y := (⟨"java/lang/Enum", "ordinal", "()I"⟩ : MethodName)) (owner := "java/lang/Enum") hown (mvT hZ (own_w hw 56 rfl)) (mvT hZ (own_w hw 57 rfl)) (mvT hZ (own_w hw 58 rfl)) (by decide) (mvT hZ (own_w hw 60 rfl)) (mvT hZ (own_w hw 59 rfl)) (backOf (W := 0) (ord l Z a0 hw [] (sa 3) (3 : Int32) h n0 Zh (show Fld Z h (sa 3) "java/lang/Enum" "ordinal" "I" (.int 3) from (Ih.1 3 _ rfl).2.2.1)) hZ (own_w hw 62 rfl) (own_w hw 61 rfl) (by decide) (by decide)) qk15a qk15c (g := (mkF m 89 #[.val (.ref r0), .val (.ref u), .val (.int 0), .val (.int 10), .val (.ref en), .val (.int 2)] [(.ref (sa 3))])) rfl (by rw [hml]; rfl) (Steps.refl _) (argsL := []) (rest := []) (lenOf pd4 rfl) rfl (by show 2 * 0 + _ ≤ _; exact Nat.le_of_eq rfl) (hb hby d3_89) (fun _ _ => ⟨rfl, e14, (by decide : 0 + 0 ≤ _), (by decide : 0 + 0 ≤ _)⟩)
    dsimp only [Pt.U, Pt.locs, Pt.cells, Pt.slots] at X15 l15 y15 z15 st15 hQ15
    subst l15 y15 z15
    obtain ⟨rfl, Nq15, e15⟩ := hQ15
    have N15 := Fr.app N Nq15
    refine own_g (T15.setTop (mkF m 92 #[.val (.ref r0), .val (.ref u), .val (.int 0), .val (.int 10), .val (.ref en), .val (.int 2)] [(.int 3)])) (fun _ k => st15.trans k) ?_
    refine own_g (T15.setTop (mkF m 168 #[.val (.ref r0), .val (.ref u), .val (.int 0), .val (.int 10), .val (.ref en), .val (.int 2)] [])) (fun _ k => XS.tswIn X15.here hx rfl (pc0 := 92) (pc' := 168) (o := 76) rfl (hb hby d3_92) rfl (by decide) rfl (by decide) (by decide) k) ?_
    refine own_g (T15.setTop (mkF m 169 #[.val (.ref r0), .val (.ref u), .val (.int 0), .val (.int 10), .val (.ref en), .val (.int 2)] [(.ref r0)])) (fun _ k => XS.aloadN X15.here hx rfl (hb hby d3_168) rfl rfl k) ?_
    refine own_g (T15.setTop (mkF m 171 #[.val (.ref r0), .val (.ref u), .val (.int 0), .val (.int 10), .val (.ref en), .val (.int 2)] [(.int 2), (.ref r0)])) (fun _ k => XS.iload X15.here hx rfl (hb hby d3_169) rfl k) ?_
    obtain ⟨cq16, qk16, qk16'⟩ := Gh.1.cell
    obtain ⟨_, _, ⟨T16, L16, k16, n16⟩, -, X16, ⟨Lc16, hQ16, l16, y16, z16⟩, st16⟩ := X15.privateBack hx (y := (⟨"com/example/corridor/corridor/iso20022/MarkupScanner", "other", "(I)I"⟩ : MethodName)) hown (mvT hZ (own_w hw 79 rfl)) (mvT hZ (own_w hw 80 rfl)) (mvT hZ (own_selPriv (own_w hw 80 rfl) (own_w hw 81 rfl) (own_w hw 30 rfl) rfl (by decide))) (Cond.privateMethod_at (mvP hZ (own_w hw 81 rfl) (args := #[]))) (mvT hZ (own_w hw 82 rfl)) (by decide) (backOf (W := 0) (oth2 l Z a0 hw [] r0 u ku cu en EC w sa (.int 0) (.int 0) (.long 1) (.long 1) (.int 0) (.long 0) (.long 0) (.ref en) (.int w) (.int 0) (.int 1) (.int 0) (.int 0) (.long 0) (.int 0) (.long 0) (.int 0) (.int 0) (.int 0) (.int 0) (.int 0) h n0 Zh Ih Gh gn_r0) hZ (own_w hw 82 rfl) (own_w hw 7 rfl) (by decide) (by decide)) (g := (mkF m 171 #[.val (.ref r0), .val (.ref u), .val (.int 0), .val (.int 10), .val (.ref en), .val (.int 2)] [(.int 2), (.ref r0)])) rfl (by rw [hml]; rfl) (Steps.refl _) (a := r0) (by rw [e15]; exact qk16) qk16' (argsL := [(.int 2)]) (rest := []) (lenOf pd14 rfl) rfl (by show 2 * 0 + _ ≤ _; exact Nat.le_of_eq rfl) (hb hby d3_171) (fun _ _ => ⟨rfl, e15, (by decide : 0 + 0 ≤ _), (by decide : 0 + 0 ≤ _)⟩)
    dsimp only [Pt.U, Pt.locs, Pt.cells, Pt.slots] at X16 l16 y16 z16 st16 hQ16
    subst l16 y16 z16
    obtain ⟨rfl, Nq16, Kq16, Gq16⟩ := hQ16
    have N16 := Fr.app N15 Nq16
    have I16 : own_I Z T16.heap r0 u ku cu en EC w sa := Ih.keep Kq16 Gh.1
    have G16 : own_G Z T16.heap r0 [(.ref (sa 5)), (.int 0), (.int 0), (.long 1), (.long 1), (.ref u), (.int 0), (.long 0), (.long 0), (.ref en), (.int w), (.int 0), (.int 1), (.int 0), (.int 0), (.long 0), (.int 0), (.long 0), (.int 0), (.int 0), (.int 0), (.int 0), (.int 0)] := Gq16
    have S_Cs_c16 := own_stk S_Cs Kq16 Gh.1
    have S_Fs_c16 := own_stk S_Fs Kq16 Gh.1
    have hCt16 := hCv.trans (CHr.keep Kq16 (own_safe1 hZ.alike Gh.1) hCv.1)
    have Z16 : n0 ≤ T16.heap.size := Nat.le_trans Zh Kq16.1
    have K16 : Keep h0 T16.heap [r0] := Kh.trans Kq16 (allS (Or.inl (List.mem_of_getElem? (i := 0) rfl)) all0)
    refine own_g (T16.setTop (mkF m 174 #[.val (.ref r0), .val (.ref u), .val (.int 0), .val (.int 10), .val (.ref en), .val (.int 2)] [(.int 3)])) (fun _ k => st16.trans k) ?_
    refine own_g (T16.setTop (mkF m 176 #[.val (.ref r0), .val (.ref u), .val (.int 0), .val (.int 10), .val (.ref en), .val (.int 3)] [])) (fun _ k => XS.istore X16.here hx rfl (hb hby d3_174) rfl (l' := #[.val (.ref r0), .val (.ref u), .val (.int 0), .val (.int 10), .val (.ref en), .val (.int 3)]) rfl k) ?_
    refine own_g (T16.setTop (mkF m 72 #[.val (.ref r0), .val (.ref u), .val (.int 0), .val (.int 10), .val (.ref en), .val (.int 3)] [])) (fun _ k => XS.goto X16.here hx rfl (pc0 := 176) (pc' := 72) rfl (hb hby d3_176) (by decide) (by decide) k) ?_
    exact seg3 _ _ _ _ _ X16 rfl N16 Z16 K16 I16 G16 hS (by exact (Nat.le_trans hk Kq16.1)) hZ hown hCt16 S_Cs_c16 S_Fs_c16
  have seg0 : ∀ (T : State) (locs : List Loc) (h : Heap) (vm : Vm) (k0 : Nat) (X : Stand p l e ({ frames := 5, cells := 12, slots := 168, locals := 68 } : Room) (s.setVm vm) m #[(.ref r0), (.ref u), (.int 0), (.int 10), (.ref en)] below meth c T locs 0 0) (eT : T.heap = h) (N : Fr n0 locs) (Zh : n0 ≤ h.size) (Kh : Keep h0 h [r0]) (Ih : own_I Z h r0 u ku cu en EC w sa) (Gh : own_G Z h r0 [(.ref (sa 0)), (.int 1), (.int (-1)), (.long 1), (.long 1), (.ref u), (.int 0), (.long 0), (.long 0), (.ref en), (.int w), (.int 0), (.int 0), (.int 0), (.int 0), (.long 0), (.int 0), (.long 0), (.int 0), (.int 0), (.int 0), (.int 0), (.int 0)]) (hS : s.Since vm k0) (hk : k0 ≤ h.size) (hZ : Z.Warmed39 (s.setVm vm).vm) (hown : (s.setVm vm).vm.findClass "com/example/corridor/corridor/iso20022/MarkupScanner" = some m.cls) (hCv : CHr Z own_EL s.vm s.heap vm h) (S_Cs : Sta Z h "java/lang/String" "COMPACT_STRINGS" "Z" (.int wC)) (S_Fs : Sta Z h "jdk/internal/util/Preconditions" "SIOOBE_FORMATTER" "Ljava/util/function/BiFunction;" wF), own_Goes p e below (own_EndW s Z own_EL (own_QG Z r0 n0 h0 (some (.int 10)) [(.ref (sa 9)), (.int 0), (.int (-1)), (.long 1), (.long (own_lx cu (1 : Int64))), (.ref u), (.int 0), (.long ((0 : Int64) + ((((10 : Int32) - (0 : Int32)).toInt64) * (w.toInt64)))), (.long 0), (.ref en), (.int w), (.int 0), (.int 0), (.int 6), (.int (own_mk cu)), (.long ((0 : Int64) + ((((9 : Int32) - (0 : Int32)).toInt64) * (w.toInt64)))), (.int (nar .char cu)), (.long ((0 : Int64) + ((((0 : Int32) - (0 : Int32)).toInt64) * (w.toInt64)))), (.int 0), (.int 0), (.int 0), (.int 0), (.int 0)]) 12 168) (T.setTop (mkF m 72 #[.val (.ref r0), .val (.ref u), .val (.int 0), .val (.int 10), .val (.ref en), .val (.int 0)] [])) := by
    intro T locs h vm k0 X eT N Zh Kh Ih Gh hS hk hZ hown hCv S_Cs S_Fs
    refine own_g (T.setTop (mkF m 74 #[.val (.ref r0), .val (.ref u), .val (.int 0), .val (.int 10), .val (.ref en), .val (.int 0)] [(.int 0)])) (fun _ k => XS.iload X.here hx rfl (hb hby d3_72) rfl k) ?_
    refine own_g (T.setTop (mkF m 75 #[.val (.ref r0), .val (.ref u), .val (.int 0), .val (.int 10), .val (.ref en), .val (.int 0)] [(.int 10), (.int 0)])) (fun _ k => XS.iloadN X.here hx rfl (hb hby d3_74) rfl k) ?_
    refine own_g (T.setTop (mkF m 78 #[.val (.ref r0), .val (.ref u), .val (.int 0), .val (.int 10), .val (.ref en), .val (.int 0)] [])) (fun _ k => XS.icmpNo X.here hx rfl (hb hby d3_75) rfl (tlt (by decide : (0 : Int32) < (10 : Int32))).2.1 k) ?_
    refine own_g (T.setTop (mkF m 79 #[.val (.ref r0), .val (.ref u), .val (.int 0), .val (.int 10), .val (.ref en), .val (.int 0)] [(.ref r0)])) (fun _ k => XS.aloadN X.here hx rfl (hb hby d3_78) rfl rfl k) ?_
    obtain ⟨T9, X9, e9, st9⟩ := getF X hx hZ hown (host := "") (Or.inl (own_w hw 54 rfl)) Via.refl eT (own_Gf Gh 11 rfl rfl) (g := (mkF m 79 #[.val (.ref r0), .val (.ref u), .val (.int 0), .val (.int 10), .val (.ref en), .val (.int 0)] [(.ref r0)])) rfl rfl (hb hby d3_79)
    refine own_g (T9.setTop (mkF m 82 #[.val (.ref r0), .val (.ref u), .val (.int 0), .val (.int 10), .val (.ref en), .val (.int 0)] [(.int 0)])) (st9) ?_
    refine own_g (T9.setTop (mkF m 85 #[.val (.ref r0), .val (.ref u), .val (.int 0), .val (.int 10), .val (.ref en), .val (.int 0)] [])) (fun _ k => XS.ifNo X9.here hx rfl (hb hby d3_82) rfl ((if0 _ _).trans (teq (by decide : (0 : Int32) = (0 : Int32))).2) k) ?_
    refine own_g (T9.setTop (mkF m 86 #[.val (.ref r0), .val (.ref u), .val (.int 0), .val (.int 10), .val (.ref en), .val (.int 0)] [(.ref r0)])) (fun _ k => XS.aloadN X9.here hx rfl (hb hby d3_85) rfl rfl k) ?_
    obtain ⟨T10, X10, e10, st10⟩ := getF X9 hx hZ hown (host := "") (Or.inl (own_w hw 17 rfl)) Via.refl e9 (own_Gf Gh 0 rfl rfl) (g := (mkF m 86 #[.val (.ref r0), .val (.ref u), .val (.int 0), .val (.int 10), .val (.ref en), .val (.int 0)] [(.ref r0)])) rfl rfl (hb hby d3_86)
    refine own_g (T10.setTop (mkF m 89 #[.val (.ref r0), .val (.ref u), .val (.int 0), .val (.int 10), .val (.ref en), .val (.int 0)] [(.ref (sa 0))])) (st10) ?_
    obtain ⟨cq11, kq11, qk11a, qk11b, qk11c⟩ := isOf hZ e10 (show Exa Z h (sa 0) "com/example/corridor/corridor/iso20022/MarkupScanner$State" from (Ih.1 0 _ rfl).2.1)
    obtain ⟨_, _, ⟨T11, L11, k11, n11⟩, -, X11, ⟨Lc11, hQ11, l11, y11, z11⟩, st11⟩ := X10.virtualBackUp hx (x := (⟨"com/example/corridor/corridor/iso20022/MarkupScanner$State", "ordinal", "()I"⟩ : MethodName)) (y := (⟨"java/lang/Enum", "ordinal", "()I"⟩ : MethodName)) (owner := "java/lang/Enum") hown (mvT hZ (own_w hw 56 rfl)) (mvT hZ (own_w hw 57 rfl)) (mvT hZ (own_w hw 58 rfl)) (by decide) (mvT hZ (own_w hw 60 rfl)) (mvT hZ (own_w hw 59 rfl)) (backOf (W := 0) (ord l Z a0 hw [] (sa 0) (0 : Int32) h n0 Zh (show Fld Z h (sa 0) "java/lang/Enum" "ordinal" "I" (.int 0) from (Ih.1 0 _ rfl).2.2.1)) hZ (own_w hw 62 rfl) (own_w hw 61 rfl) (by decide) (by decide)) qk11a qk11c (g := (mkF m 89 #[.val (.ref r0), .val (.ref u), .val (.int 0), .val (.int 10), .val (.ref en), .val (.int 0)] [(.ref (sa 0))])) rfl (by rw [hml]; rfl) (Steps.refl _) (argsL := []) (rest := []) (lenOf pd4 rfl) rfl (by show 2 * 0 + _ ≤ _; exact Nat.le_of_eq rfl) (hb hby d3_89) (fun _ _ => ⟨rfl, e10, (by decide : 0 + 0 ≤ _), (by decide : 0 + 0 ≤ _)⟩)
    dsimp only [Pt.U, Pt.locs, Pt.cells, Pt.slots] at X11 l11 y11 z11 st11 hQ11
    subst l11 y11 z11
    obtain ⟨rfl, Nq11, e11⟩ := hQ11
    have N11 := Fr.app N Nq11
    refine own_g (T11.setTop (mkF m 92 #[.val (.ref r0), .val (.ref u), .val (.int 0), .val (.int 10), .val (.ref en), .val (.int 0)] [(.int 0)])) (fun _ k => st11.trans k) ?_
    refine own_g (T11.setTop (mkF m 148 #[.val (.ref r0), .val (.ref u), .val (.int 0), .val (.int 10), .val (.ref en), .val (.int 0)] [])) (fun _ k => XS.tswIn X11.here hx rfl (pc0 := 92) (pc' := 148) (o := 56) rfl (hb hby d3_92) rfl (by decide) rfl (by decide) (by decide) k) ?_
    refine own_g (T11.setTop (mkF m 149 #[.val (.ref r0), .val (.ref u), .val (.int 0), .val (.int 10), .val (.ref en), .val (.int 0)] [(.ref r0)])) (fun _ k => XS.aloadN X11.here hx rfl (hb hby d3_148) rfl rfl k) ?_
    refine own_g (T11.setTop (mkF m 151 #[.val (.ref r0), .val (.ref u), .val (.int 0), .val (.int 10), .val (.ref en), .val (.int 0)] [(.int 0), (.ref r0)])) (fun _ k => XS.iload X11.here hx rfl (hb hby d3_149) rfl k) ?_
    refine own_g (T11.setTop (mkF m 152 #[.val (.ref r0), .val (.ref u), .val (.int 0), .val (.int 10), .val (.ref en), .val (.int 0)] [(.int 10), (.int 0), (.ref r0)])) (fun _ k => XS.iloadN X11.here hx rfl (hb hby d3_151) rfl k) ?_
    obtain ⟨cq12, qk12, qk12'⟩ := Gh.1.cell
    obtain ⟨_, _, ⟨T12, L12, k12, n12⟩, -, X12, ⟨Lc12, hQ12, l12, y12, z12⟩, st12⟩ := X11.privateBack hx (y := (⟨"com/example/corridor/corridor/iso20022/MarkupScanner", "content", "(II)I"⟩ : MethodName)) hown (mvT hZ (own_w hw 65 rfl)) (mvT hZ (own_w hw 66 rfl)) (mvT hZ (own_selPriv (own_w hw 66 rfl) (own_w hw 67 rfl) (own_w hw 30 rfl) rfl (by decide))) (Cond.privateMethod_at (mvP hZ (own_w hw 67 rfl) (args := #[]))) (mvT hZ (own_w hw 68 rfl)) (by decide) (backOf (W := 0) (cont l Z a0 hw [] r0 u ku cu en EC w sa (.long 1) (1 : Int64) (.int 0) (.long 0) (.long 0) (.ref en) (.int w) (.int 0) (.int 0) (.int 0) (.long 0) (.int 0) (.long 0) (.int 0) (.int 0) (.int 0) (.int 0) (.int 0) h n0 Zh Ih Gh gn_r0) hZ (own_w hw 68 rfl) (own_w hw 7 rfl) (by decide) (by decide)) (g := (mkF m 152 #[.val (.ref r0), .val (.ref u), .val (.int 0), .val (.int 10), .val (.ref en), .val (.int 0)] [(.int 10), (.int 0), (.ref r0)])) rfl (by rw [hml]; rfl) (Steps.refl _) (a := r0) (by rw [e11]; exact qk12) qk12' (argsL := [(.int 0), (.int 10)]) (rest := []) (lenOf pd13 rfl) rfl (by show 2 * 0 + _ ≤ _; exact Nat.le_of_eq rfl) (hb hby d3_152) (fun _ _ => ⟨rfl, e11, (by decide : 0 + 0 ≤ _), (by decide : 0 + 0 ≤ _)⟩)
    dsimp only [Pt.U, Pt.locs, Pt.cells, Pt.slots] at X12 l12 y12 z12 st12 hQ12
    subst l12 y12 z12
    obtain ⟨rfl, Nq12, Kq12, Gq12⟩ := hQ12
    have N12 := Fr.app N11 Nq12
    have I12 : own_I Z T12.heap r0 u ku cu en EC w sa := Ih.keep Kq12 Gh.1
    have G12 : own_G Z T12.heap r0 [(.ref (sa 3)), (.int 0), (.int 0), (.long 1), (.long 1), (.ref u), (.int 0), (.long 0), (.long 0), (.ref en), (.int w), (.int 0), (.int 1), (.int 0), (.int 0), (.long 0), (.int 0), (.long 0), (.int 0), (.int 0), (.int 0), (.int 0), (.int 0)] := Gq12
    have S_Cs_c12 := own_stk S_Cs Kq12 Gh.1
    have S_Fs_c12 := own_stk S_Fs Kq12 Gh.1
    have hCt12 := hCv.trans (CHr.keep Kq12 (own_safe1 hZ.alike Gh.1) hCv.1)
    have Z12 : n0 ≤ T12.heap.size := Nat.le_trans Zh Kq12.1
    have K12 : Keep h0 T12.heap [r0] := Kh.trans Kq12 (allS (Or.inl (List.mem_of_getElem? (i := 0) rfl)) all0)
    refine own_g (T12.setTop (mkF m 155 #[.val (.ref r0), .val (.ref u), .val (.int 0), .val (.int 10), .val (.ref en), .val (.int 0)] [(.int 2)])) (fun _ k => st12.trans k) ?_
    refine own_g (T12.setTop (mkF m 174 #[.val (.ref r0), .val (.ref u), .val (.int 0), .val (.int 10), .val (.ref en), .val (.int 0)] [(.int 2)])) (fun _ k => XS.goto X12.here hx rfl (pc0 := 155) (pc' := 174) rfl (hb hby d3_155) (by decide) (by decide) k) ?_
    refine own_g (T12.setTop (mkF m 176 #[.val (.ref r0), .val (.ref u), .val (.int 0), .val (.int 10), .val (.ref en), .val (.int 2)] [])) (fun _ k => XS.istore X12.here hx rfl (hb hby d3_174) rfl (l' := #[.val (.ref r0), .val (.ref u), .val (.int 0), .val (.int 10), .val (.ref en), .val (.int 2)]) rfl k) ?_
    refine own_g (T12.setTop (mkF m 72 #[.val (.ref r0), .val (.ref u), .val (.int 0), .val (.int 10), .val (.ref en), .val (.int 2)] [])) (fun _ k => XS.goto X12.here hx rfl (pc0 := 176) (pc' := 72) rfl (hb hby d3_176) (by decide) (by decide) k) ?_
    exact seg2 _ _ _ _ _ X12 rfl N12 Z12 K12 I12 G12 hS (by exact (Nat.le_trans hk Kq12.1)) hZ hown hCt12 S_Cs_c12 S_Fs_c12
  refine own_g (s₁.setTop (mkF m 1 #[.val (.ref r0), .val (.ref u), .val (.int 0), .val (.int 10), .val (.ref en), .unset] [(.int 10)])) (fun _ k => XS.iloadN X0.here hx rfl (hb hby d3_0) rfl k) ?_
  refine own_g (s₁.setTop (mkF m 2 #[.val (.ref r0), .val (.ref u), .val (.int 0), .val (.int 10), .val (.ref en), .unset] [(.int 0), (.int 10)])) (fun _ k => XS.iloadN X0.here hx rfl (hb hby d3_1) rfl k) ?_
  refine own_g (s₁.setTop (mkF m 3 #[.val (.ref r0), .val (.ref u), .val (.int 0), .val (.int 10), .val (.ref en), .unset] [(.int ((10 : Int32) - (0 : Int32)))])) (fun _ k => XS.isub X0.here hx rfl (hb hby d3_2) rfl k) ?_
  rw [show ((10 : Int32) - (0 : Int32)) = (10 : Int32) from by decide]
  refine own_g (s₁.setTop (mkF m 6 #[.val (.ref r0), .val (.ref u), .val (.int 0), .val (.int 10), .val (.ref en), .unset] [(.int 8192), (.int 10)])) (fun _ k => XS.sipush X0.here hx rfl (hb hby d3_3) k) ?_
  refine own_g (s₁.setTop (mkF m 19 #[.val (.ref r0), .val (.ref u), .val (.int 0), .val (.int 10), .val (.ref en), .unset] [])) (fun _ k => XS.icmpYes X0.here hx rfl (pc0 := 6) (pc' := 19) rfl (hb hby d3_6) rfl (flt (by decide : ¬ ((8192 : Int32) < (10 : Int32)))).2.2.2 (by decide) (by decide) k) ?_
  refine own_g (s₁.setTop (mkF m 20 #[.val (.ref r0), .val (.ref u), .val (.int 0), .val (.int 10), .val (.ref en), .unset] [(.ref r0)])) (fun _ k => XS.aloadN X0.here hx rfl (hb hby d3_19) rfl rfl k) ?_
  refine own_g (s₁.setTop (mkF m 21 #[.val (.ref r0), .val (.ref u), .val (.int 0), .val (.int 10), .val (.ref en), .unset] [(.ref u), (.ref r0)])) (fun _ k => XS.aloadN X0.here hx rfl (hb hby d3_20) rfl rfl k) ?_
  obtain ⟨T1, h1, X1, e1, W1, st1⟩ := putF X0 hx hZ hown (host := "") (Or.inl (own_w hw 32 rfl)) Via.refl e0 (own_Gf G 5 rfl rfl) G.1 (Or.inl (own_w hw 33 rfl)) (own_w hw 6 rfl) (ty := (.array .char)) (by decide) rfl rfl (g := (mkF m 21 #[.val (.ref r0), .val (.ref u), .val (.int 0), .val (.int 10), .val (.ref en), .unset] [(.ref u), (.ref r0)])) rfl rfl (hb hby d3_21)
  have G1 : own_G Z h1 r0 [(.ref (sa 0)), (.int 1), (.int (-1)), (.long 1), (.long 1), (.ref u), (.int 0), (.long 0), (.long 0), .null, (.int 0), (.int 0), (.int 0), (.int 0), (.int 0), (.long 0), (.int 0), (.long 0), (.int 0), (.int 0), (.int 0), (.int 0), (.int 0)] := own_G.put hw G 5 rfl (Nat.le_of_ble_eq_true rfl) W1
  have I1 : own_I Z h1 r0 u ku cu en EC w sa := I.wr W1 G.1
  have S_C_c1 := S_C.wr W1
  have S_F_c1 := S_F.wr W1
  have N1 := Fr.snoc X1 N0 gn_r0
  have Z1 : n0 ≤ h1.size := Nat.le_trans Z0 (Keep.of_wr W1).1
  have K1 : Keep h0 h1 [r0] := K0.wr W1 (Or.inl (List.mem_of_getElem? (i := 0) rfl))
  have hCt1 := hC0.trans (CHr.wr W1 (Safe.exa hZ.alike G.1 (by decide) (by decide)) hC0.1)
  refine own_g (T1.setTop (mkF m 24 #[.val (.ref r0), .val (.ref u), .val (.int 0), .val (.int 10), .val (.ref en), .unset] [])) (st1) ?_
  refine own_g (T1.setTop (mkF m 25 #[.val (.ref r0), .val (.ref u), .val (.int 0), .val (.int 10), .val (.ref en), .unset] [(.ref r0)])) (fun _ k => XS.aloadN X1.here hx rfl (hb hby d3_24) rfl rfl k) ?_
  refine own_g (T1.setTop (mkF m 26 #[.val (.ref r0), .val (.ref u), .val (.int 0), .val (.int 10), .val (.ref en), .unset] [(.int 0), (.ref r0)])) (fun _ k => XS.iloadN X1.here hx rfl (hb hby d3_25) rfl k) ?_
  obtain ⟨T2, h2, X2, e2, W2, st2⟩ := putF X1 hx hZ hown (host := "") (Or.inl (own_w hw 34 rfl)) Via.refl e1 (own_Gf G1 6 rfl rfl) G1.1 (Or.inl (own_w hw 35 rfl)) (own_w hw 6 rfl) (ty := .int) (by decide) rfl rfl (g := (mkF m 26 #[.val (.ref r0), .val (.ref u), .val (.int 0), .val (.int 10), .val (.ref en), .unset] [(.int 0), (.ref r0)])) rfl rfl (hb hby d3_26)
  have G2 : own_G Z h2 r0 [(.ref (sa 0)), (.int 1), (.int (-1)), (.long 1), (.long 1), (.ref u), (.int 0), (.long 0), (.long 0), .null, (.int 0), (.int 0), (.int 0), (.int 0), (.int 0), (.long 0), (.int 0), (.long 0), (.int 0), (.int 0), (.int 0), (.int 0), (.int 0)] := own_G.put hw G1 6 rfl (Nat.le_of_ble_eq_true rfl) W2
  have I2 : own_I Z h2 r0 u ku cu en EC w sa := I1.wr W2 G1.1
  have S_C_c2 := S_C_c1.wr W2
  have S_F_c2 := S_F_c1.wr W2
  have N2 := Fr.snoc X2 N1 gn_r0
  have Z2 : n0 ≤ h2.size := Nat.le_trans Z1 (Keep.of_wr W2).1
  have K2 : Keep h0 h2 [r0] := K1.wr W2 (Or.inl (List.mem_of_getElem? (i := 0) rfl))
  have hCt2 := hCt1.trans (CHr.wr W2 (Safe.exa hZ.alike G1.1 (by decide) (by decide)) hCt1.1)
  refine own_g (T2.setTop (mkF m 29 #[.val (.ref r0), .val (.ref u), .val (.int 0), .val (.int 10), .val (.ref en), .unset] [])) (st2) ?_
  refine own_g (T2.setTop (mkF m 30 #[.val (.ref r0), .val (.ref u), .val (.int 0), .val (.int 10), .val (.ref en), .unset] [(.ref r0)])) (fun _ k => XS.aloadN X2.here hx rfl (hb hby d3_29) rfl rfl k) ?_
  refine own_g (T2.setTop (mkF m 31 #[.val (.ref r0), .val (.ref u), .val (.int 0), .val (.int 10), .val (.ref en), .unset] [(.ref r0), (.ref r0)])) (fun _ k => XS.aloadN X2.here hx rfl (hb hby d3_30) rfl rfl k) ?_
  obtain ⟨T3, X3, e3, st3⟩ := getF X2 hx hZ hown (host := "") (Or.inl (own_w hw 36 rfl)) Via.refl e2 (own_Gf G2 7 rfl rfl) (g := (mkF m 31 #[.val (.ref r0), .val (.ref u), .val (.int 0), .val (.int 10), .val (.ref en), .unset] [(.ref r0), (.ref r0)])) rfl rfl (hb hby d3_31)
  refine own_g (T3.setTop (mkF m 34 #[.val (.ref r0), .val (.ref u), .val (.int 0), .val (.int 10), .val (.ref en), .unset] [(.long 0), (.ref r0)])) (st3) ?_
  obtain ⟨T4, h4, X4, e4, W4, st4⟩ := putF X3 hx hZ hown (host := "") (Or.inl (own_w hw 38 rfl)) Via.refl e3 (own_Gf G2 8 rfl rfl) G2.1 (Or.inl (own_w hw 39 rfl)) (own_w hw 6 rfl) (ty := .long) (by decide) rfl rfl (g := (mkF m 34 #[.val (.ref r0), .val (.ref u), .val (.int 0), .val (.int 10), .val (.ref en), .unset] [(.long 0), (.ref r0)])) rfl rfl (hb hby d3_34)
  have G4 : own_G Z h4 r0 [(.ref (sa 0)), (.int 1), (.int (-1)), (.long 1), (.long 1), (.ref u), (.int 0), (.long 0), (.long 0), .null, (.int 0), (.int 0), (.int 0), (.int 0), (.int 0), (.long 0), (.int 0), (.long 0), (.int 0), (.int 0), (.int 0), (.int 0), (.int 0)] := own_G.put hw G2 8 rfl (Nat.le_of_ble_eq_true rfl) W4
  have I4 : own_I Z h4 r0 u ku cu en EC w sa := I2.wr W4 G2.1
  have S_C_c4 := S_C_c2.wr W4
  have S_F_c4 := S_F_c2.wr W4
  have N4 := Fr.snoc X4 N2 gn_r0
  have Z4 : n0 ≤ h4.size := Nat.le_trans Z2 (Keep.of_wr W4).1
  have K4 : Keep h0 h4 [r0] := K2.wr W4 (Or.inl (List.mem_of_getElem? (i := 0) rfl))
  have hCt4 := hCt2.trans (CHr.wr W4 (Safe.exa hZ.alike G2.1 (by decide) (by decide)) hCt2.1)
  refine own_g (T4.setTop (mkF m 37 #[.val (.ref r0), .val (.ref u), .val (.int 0), .val (.int 10), .val (.ref en), .unset] [])) (st4) ?_
  refine own_g (T4.setTop (mkF m 38 #[.val (.ref r0), .val (.ref u), .val (.int 0), .val (.int 10), .val (.ref en), .unset] [(.ref r0)])) (fun _ k => XS.aloadN X4.here hx rfl (hb hby d3_37) rfl rfl k) ?_
  refine own_g (T4.setTop (mkF m 40 #[.val (.ref r0), .val (.ref u), .val (.int 0), .val (.int 10), .val (.ref en), .unset] [(.ref en), (.ref r0)])) (fun _ k => XS.aload X4.here hx rfl (hb hby d3_38) rfl rfl k) ?_
  obtain ⟨T5, h5, X5, e5, W5, st5⟩ := putF X4 hx hZ hown (host := "") (Or.inl (own_w hw 40 rfl)) Via.refl e4 (own_Gf G4 9 rfl rfl) G4.1 (Or.inl (own_w hw 41 rfl)) (own_w hw 6 rfl) (ty := (.object "com/example/corridor/corridor/iso20022/MarkupScanner$Encoding")) (by decide) rfl rfl (g := (mkF m 40 #[.val (.ref r0), .val (.ref u), .val (.int 0), .val (.int 10), .val (.ref en), .unset] [(.ref en), (.ref r0)])) rfl rfl (hb hby d3_40)
  have G5 : own_G Z h5 r0 [(.ref (sa 0)), (.int 1), (.int (-1)), (.long 1), (.long 1), (.ref u), (.int 0), (.long 0), (.long 0), (.ref en), (.int 0), (.int 0), (.int 0), (.int 0), (.int 0), (.long 0), (.int 0), (.long 0), (.int 0), (.int 0), (.int 0), (.int 0), (.int 0)] := own_G.put hw G4 9 rfl (Nat.le_of_ble_eq_true rfl) W5
  have I5 : own_I Z h5 r0 u ku cu en EC w sa := I4.wr W5 G4.1
  have S_C_c5 := S_C_c4.wr W5
  have S_F_c5 := S_F_c4.wr W5
  have N5 := Fr.snoc X5 N4 gn_r0
  have Z5 : n0 ≤ h5.size := Nat.le_trans Z4 (Keep.of_wr W5).1
  have K5 : Keep h0 h5 [r0] := K4.wr W5 (Or.inl (List.mem_of_getElem? (i := 0) rfl))
  have hCt5 := hCt4.trans (CHr.wr W5 (Safe.exa hZ.alike G4.1 (by decide) (by decide)) hCt4.1)
  refine own_g (T5.setTop (mkF m 43 #[.val (.ref r0), .val (.ref u), .val (.int 0), .val (.int 10), .val (.ref en), .unset] [])) (st5) ?_
  refine own_g (T5.setTop (mkF m 44 #[.val (.ref r0), .val (.ref u), .val (.int 0), .val (.int 10), .val (.ref en), .unset] [(.ref r0)])) (fun _ k => XS.aloadN X5.here hx rfl (hb hby d3_43) rfl rfl k) ?_
  refine own_g (T5.setTop (mkF m 46 #[.val (.ref r0), .val (.ref u), .val (.int 0), .val (.int 10), .val (.ref en), .unset] [(.ref en), (.ref r0)])) (fun _ k => XS.aload X5.here hx rfl (hb hby d3_44) rfl rfl k) ?_
  obtain ⟨T6, X6, e6, st6⟩ := getF X5 hx hZ hown (host := "") (Or.inl (own_w hw 42 rfl)) Via.refl e5 I5.2.2.1 (g := (mkF m 46 #[.val (.ref r0), .val (.ref u), .val (.int 0), .val (.int 10), .val (.ref en), .unset] [(.ref en), (.ref r0)])) rfl rfl (hb hby d3_46)
  refine own_g (T6.setTop (mkF m 49 #[.val (.ref r0), .val (.ref u), .val (.int 0), .val (.int 10), .val (.ref en), .unset] [(.int w), (.ref r0)])) (st6) ?_
  obtain ⟨T7, h7, X7, e7, W7, st7⟩ := putF X6 hx hZ hown (host := "") (Or.inl (own_w hw 44 rfl)) Via.refl e6 (own_Gf G5 10 rfl rfl) G5.1 (Or.inl (own_w hw 45 rfl)) (own_w hw 6 rfl) (ty := .int) (by decide) rfl rfl (g := (mkF m 49 #[.val (.ref r0), .val (.ref u), .val (.int 0), .val (.int 10), .val (.ref en), .unset] [(.int w), (.ref r0)])) rfl rfl (hb hby d3_49)
  have G7 : own_G Z h7 r0 [(.ref (sa 0)), (.int 1), (.int (-1)), (.long 1), (.long 1), (.ref u), (.int 0), (.long 0), (.long 0), (.ref en), (.int w), (.int 0), (.int 0), (.int 0), (.int 0), (.long 0), (.int 0), (.long 0), (.int 0), (.int 0), (.int 0), (.int 0), (.int 0)] := own_G.put hw G5 10 rfl (Nat.le_of_ble_eq_true rfl) W7
  have I7 : own_I Z h7 r0 u ku cu en EC w sa := I5.wr W7 G5.1
  have S_C_c7 := S_C_c5.wr W7
  have S_F_c7 := S_F_c5.wr W7
  have N7 := Fr.snoc X7 N5 gn_r0
  have Z7 : n0 ≤ h7.size := Nat.le_trans Z5 (Keep.of_wr W7).1
  have K7 : Keep h0 h7 [r0] := K5.wr W7 (Or.inl (List.mem_of_getElem? (i := 0) rfl))
  have hCt7 := hCt5.trans (CHr.wr W7 (Safe.exa hZ.alike G5.1 (by decide) (by decide)) hCt5.1)
  refine own_g (T7.setTop (mkF m 52 #[.val (.ref r0), .val (.ref u), .val (.int 0), .val (.int 10), .val (.ref en), .unset] [])) (st7) ?_
  refine own_g (T7.setTop (mkF m 53 #[.val (.ref r0), .val (.ref u), .val (.int 0), .val (.int 10), .val (.ref en), .unset] [(.ref r0)])) (fun _ k => XS.aloadN X7.here hx rfl (hb hby d3_52) rfl rfl k) ?_
  obtain ⟨cq8, qk8, qk8'⟩ := G7.1.cell
  obtain ⟨_, _, ⟨T8, L8, k8, n8⟩, -, X8, ⟨Lc8, hQ8, l8, y8, z8⟩, st8⟩ := X7.privateBack hx (y := (⟨"com/example/corridor/corridor/iso20022/MarkupScanner", "inName", "()Z"⟩ : MethodName)) hown (mvT hZ (own_w hw 46 rfl)) (mvT hZ (own_w hw 47 rfl)) (mvT hZ (own_selPriv (own_w hw 47 rfl) (own_w hw 48 rfl) (own_w hw 30 rfl) rfl (by decide))) (Cond.privateMethod_at (mvP hZ (own_w hw 48 rfl) (args := #[]))) (mvT hZ (own_w hw 49 rfl)) (by decide) (backOf (W := 0) (inn l Z a0 hw [] r0 u ku cu en EC w sa (sa 0) (.int 1) (.int (-1)) (.long 1) (.long 1) (.ref u) (.int 0) (.long 0) (.long 0) (.ref en) (.int w) (.int 0) (.int 0) (.int 0) (.int 0) (.long 0) (.int 0) (.long 0) (.int 0) (.int 0) (.int 0) (.int 0) (.int 0) h7 n0 Z7 I7 G7 gn_r0 (own_I.ne I7 0 2 rfl rfl (by decide)) (own_I.ne I7 0 5 rfl rfl (by decide))) hZ (own_w hw 49 rfl) (own_w hw 7 rfl) (by decide) (by decide)) (g := (mkF m 53 #[.val (.ref r0), .val (.ref u), .val (.int 0), .val (.int 10), .val (.ref en), .unset] [(.ref r0)])) rfl (by rw [hml]; rfl) (Steps.refl _) (a := r0) (by rw [e7]; exact qk8) qk8' (argsL := []) (rest := []) (lenOf pd10 rfl) rfl (by show 2 * 0 + _ ≤ _; exact Nat.le_of_eq rfl) (hb hby d3_53) (fun _ _ => ⟨rfl, e7, (by decide : 0 + 0 ≤ _), (by decide : 0 + 0 ≤ _)⟩)
  dsimp only [Pt.U, Pt.locs, Pt.cells, Pt.slots] at X8 l8 y8 z8 st8 hQ8
  subst l8 y8 z8
  obtain ⟨rfl, Nq8, e8⟩ := hQ8
  have N8 := Fr.app N7 Nq8
  refine own_g (T8.setTop (mkF m 56 #[.val (.ref r0), .val (.ref u), .val (.int 0), .val (.int 10), .val (.ref en), .unset] [(.int 0)])) (fun _ k => st8.trans k) ?_
  refine own_g (T8.setTop (mkF m 69 #[.val (.ref r0), .val (.ref u), .val (.int 0), .val (.int 10), .val (.ref en), .unset] [])) (fun _ k => XS.ifYes X8.here hx rfl (pc0 := 56) (pc' := 69) rfl (hb hby d3_56) rfl ((if0 _ _).trans (teq (by decide : (0 : Int32) = (0 : Int32))).1) (by decide) (by decide) k) ?_
  refine own_g (T8.setTop (mkF m 70 #[.val (.ref r0), .val (.ref u), .val (.int 0), .val (.int 10), .val (.ref en), .unset] [(.int 0)])) (fun _ k => XS.iloadN X8.here hx rfl (hb hby d3_69) rfl k) ?_
  refine own_g (T8.setTop (mkF m 72 #[.val (.ref r0), .val (.ref u), .val (.int 0), .val (.int 10), .val (.ref en), .val (.int 0)] [])) (fun _ k => XS.istore X8.here hx rfl (hb hby d3_70) rfl (l' := #[.val (.ref r0), .val (.ref u), .val (.int 0), .val (.int 10), .val (.ref en), .val (.int 0)]) rfl k) ?_
  exact seg0 _ _ _ _ _ X8 e8 N8 Z7 K7 I7 G7 hS0 (by exact (Nat.le_trans (Nat.le_trans (Nat.le_trans (Nat.le_trans (Nat.le_trans (Nat.zero_le _) (Keep.of_wr W1).1) (Keep.of_wr W2).1) (Keep.of_wr W4).1) (Keep.of_wr W5).1) (Keep.of_wr W7).1)) hZ hown hCt7 S_C_c7 S_F_c7
def own_QB (Z : State) (r0 : Addr) (n0 : Nat) (h0 : Heap) (w : Option Value) (vs : Int32 → List Value) (v : Option Value) (h : Heap) (L : List Loc) : Prop := ∃ pv : Int32, v = w ∧ Fr n0 L ∧ Keep h0 h [r0] ∧ own_G Z h r0 (vs pv)
theorem own_le8192 {a b : Int32} (h0 : 0 ≤ a.toInt) (h1 : a.toInt < 20000) (g0 : 0 ≤ b.toInt) (g1 : b.toInt < 20000) (h : b.toInt - a.toInt ≤ 8192) : ¬ ((8192 : Int32) < (b - a)) := own_nilt (by rw [own_sub g0 g1 h0 h1]; exact h)
theorem own_pred {b : Int32} (h0 : 11 ≤ b.toInt) (h1 : b.toInt ≤ 16394) : 10 ≤ (b - (1 : Int32)).toInt ∧ (b - (1 : Int32)).toInt < 16394 := by
  rw [own_sub (by omega) (by omega) (by decide) (by decide), show (1 : Int32).toInt = 1 from rfl]; omega
theorem ef_scanA (m : MethodId) (r0 : Addr) (u : Addr) (p2 : Int32) (p3 : Int32) (en : Addr) : entryFrame m #[(.ref r0), (.ref u), (.int p2), (.int p3), (.ref en)] 6 = mkF m 0 #[.val (.ref r0), .val (.ref u), .val (.int p2), .val (.int p3), .val (.ref en), .unset] [] := by first | (simp [entryFrame, mkF, argsToLocals, Value.category]; done) | rfl
set_option maxRecDepth 65536 in
set_option maxHeartbeats 40000000 in
theorem scanA (l : Launch) (Z : State) (a0 : Array Value) (hw : ∀ d ∈ tables_1, d.before a0 Z = true) (ws : List Jvm.Cond) (r0 : Addr) (u : Addr) (p2 : Int32) (p3 : Int32) (en : Addr) (ku : ClassId) (cu : Int32) (EC : String) (w : Int32) (sa : Nat → Addr) (x1 : Value) (x3 : Value) (x4 : Value) (x5 : Value) (x6 : Value) (of : Int64) (x8 : Value) (x9 : Value) (x10 : Value) (x13 : Value) (mk : Int32) (co : Int64) (pr : Int32) (x17 : Value) (x18 : Value) (x19 : Value) (x20 : Value) (x21 : Value) (x22 : Value) (qi : Int32) (h0 : Heap) (n0 : Nat) (Z0 : n0 ≤ h0.size) (I : own_I Z h0 r0 u ku cu en EC w sa) (G : own_G Z h0 r0 [(.ref (sa 9)), x1, (.int (-1)), x3, x4, x5, x6, (.long of), x8, x9, x10, (.int 0), (.int 0), x13, (.int mk), (.long co), (.int pr), x17, x18, x19, x20, x21, x22]) (gn_r0 : n0 ≤ r0) (HC : own_C of co p2 w qi) (b1 : 10 ≤ p2.toInt) (b5 : qi.toInt < 16394) (b4 : p2.toInt < p3.toInt) (b7 : p3.toInt - p2.toInt ≤ 8192) (b6 : p3.toInt ≤ qi.toInt) :
    MetFree l (⟨"com/example/corridor/corridor/iso20022/MarkupScanner", "scan", "([CIILcom/example/corridor/corridor/iso20022/MarkupScanner$Encoding;)I"⟩ : MethodName) (head1 (Jvm.Cond.code (⟨"com/example/corridor/corridor/iso20022/MarkupScanner", "scan", "([CIILcom/example/corridor/corridor/iso20022/MarkupScanner$Encoding;)I"⟩ : MethodName) prog_34_method_2_code 6 (some .int) :: ws) ({ frames := 3, cells := 0, slots := 0, locals := 44 } : Room)) (fun a U => a = #[(.ref r0), (.ref u), (.int p2), (.int p3), (.ref en)] ∧ Z.Warmed39 U.vm ∧ U.heap = h0) (fun _ _ _ _ _ => True) (fun _ U o U' => ∃ v L, o = .returned v ∧ (own_QG Z r0 n0 h0 (some (.int p3)) [(.ref (sa 9)), x1, (.int (-1)), x3, x4, (.ref u), (.int p2), (.long (of + (((p3 - p2).toInt64) * (w.toInt64)))), (.long of), (.ref en), (.int w), (.int 0), (.int 0), x13, (.int 0), (.long co), (.int 0), x17, x18, x19, x20, x21, x22]) v U'.heap L ∧ FrameEnd U o U' L 0 0) := by
  refine MetFree.of_bodySF (plainFor_of_name pn3) hisR ?_
  intro p e s m args below meth c s₁ Bd hml0 hP hK
  obtain ⟨rfl, hZ, hh⟩ := hP
  have hx := Bd.exec
  have hby := Bd.bytes
  have hml : c.maxLocals = 6 := hml0
  have hown : s.vm.findClass "com/example/corridor/corridor/iso20022/MarkupScanner" = some m.cls := findClass_of_methodNamed Bd.named
  have hnm := (name_of_methodNamed Bd.named Bd.method).1
  have X0 : Stand p l e ({ frames := 3, cells := 0, slots := 0, locals := 44 } : Room) s m #[(.ref r0), (.ref u), (.int p2), (.int p3), (.ref en)] below meth c s₁ [] 0 0 := Stand.of_body Bd
  have e0 : s₁.heap = h0 := by rw [← hh, Bd.state]; rfl
  have N0 := Fr.nil n0
  have K0 : Keep h0 h0 [r0] := Keep.refl h0 [r0]
  show own_Goes p e below (own_End s (own_QG Z r0 n0 h0 (some (.int p3)) [(.ref (sa 9)), x1, (.int (-1)), x3, x4, (.ref u), (.int p2), (.long (of + (((p3 - p2).toInt64) * (w.toInt64)))), (.long of), (.ref en), (.int w), (.int 0), (.int 0), x13, (.int 0), (.long co), (.int 0), x17, x18, x19, x20, x21, x22]) 0 0) _
  refine own_g (s₁.setTop (mkF m 0 #[.val (.ref r0), .val (.ref u), .val (.int p2), .val (.int p3), .val (.ref en), .unset] [])) (fun t k => castTop (ef_scanA m r0 u p2 p3 en) k) ?_
  refine own_g (s₁.setTop (mkF m 1 #[.val (.ref r0), .val (.ref u), .val (.int p2), .val (.int p3), .val (.ref en), .unset] [(.int p3)])) (fun _ k => XS.iloadN X0.here hx rfl (hb hby d3_0) rfl k) ?_
  refine own_g (s₁.setTop (mkF m 2 #[.val (.ref r0), .val (.ref u), .val (.int p2), .val (.int p3), .val (.ref en), .unset] [(.int p2), (.int p3)])) (fun _ k => XS.iloadN X0.here hx rfl (hb hby d3_1) rfl k) ?_
  refine own_g (s₁.setTop (mkF m 3 #[.val (.ref r0), .val (.ref u), .val (.int p2), .val (.int p3), .val (.ref en), .unset] [(.int (p3 - p2))])) (fun _ k => XS.isub X0.here hx rfl (hb hby d3_2) rfl k) ?_
  refine own_g (s₁.setTop (mkF m 6 #[.val (.ref r0), .val (.ref u), .val (.int p2), .val (.int p3), .val (.ref en), .unset] [(.int 8192), (.int (p3 - p2))])) (fun _ k => XS.sipush X0.here hx rfl (hb hby d3_3) k) ?_
  refine own_g (s₁.setTop (mkF m 19 #[.val (.ref r0), .val (.ref u), .val (.int p2), .val (.int p3), .val (.ref en), .unset] [])) (fun _ k => XS.icmpYes X0.here hx rfl (pc0 := 6) (pc' := 19) rfl (hb hby d3_6) rfl (flt (own_le8192 (by omega) (by omega) (by omega) (by omega) b7 : ¬ ((8192 : Int32) < (p3 - p2)))).2.2.2 (by decide) (by decide) k) ?_
  refine own_g (s₁.setTop (mkF m 20 #[.val (.ref r0), .val (.ref u), .val (.int p2), .val (.int p3), .val (.ref en), .unset] [(.ref r0)])) (fun _ k => XS.aloadN X0.here hx rfl (hb hby d3_19) rfl rfl k) ?_
  refine own_g (s₁.setTop (mkF m 21 #[.val (.ref r0), .val (.ref u), .val (.int p2), .val (.int p3), .val (.ref en), .unset] [(.ref u), (.ref r0)])) (fun _ k => XS.aloadN X0.here hx rfl (hb hby d3_20) rfl rfl k) ?_
  obtain ⟨T1, h1, X1, e1, W1, st1⟩ := putF X0 hx hZ hown (host := "") (Or.inl (own_w hw 32 rfl)) Via.refl e0 (own_Gf G 5 rfl rfl) G.1 (Or.inl (own_w hw 33 rfl)) (own_w hw 6 rfl) (ty := (.array .char)) (by decide) rfl rfl (g := (mkF m 21 #[.val (.ref r0), .val (.ref u), .val (.int p2), .val (.int p3), .val (.ref en), .unset] [(.ref u), (.ref r0)])) rfl rfl (hb hby d3_21)
  have G1 : own_G Z h1 r0 [(.ref (sa 9)), x1, (.int (-1)), x3, x4, (.ref u), x6, (.long of), x8, x9, x10, (.int 0), (.int 0), x13, (.int mk), (.long co), (.int pr), x17, x18, x19, x20, x21, x22] := own_G.put hw G 5 rfl (Nat.le_of_ble_eq_true rfl) W1
  have I1 : own_I Z h1 r0 u ku cu en EC w sa := I.wr W1 G.1
  have N1 := Fr.snoc X1 N0 gn_r0
  have Z1 : n0 ≤ h1.size := Nat.le_trans Z0 (Keep.of_wr W1).1
  have K1 : Keep h0 h1 [r0] := K0.wr W1 (Or.inl (List.mem_of_getElem? (i := 0) rfl))
  refine own_g (T1.setTop (mkF m 24 #[.val (.ref r0), .val (.ref u), .val (.int p2), .val (.int p3), .val (.ref en), .unset] [])) (st1) ?_
  refine own_g (T1.setTop (mkF m 25 #[.val (.ref r0), .val (.ref u), .val (.int p2), .val (.int p3), .val (.ref en), .unset] [(.ref r0)])) (fun _ k => XS.aloadN X1.here hx rfl (hb hby d3_24) rfl rfl k) ?_
  refine own_g (T1.setTop (mkF m 26 #[.val (.ref r0), .val (.ref u), .val (.int p2), .val (.int p3), .val (.ref en), .unset] [(.int p2), (.ref r0)])) (fun _ k => XS.iloadN X1.here hx rfl (hb hby d3_25) rfl k) ?_
  obtain ⟨T2, h2, X2, e2, W2, st2⟩ := putF X1 hx hZ hown (host := "") (Or.inl (own_w hw 34 rfl)) Via.refl e1 (own_Gf G1 6 rfl rfl) G1.1 (Or.inl (own_w hw 35 rfl)) (own_w hw 6 rfl) (ty := .int) (by decide) rfl rfl (g := (mkF m 26 #[.val (.ref r0), .val (.ref u), .val (.int p2), .val (.int p3), .val (.ref en), .unset] [(.int p2), (.ref r0)])) rfl rfl (hb hby d3_26)
  have G2 : own_G Z h2 r0 [(.ref (sa 9)), x1, (.int (-1)), x3, x4, (.ref u), (.int p2), (.long of), x8, x9, x10, (.int 0), (.int 0), x13, (.int mk), (.long co), (.int pr), x17, x18, x19, x20, x21, x22] := own_G.put hw G1 6 rfl (Nat.le_of_ble_eq_true rfl) W2
  have I2 : own_I Z h2 r0 u ku cu en EC w sa := I1.wr W2 G1.1
  have N2 := Fr.snoc X2 N1 gn_r0
  have Z2 : n0 ≤ h2.size := Nat.le_trans Z1 (Keep.of_wr W2).1
  have K2 : Keep h0 h2 [r0] := K1.wr W2 (Or.inl (List.mem_of_getElem? (i := 0) rfl))
  refine own_g (T2.setTop (mkF m 29 #[.val (.ref r0), .val (.ref u), .val (.int p2), .val (.int p3), .val (.ref en), .unset] [])) (st2) ?_
  refine own_g (T2.setTop (mkF m 30 #[.val (.ref r0), .val (.ref u), .val (.int p2), .val (.int p3), .val (.ref en), .unset] [(.ref r0)])) (fun _ k => XS.aloadN X2.here hx rfl (hb hby d3_29) rfl rfl k) ?_
  refine own_g (T2.setTop (mkF m 31 #[.val (.ref r0), .val (.ref u), .val (.int p2), .val (.int p3), .val (.ref en), .unset] [(.ref r0), (.ref r0)])) (fun _ k => XS.aloadN X2.here hx rfl (hb hby d3_30) rfl rfl k) ?_
  obtain ⟨T3, X3, e3, st3⟩ := getF X2 hx hZ hown (host := "") (Or.inl (own_w hw 36 rfl)) Via.refl e2 (own_Gf G2 7 rfl rfl) (g := (mkF m 31 #[.val (.ref r0), .val (.ref u), .val (.int p2), .val (.int p3), .val (.ref en), .unset] [(.ref r0), (.ref r0)])) rfl rfl (hb hby d3_31)
  refine own_g (T3.setTop (mkF m 34 #[.val (.ref r0), .val (.ref u), .val (.int p2), .val (.int p3), .val (.ref en), .unset] [(.long of), (.ref r0)])) (st3) ?_
  obtain ⟨T4, h4, X4, e4, W4, st4⟩ := putF X3 hx hZ hown (host := "") (Or.inl (own_w hw 38 rfl)) Via.refl e3 (own_Gf G2 8 rfl rfl) G2.1 (Or.inl (own_w hw 39 rfl)) (own_w hw 6 rfl) (ty := .long) (by decide) rfl rfl (g := (mkF m 34 #[.val (.ref r0), .val (.ref u), .val (.int p2), .val (.int p3), .val (.ref en), .unset] [(.long of), (.ref r0)])) rfl rfl (hb hby d3_34)
  have G4 : own_G Z h4 r0 [(.ref (sa 9)), x1, (.int (-1)), x3, x4, (.ref u), (.int p2), (.long of), (.long of), x9, x10, (.int 0), (.int 0), x13, (.int mk), (.long co), (.int pr), x17, x18, x19, x20, x21, x22] := own_G.put hw G2 8 rfl (Nat.le_of_ble_eq_true rfl) W4
  have I4 : own_I Z h4 r0 u ku cu en EC w sa := I2.wr W4 G2.1
  have N4 := Fr.snoc X4 N2 gn_r0
  have Z4 : n0 ≤ h4.size := Nat.le_trans Z2 (Keep.of_wr W4).1
  have K4 : Keep h0 h4 [r0] := K2.wr W4 (Or.inl (List.mem_of_getElem? (i := 0) rfl))
  refine own_g (T4.setTop (mkF m 37 #[.val (.ref r0), .val (.ref u), .val (.int p2), .val (.int p3), .val (.ref en), .unset] [])) (st4) ?_
  refine own_g (T4.setTop (mkF m 38 #[.val (.ref r0), .val (.ref u), .val (.int p2), .val (.int p3), .val (.ref en), .unset] [(.ref r0)])) (fun _ k => XS.aloadN X4.here hx rfl (hb hby d3_37) rfl rfl k) ?_
  refine own_g (T4.setTop (mkF m 40 #[.val (.ref r0), .val (.ref u), .val (.int p2), .val (.int p3), .val (.ref en), .unset] [(.ref en), (.ref r0)])) (fun _ k => XS.aload X4.here hx rfl (hb hby d3_38) rfl rfl k) ?_
  obtain ⟨T5, h5, X5, e5, W5, st5⟩ := putF X4 hx hZ hown (host := "") (Or.inl (own_w hw 40 rfl)) Via.refl e4 (own_Gf G4 9 rfl rfl) G4.1 (Or.inl (own_w hw 41 rfl)) (own_w hw 6 rfl) (ty := (.object "com/example/corridor/corridor/iso20022/MarkupScanner$Encoding")) (by decide) rfl rfl (g := (mkF m 40 #[.val (.ref r0), .val (.ref u), .val (.int p2), .val (.int p3), .val (.ref en), .unset] [(.ref en), (.ref r0)])) rfl rfl (hb hby d3_40)
  have G5 : own_G Z h5 r0 [(.ref (sa 9)), x1, (.int (-1)), x3, x4, (.ref u), (.int p2), (.long of), (.long of), (.ref en), x10, (.int 0), (.int 0), x13, (.int mk), (.long co), (.int pr), x17, x18, x19, x20, x21, x22] := own_G.put hw G4 9 rfl (Nat.le_of_ble_eq_true rfl) W5
  have I5 : own_I Z h5 r0 u ku cu en EC w sa := I4.wr W5 G4.1
  have N5 := Fr.snoc X5 N4 gn_r0
  have Z5 : n0 ≤ h5.size := Nat.le_trans Z4 (Keep.of_wr W5).1
  have K5 : Keep h0 h5 [r0] := K4.wr W5 (Or.inl (List.mem_of_getElem? (i := 0) rfl))
  refine own_g (T5.setTop (mkF m 43 #[.val (.ref r0), .val (.ref u), .val (.int p2), .val (.int p3), .val (.ref en), .unset] [])) (st5) ?_
  refine own_g (T5.setTop (mkF m 44 #[.val (.ref r0), .val (.ref u), .val (.int p2), .val (.int p3), .val (.ref en), .unset] [(.ref r0)])) (fun _ k => XS.aloadN X5.here hx rfl (hb hby d3_43) rfl rfl k) ?_
  refine own_g (T5.setTop (mkF m 46 #[.val (.ref r0), .val (.ref u), .val (.int p2), .val (.int p3), .val (.ref en), .unset] [(.ref en), (.ref r0)])) (fun _ k => XS.aload X5.here hx rfl (hb hby d3_44) rfl rfl k) ?_
  obtain ⟨T6, X6, e6, st6⟩ := getF X5 hx hZ hown (host := "") (Or.inl (own_w hw 42 rfl)) Via.refl e5 I5.2.2.1 (g := (mkF m 46 #[.val (.ref r0), .val (.ref u), .val (.int p2), .val (.int p3), .val (.ref en), .unset] [(.ref en), (.ref r0)])) rfl rfl (hb hby d3_46)
  refine own_g (T6.setTop (mkF m 49 #[.val (.ref r0), .val (.ref u), .val (.int p2), .val (.int p3), .val (.ref en), .unset] [(.int w), (.ref r0)])) (st6) ?_
  obtain ⟨T7, h7, X7, e7, W7, st7⟩ := putF X6 hx hZ hown (host := "") (Or.inl (own_w hw 44 rfl)) Via.refl e6 (own_Gf G5 10 rfl rfl) G5.1 (Or.inl (own_w hw 45 rfl)) (own_w hw 6 rfl) (ty := .int) (by decide) rfl rfl (g := (mkF m 49 #[.val (.ref r0), .val (.ref u), .val (.int p2), .val (.int p3), .val (.ref en), .unset] [(.int w), (.ref r0)])) rfl rfl (hb hby d3_49)
  have G7 : own_G Z h7 r0 [(.ref (sa 9)), x1, (.int (-1)), x3, x4, (.ref u), (.int p2), (.long of), (.long of), (.ref en), (.int w), (.int 0), (.int 0), x13, (.int mk), (.long co), (.int pr), x17, x18, x19, x20, x21, x22] := own_G.put hw G5 10 rfl (Nat.le_of_ble_eq_true rfl) W7
  have I7 : own_I Z h7 r0 u ku cu en EC w sa := I5.wr W7 G5.1
  have N7 := Fr.snoc X7 N5 gn_r0
  have Z7 : n0 ≤ h7.size := Nat.le_trans Z5 (Keep.of_wr W7).1
  have K7 : Keep h0 h7 [r0] := K5.wr W7 (Or.inl (List.mem_of_getElem? (i := 0) rfl))
  refine own_g (T7.setTop (mkF m 52 #[.val (.ref r0), .val (.ref u), .val (.int p2), .val (.int p3), .val (.ref en), .unset] [])) (st7) ?_
  refine own_g (T7.setTop (mkF m 53 #[.val (.ref r0), .val (.ref u), .val (.int p2), .val (.int p3), .val (.ref en), .unset] [(.ref r0)])) (fun _ k => XS.aloadN X7.here hx rfl (hb hby d3_52) rfl rfl k) ?_
  obtain ⟨cq8, qk8, qk8'⟩ := G7.1.cell
  obtain ⟨_, _, ⟨T8, L8, k8, n8⟩, -, X8, ⟨Lc8, hQ8, l8, y8, z8⟩, st8⟩ := X7.privateBack hx (y := (⟨"com/example/corridor/corridor/iso20022/MarkupScanner", "inName", "()Z"⟩ : MethodName)) hown (mvT hZ (own_w hw 46 rfl)) (mvT hZ (own_w hw 47 rfl)) (mvT hZ (own_selPriv (own_w hw 47 rfl) (own_w hw 48 rfl) (own_w hw 30 rfl) rfl (by decide))) (Cond.privateMethod_at (mvP hZ (own_w hw 48 rfl) (args := #[]))) (mvT hZ (own_w hw 49 rfl)) (by decide) (backOf (W := 0) (inn l Z a0 hw [] r0 u ku cu en EC w sa (sa 9) x1 (.int (-1)) x3 x4 (.ref u) (.int p2) (.long of) (.long of) (.ref en) (.int w) (.int 0) (.int 0) x13 (.int mk) (.long co) (.int pr) x17 x18 x19 x20 x21 x22 h7 n0 Z7 I7 G7 gn_r0 (own_I.ne I7 6 2 rfl rfl (by decide)) (own_I.ne I7 6 5 rfl rfl (by decide))) hZ (own_w hw 49 rfl) (own_w hw 7 rfl) (by decide) (by decide)) (g := (mkF m 53 #[.val (.ref r0), .val (.ref u), .val (.int p2), .val (.int p3), .val (.ref en), .unset] [(.ref r0)])) rfl (by rw [hml]; rfl) (Steps.refl _) (a := r0) (by rw [e7]; exact qk8) qk8' (argsL := []) (rest := []) (lenOf pd10 rfl) rfl (by show 2 * 0 + _ ≤ _; exact Nat.le_of_eq rfl) (hb hby d3_53) (fun _ _ => ⟨rfl, e7, (by decide : 0 + 0 ≤ _), (by decide : 0 + 0 ≤ _)⟩)
  dsimp only [Pt.U, Pt.locs, Pt.cells, Pt.slots] at X8 l8 y8 z8 st8 hQ8
  subst l8 y8 z8
  obtain ⟨rfl, Nq8, e8⟩ := hQ8
  have N8 := Fr.app N7 Nq8
  refine own_g (T8.setTop (mkF m 56 #[.val (.ref r0), .val (.ref u), .val (.int p2), .val (.int p3), .val (.ref en), .unset] [(.int 0)])) (fun _ k => st8.trans k) ?_
  refine own_g (T8.setTop (mkF m 69 #[.val (.ref r0), .val (.ref u), .val (.int p2), .val (.int p3), .val (.ref en), .unset] [])) (fun _ k => XS.ifYes X8.here hx rfl (pc0 := 56) (pc' := 69) rfl (hb hby d3_56) rfl ((if0 _ _).trans (teq (by decide : (0 : Int32) = (0 : Int32))).1) (by decide) (by decide) k) ?_
  refine own_g (T8.setTop (mkF m 70 #[.val (.ref r0), .val (.ref u), .val (.int p2), .val (.int p3), .val (.ref en), .unset] [(.int p2)])) (fun _ k => XS.iloadN X8.here hx rfl (hb hby d3_69) rfl k) ?_
  refine own_g (T8.setTop (mkF m 72 #[.val (.ref r0), .val (.ref u), .val (.int p2), .val (.int p3), .val (.ref en), .val (.int p2)] [])) (fun _ k => XS.istore X8.here hx rfl (hb hby d3_70) rfl (l' := #[.val (.ref r0), .val (.ref u), .val (.int p2), .val (.int p3), .val (.ref en), .val (.int p2)]) rfl k) ?_
  refine own_g (T8.setTop (mkF m 74 #[.val (.ref r0), .val (.ref u), .val (.int p2), .val (.int p3), .val (.ref en), .val (.int p2)] [(.int p2)])) (fun _ k => XS.iload X8.here hx rfl (hb hby d3_72) rfl k) ?_
  refine own_g (T8.setTop (mkF m 75 #[.val (.ref r0), .val (.ref u), .val (.int p2), .val (.int p3), .val (.ref en), .val (.int p2)] [(.int p3), (.int p2)])) (fun _ k => XS.iloadN X8.here hx rfl (hb hby d3_74) rfl k) ?_
  refine own_g (T8.setTop (mkF m 78 #[.val (.ref r0), .val (.ref u), .val (.int p2), .val (.int p3), .val (.ref en), .val (.int p2)] [])) (fun _ k => XS.icmpNo X8.here hx rfl (hb hby d3_75) rfl (tlt (own_ilt (by omega) : p2 < p3)).2.1 k) ?_
  refine own_g (T8.setTop (mkF m 79 #[.val (.ref r0), .val (.ref u), .val (.int p2), .val (.int p3), .val (.ref en), .val (.int p2)] [(.ref r0)])) (fun _ k => XS.aloadN X8.here hx rfl (hb hby d3_78) rfl rfl k) ?_
  obtain ⟨T9, X9, e9, st9⟩ := getF X8 hx hZ hown (host := "") (Or.inl (own_w hw 54 rfl)) Via.refl e8 (own_Gf G7 11 rfl rfl) (g := (mkF m 79 #[.val (.ref r0), .val (.ref u), .val (.int p2), .val (.int p3), .val (.ref en), .val (.int p2)] [(.ref r0)])) rfl rfl (hb hby d3_79)
  refine own_g (T9.setTop (mkF m 82 #[.val (.ref r0), .val (.ref u), .val (.int p2), .val (.int p3), .val (.ref en), .val (.int p2)] [(.int 0)])) (st9) ?_
  refine own_g (T9.setTop (mkF m 85 #[.val (.ref r0), .val (.ref u), .val (.int p2), .val (.int p3), .val (.ref en), .val (.int p2)] [])) (fun _ k => XS.ifNo X9.here hx rfl (hb hby d3_82) rfl ((if0 _ _).trans (teq (by decide : (0 : Int32) = (0 : Int32))).2) k) ?_
  refine own_g (T9.setTop (mkF m 86 #[.val (.ref r0), .val (.ref u), .val (.int p2), .val (.int p3), .val (.ref en), .val (.int p2)] [(.ref r0)])) (fun _ k => XS.aloadN X9.here hx rfl (hb hby d3_85) rfl rfl k) ?_
  obtain ⟨T10, X10, e10, st10⟩ := getF X9 hx hZ hown (host := "") (Or.inl (own_w hw 17 rfl)) Via.refl e9 (own_Gf G7 0 rfl rfl) (g := (mkF m 86 #[.val (.ref r0), .val (.ref u), .val (.int p2), .val (.int p3), .val (.ref en), .val (.int p2)] [(.ref r0)])) rfl rfl (hb hby d3_86)
  refine own_g (T10.setTop (mkF m 89 #[.val (.ref r0), .val (.ref u), .val (.int p2), .val (.int p3), .val (.ref en), .val (.int p2)] [(.ref (sa 9))])) (st10) ?_
  obtain ⟨cq11, kq11, qk11a, qk11b, qk11c⟩ := isOf hZ e10 (show Exa Z h7 (sa 9) "com/example/corridor/corridor/iso20022/MarkupScanner$State" from (I7.1 6 _ rfl).2.1)
  obtain ⟨_, _, ⟨T11, L11, k11, n11⟩, -, X11, ⟨Lc11, hQ11, l11, y11, z11⟩, st11⟩ := X10.virtualBackUp hx (x := (⟨"com/example/corridor/corridor/iso20022/MarkupScanner$State", "ordinal", "()I"⟩ : MethodName)) (y := (⟨"java/lang/Enum", "ordinal", "()I"⟩ : MethodName)) (owner := "java/lang/Enum") hown (mvT hZ (own_w hw 56 rfl)) (mvT hZ (own_w hw 57 rfl)) (mvT hZ (own_w hw 58 rfl)) (by decide) (mvT hZ (own_w hw 60 rfl)) (mvT hZ (own_w hw 59 rfl)) (backOf (W := 0) (ord l Z a0 hw [] (sa 9) (9 : Int32) h7 n0 Z7 (show Fld Z h7 (sa 9) "java/lang/Enum" "ordinal" "I" (.int 9) from (I7.1 6 _ rfl).2.2.1)) hZ (own_w hw 62 rfl) (own_w hw 61 rfl) (by decide) (by decide)) qk11a qk11c (g := (mkF m 89 #[.val (.ref r0), .val (.ref u), .val (.int p2), .val (.int p3), .val (.ref en), .val (.int p2)] [(.ref (sa 9))])) rfl (by rw [hml]; rfl) (Steps.refl _) (argsL := []) (rest := []) (lenOf pd4 rfl) rfl (by show 2 * 0 + _ ≤ _; exact Nat.le_of_eq rfl) (hb hby d3_89) (fun _ _ => ⟨rfl, e10, (by decide : 0 + 0 ≤ _), (by decide : 0 + 0 ≤ _)⟩)
  dsimp only [Pt.U, Pt.locs, Pt.cells, Pt.slots] at X11 l11 y11 z11 st11 hQ11
  subst l11 y11 z11
  obtain ⟨rfl, Nq11, e11⟩ := hQ11
  have N11 := Fr.app N8 Nq11
  refine own_g (T11.setTop (mkF m 92 #[.val (.ref r0), .val (.ref u), .val (.int p2), .val (.int p3), .val (.ref en), .val (.int p2)] [(.int 9)])) (fun _ k => st11.trans k) ?_
  refine own_g (T11.setTop (mkF m 158 #[.val (.ref r0), .val (.ref u), .val (.int p2), .val (.int p3), .val (.ref en), .val (.int p2)] [])) (fun _ k => XS.tswIn X11.here hx rfl (pc0 := 92) (pc' := 158) (o := 66) rfl (hb hby d3_92) rfl (by decide) rfl (by decide) (by decide) k) ?_
  refine own_g (T11.setTop (mkF m 159 #[.val (.ref r0), .val (.ref u), .val (.int p2), .val (.int p3), .val (.ref en), .val (.int p2)] [(.ref r0)])) (fun _ k => XS.aloadN X11.here hx rfl (hb hby d3_158) rfl rfl k) ?_
  refine own_g (T11.setTop (mkF m 161 #[.val (.ref r0), .val (.ref u), .val (.int p2), .val (.int p3), .val (.ref en), .val (.int p2)] [(.int p2), (.ref r0)])) (fun _ k => XS.iload X11.here hx rfl (hb hby d3_159) rfl k) ?_
  refine own_g (T11.setTop (mkF m 162 #[.val (.ref r0), .val (.ref u), .val (.int p2), .val (.int p3), .val (.ref en), .val (.int p2)] [(.int p3), (.int p2), (.ref r0)])) (fun _ k => XS.iloadN X11.here hx rfl (hb hby d3_161) rfl k) ?_
  obtain ⟨cq12, qk12, qk12'⟩ := G7.1.cell
  obtain ⟨_, _, ⟨T12, L12, k12, n12⟩, -, X12, ⟨Lc12, hQ12, l12, y12, z12⟩, st12⟩ := X11.privateBack hx (y := (⟨"com/example/corridor/corridor/iso20022/MarkupScanner", "cdata", "(II)I"⟩ : MethodName)) hown (mvT hZ (own_w hw 144 rfl)) (mvT hZ (own_w hw 145 rfl)) (mvT hZ (own_selPriv (own_w hw 145 rfl) (own_w hw 146 rfl) (own_w hw 30 rfl) rfl (by decide))) (Cond.privateMethod_at (mvP hZ (own_w hw 146 rfl) (args := #[]))) (mvT hZ (own_w hw 147 rfl)) (by decide) (backOf (W := 0) (cdA l Z a0 hw [] r0 p2 p3 u ku cu en EC w sa (.ref (sa 9)) x1 (.int (-1)) x3 x4 p2 (.long of) of (.int 0) x13 mk co pr x17 x18 x19 x20 x21 x22 qi h7 n0 Z7 I7 G7 gn_r0 HC HC.2.1 (Int.le_refl _) b4 HC.2.2.2.1 b6) hZ (own_w hw 147 rfl) (own_w hw 7 rfl) (by decide) (by decide)) (g := (mkF m 162 #[.val (.ref r0), .val (.ref u), .val (.int p2), .val (.int p3), .val (.ref en), .val (.int p2)] [(.int p3), (.int p2), (.ref r0)])) rfl (by rw [hml]; rfl) (Steps.refl _) (a := r0) (by rw [e11]; exact qk12) qk12' (argsL := [(.int p2), (.int p3)]) (rest := []) (lenOf pd13 rfl) rfl (by show 2 * 0 + _ ≤ _; exact Nat.le_of_eq rfl) (hb hby d3_162) (fun _ _ => ⟨rfl, e11, (by decide : 0 + 0 ≤ _), (by decide : 0 + 0 ≤ _)⟩)
  dsimp only [Pt.U, Pt.locs, Pt.cells, Pt.slots] at X12 l12 y12 z12 st12 hQ12
  subst l12 y12 z12
  obtain ⟨rfl, Nq12, Kq12, Gq12⟩ := hQ12
  have N12 := Fr.app N11 Nq12
  have I12 : own_I Z T12.heap r0 u ku cu en EC w sa := I7.keep Kq12 G7.1
  have G12 : own_G Z T12.heap r0 [(.ref (sa 9)), x1, (.int (-1)), x3, x4, (.ref u), (.int p2), (.long of), (.long of), (.ref en), (.int w), (.int 0), (.int 0), x13, (.int 0), (.long co), (.int pr), x17, x18, x19, x20, x21, x22] := Gq12
  have Z12 : n0 ≤ T12.heap.size := Nat.le_trans Z7 Kq12.1
  have K12 : Keep h0 T12.heap [r0] := K7.trans Kq12 (allS (Or.inl (List.mem_of_getElem? (i := 0) rfl)) all0)
  refine own_g (T12.setTop (mkF m 165 #[.val (.ref r0), .val (.ref u), .val (.int p2), .val (.int p3), .val (.ref en), .val (.int p2)] [(.int p3)])) (fun _ k => st12.trans k) ?_
  refine own_g (T12.setTop (mkF m 174 #[.val (.ref r0), .val (.ref u), .val (.int p2), .val (.int p3), .val (.ref en), .val (.int p2)] [(.int p3)])) (fun _ k => XS.goto X12.here hx rfl (pc0 := 165) (pc' := 174) rfl (hb hby d3_165) (by decide) (by decide) k) ?_
  refine own_g (T12.setTop (mkF m 176 #[.val (.ref r0), .val (.ref u), .val (.int p2), .val (.int p3), .val (.ref en), .val (.int p3)] [])) (fun _ k => XS.istore X12.here hx rfl (hb hby d3_174) rfl (l' := #[.val (.ref r0), .val (.ref u), .val (.int p2), .val (.int p3), .val (.ref en), .val (.int p3)]) rfl k) ?_
  refine own_g (T12.setTop (mkF m 72 #[.val (.ref r0), .val (.ref u), .val (.int p2), .val (.int p3), .val (.ref en), .val (.int p3)] [])) (fun _ k => XS.goto X12.here hx rfl (pc0 := 176) (pc' := 72) rfl (hb hby d3_176) (by decide) (by decide) k) ?_
  refine own_g (T12.setTop (mkF m 74 #[.val (.ref r0), .val (.ref u), .val (.int p2), .val (.int p3), .val (.ref en), .val (.int p3)] [(.int p3)])) (fun _ k => XS.iload X12.here hx rfl (hb hby d3_72) rfl k) ?_
  refine own_g (T12.setTop (mkF m 75 #[.val (.ref r0), .val (.ref u), .val (.int p2), .val (.int p3), .val (.ref en), .val (.int p3)] [(.int p3), (.int p3)])) (fun _ k => XS.iloadN X12.here hx rfl (hb hby d3_74) rfl k) ?_
  refine own_g (T12.setTop (mkF m 179 #[.val (.ref r0), .val (.ref u), .val (.int p2), .val (.int p3), .val (.ref en), .val (.int p3)] [])) (fun _ k => XS.icmpYes X12.here hx rfl (pc0 := 75) (pc' := 179) rfl (hb hby d3_75) rfl (flt (own_nilt (Int.le_refl _) : ¬ (p3 < p3))).2.1 (by decide) (by decide) k) ?_
  refine own_g (T12.setTop (mkF m 181 #[.val (.ref r0), .val (.ref u), .val (.int p2), .val (.int p3), .val (.ref en), .val (.int p3)] [(.int p3)])) (fun _ k => XS.iload X12.here hx rfl (hb hby d3_179) rfl k) ?_
  refine own_g (T12.setTop (mkF m 182 #[.val (.ref r0), .val (.ref u), .val (.int p2), .val (.int p3), .val (.ref en), .val (.int p3)] [(.int p2), (.int p3)])) (fun _ k => XS.iloadN X12.here hx rfl (hb hby d3_181) rfl k) ?_
  refine own_g (T12.setTop (mkF m 185 #[.val (.ref r0), .val (.ref u), .val (.int p2), .val (.int p3), .val (.ref en), .val (.int p3)] [])) (fun _ k => XS.icmpNo X12.here hx rfl (hb hby d3_182) rfl (tlt (own_ilt (by omega) : p2 < p3)).2.2.2 k) ?_
  refine own_g (T12.setTop (mkF m 186 #[.val (.ref r0), .val (.ref u), .val (.int p2), .val (.int p3), .val (.ref en), .val (.int p3)] [(.ref r0)])) (fun _ k => XS.aloadN X12.here hx rfl (hb hby d3_185) rfl rfl k) ?_
  refine own_g (T12.setTop (mkF m 187 #[.val (.ref r0), .val (.ref u), .val (.int p2), .val (.int p3), .val (.ref en), .val (.int p3)] [(.ref r0), (.ref r0)])) (fun _ k => XS.aloadN X12.here hx rfl (hb hby d3_186) rfl rfl k) ?_
  obtain ⟨T13, X13, e13, st13⟩ := getF X12 hx hZ hown (host := "") (Or.inl (own_w hw 32 rfl)) Via.refl rfl (own_Gf G12 5 rfl rfl) (g := (mkF m 187 #[.val (.ref r0), .val (.ref u), .val (.int p2), .val (.int p3), .val (.ref en), .val (.int p3)] [(.ref r0), (.ref r0)])) rfl rfl (hb hby d3_187)
  refine own_g (T13.setTop (mkF m 190 #[.val (.ref r0), .val (.ref u), .val (.int p2), .val (.int p3), .val (.ref en), .val (.int p3)] [(.ref u), (.ref r0)])) (st13) ?_
  refine own_g (T13.setTop (mkF m 192 #[.val (.ref r0), .val (.ref u), .val (.int p2), .val (.int p3), .val (.ref en), .val (.int p3)] [(.int p3), (.ref u), (.ref r0)])) (fun _ k => XS.iload X13.here hx rfl (hb hby d3_190) rfl k) ?_
  refine own_g (T13.setTop (mkF m 193 #[.val (.ref r0), .val (.ref u), .val (.int p2), .val (.int p3), .val (.ref en), .val (.int p3)] [(.int 1), (.int p3), (.ref u), (.ref r0)])) (fun _ k => XS.iconst X13.here hx rfl (hb hby d3_192) k) ?_
  refine own_g (T13.setTop (mkF m 194 #[.val (.ref r0), .val (.ref u), .val (.int p2), .val (.int p3), .val (.ref en), .val (.int p3)] [(.int (p3 - (1 : Int32))), (.ref u), (.ref r0)])) (fun _ k => XS.isub X13.here hx rfl (hb hby d3_193) rfl k) ?_
  obtain ⟨cl14, Ar14, hin14, hat14⟩ := own_I.at0 I12 (p3 - (1 : Int32)) (own_pred (by omega) (by omega)).1 (own_pred (by omega) (by omega)).2
  refine own_g (T13.setTop (mkF m 195 #[.val (.ref r0), .val (.ref u), .val (.int p2), .val (.int p3), .val (.ref en), .val (.int p3)] [(.int 0), (.ref r0)])) (X13.caload hx (j := (p3 - (1 : Int32))) (v := (.int 0)) (by rw [e13]; exact Ar14.1) (State.isArrayOf_alike hZ.alike Ar14.2.1) Ar14.2.2 hin14 hat14 (g := (mkF m 194 #[.val (.ref r0), .val (.ref u), .val (.int p2), .val (.int p3), .val (.ref en), .val (.int p3)] [(.int (p3 - (1 : Int32))), (.ref u), (.ref r0)])) rfl rfl (hb hby d3_194)) ?_
  obtain ⟨T15, h15, X15, e15, W15, st15⟩ := putFN X13 hx hZ hown (own_w hw 160 rfl) Via.refl e13 (own_Gf G12 16 rfl rfl) G12.1 (Or.inl (own_w hw 161 rfl)) (own_w hw 6 rfl) (ty := .char) (v' := (.int 0)) (by decide) rfl rfl (g := (mkF m 195 #[.val (.ref r0), .val (.ref u), .val (.int p2), .val (.int p3), .val (.ref en), .val (.int p3)] [(.int 0), (.ref r0)])) rfl rfl (hb hby d3_195)
  have G15 : own_G Z h15 r0 [(.ref (sa 9)), x1, (.int (-1)), x3, x4, (.ref u), (.int p2), (.long of), (.long of), (.ref en), (.int w), (.int 0), (.int 0), x13, (.int 0), (.long co), (.int 0), x17, x18, x19, x20, x21, x22] := own_G.put hw G12 16 rfl (Nat.le_of_ble_eq_true rfl) W15
  have I15 : own_I Z h15 r0 u ku cu en EC w sa := I12.wr W15 G12.1
  have N15 := Fr.snoc X15 N12 gn_r0
  have Z15 : n0 ≤ h15.size := Nat.le_trans Z12 (Keep.of_wr W15).1
  have K15 : Keep h0 h15 [r0] := K12.wr W15 (Or.inl (List.mem_of_getElem? (i := 0) rfl))
  refine own_g (T15.setTop (mkF m 198 #[.val (.ref r0), .val (.ref u), .val (.int p2), .val (.int p3), .val (.ref en), .val (.int p3)] [])) (st15) ?_
  refine own_g (T15.setTop (mkF m 199 #[.val (.ref r0), .val (.ref u), .val (.int p2), .val (.int p3), .val (.ref en), .val (.int p3)] [(.ref r0)])) (fun _ k => XS.aloadN X15.here hx rfl (hb hby d3_198) rfl rfl k) ?_
  obtain ⟨T16, X16, e16, st16⟩ := getF X15 hx hZ hown (host := "") (Or.inl (own_w hw 21 rfl)) Via.refl e15 (own_Gf G15 2 rfl rfl) (g := (mkF m 199 #[.val (.ref r0), .val (.ref u), .val (.int p2), .val (.int p3), .val (.ref en), .val (.int p3)] [(.ref r0)])) rfl rfl (hb hby d3_199)
  refine own_g (T16.setTop (mkF m 202 #[.val (.ref r0), .val (.ref u), .val (.int p2), .val (.int p3), .val (.ref en), .val (.int p3)] [(.int (-1))])) (st16) ?_
  refine own_g (T16.setTop (mkF m 222 #[.val (.ref r0), .val (.ref u), .val (.int p2), .val (.int p3), .val (.ref en), .val (.int p3)] [])) (fun _ k => XS.ifYes X16.here hx rfl (pc0 := 202) (pc' := 222) rfl (hb hby d3_202) rfl ((if0 _ _).trans (tlt (by decide : (-1 : Int32) < (0 : Int32))).1) (by decide) (by decide) k) ?_
  refine own_g (T16.setTop (mkF m 223 #[.val (.ref r0), .val (.ref u), .val (.int p2), .val (.int p3), .val (.ref en), .val (.int p3)] [(.ref r0)])) (fun _ k => XS.aloadN X16.here hx rfl (hb hby d3_222) rfl rfl k) ?_
  obtain ⟨cq17, qk17, qk17'⟩ := G15.1.cell
  obtain ⟨_, _, ⟨T17, L17, k17, n17⟩, -, X17, ⟨Lc17, hQ17, l17, y17, z17⟩, st17⟩ := X16.privateBack hx (y := (⟨"com/example/corridor/corridor/iso20022/MarkupScanner", "inName", "()Z"⟩ : MethodName)) hown (mvT hZ (own_w hw 46 rfl)) (mvT hZ (own_w hw 47 rfl)) (mvT hZ (own_selPriv (own_w hw 47 rfl) (own_w hw 48 rfl) (own_w hw 30 rfl) rfl (by decide))) (Cond.privateMethod_at (mvP hZ (own_w hw 48 rfl) (args := #[]))) (mvT hZ (own_w hw 49 rfl)) (by decide) (backOf (W := 0) (inn l Z a0 hw [] r0 u ku cu en EC w sa (sa 9) x1 (.int (-1)) x3 x4 (.ref u) (.int p2) (.long of) (.long of) (.ref en) (.int w) (.int 0) (.int 0) x13 (.int 0) (.long co) (.int 0) x17 x18 x19 x20 x21 x22 h15 n0 Z15 I15 G15 gn_r0 (own_I.ne I15 6 2 rfl rfl (by decide)) (own_I.ne I15 6 5 rfl rfl (by decide))) hZ (own_w hw 49 rfl) (own_w hw 7 rfl) (by decide) (by decide)) (g := (mkF m 223 #[.val (.ref r0), .val (.ref u), .val (.int p2), .val (.int p3), .val (.ref en), .val (.int p3)] [(.ref r0)])) rfl (by rw [hml]; rfl) (Steps.refl _) (a := r0) (by rw [e16]; exact qk17) qk17' (argsL := []) (rest := []) (lenOf pd10 rfl) rfl (by show 2 * 0 + _ ≤ _; exact Nat.le_of_eq rfl) (hb hby d3_223) (fun _ _ => ⟨rfl, e16, (by decide : 0 + 0 ≤ _), (by decide : 0 + 0 ≤ _)⟩)
  dsimp only [Pt.U, Pt.locs, Pt.cells, Pt.slots] at X17 l17 y17 z17 st17 hQ17
  subst l17 y17 z17
  obtain ⟨rfl, Nq17, e17⟩ := hQ17
  have N17 := Fr.app N15 Nq17
  refine own_g (T17.setTop (mkF m 226 #[.val (.ref r0), .val (.ref u), .val (.int p2), .val (.int p3), .val (.ref en), .val (.int p3)] [(.int 0)])) (fun _ k => st17.trans k) ?_
  refine own_g (T17.setTop (mkF m 255 #[.val (.ref r0), .val (.ref u), .val (.int p2), .val (.int p3), .val (.ref en), .val (.int p3)] [])) (fun _ k => XS.ifYes X17.here hx rfl (pc0 := 226) (pc' := 255) rfl (hb hby d3_226) rfl ((if0 _ _).trans (teq (by decide : (0 : Int32) = (0 : Int32))).1) (by decide) (by decide) k) ?_
  refine own_g (T17.setTop (mkF m 256 #[.val (.ref r0), .val (.ref u), .val (.int p2), .val (.int p3), .val (.ref en), .val (.int p3)] [(.ref r0)])) (fun _ k => XS.aloadN X17.here hx rfl (hb hby d3_255) rfl rfl k) ?_
  refine own_g (T17.setTop (mkF m 257 #[.val (.ref r0), .val (.ref u), .val (.int p2), .val (.int p3), .val (.ref en), .val (.int p3)] [(.ref r0), (.ref r0)])) (fun _ k => XS.aloadN X17.here hx rfl (hb hby d3_256) rfl rfl k) ?_
  refine own_g (T17.setTop (mkF m 259 #[.val (.ref r0), .val (.ref u), .val (.int p2), .val (.int p3), .val (.ref en), .val (.int p3)] [(.int p3), (.ref r0), (.ref r0)])) (fun _ k => XS.iload X17.here hx rfl (hb hby d3_257) rfl k) ?_
  obtain ⟨cq18, qk18, qk18'⟩ := G15.1.cell
  obtain ⟨_, _, ⟨T18, L18, k18, n18⟩, -, X18, ⟨Lc18, hQ18, l18, y18, z18⟩, st18⟩ := X17.privateBack hx (y := (⟨"com/example/corridor/corridor/iso20022/MarkupScanner", "offsetAt", "(I)J"⟩ : MethodName)) hown (mvT hZ (own_w hw 136 rfl)) (mvT hZ (own_w hw 137 rfl)) (mvT hZ (own_selPriv (own_w hw 137 rfl) (own_w hw 138 rfl) (own_w hw 30 rfl) rfl (by decide))) (Cond.privateMethod_at (mvP hZ (own_w hw 138 rfl) (args := #[]))) (mvT hZ (own_w hw 139 rfl)) (by decide) (backOf (W := 1) (off l Z a0 hw [] r0 p3 u ku cu en EC w sa (.ref (sa 9)) x1 (.int (-1)) x3 x4 (.ref u) p2 (.long of) of (.ref en) w (.int 0) (.int 0) x13 (.int 0) (.long co) (.int 0) x17 x18 x19 x20 x21 x22 h15 n0 Z15 I15 G15 gn_r0) hZ (own_w hw 139 rfl) (own_w hw 7 rfl) (by decide) (by decide)) (g := (mkF m 259 #[.val (.ref r0), .val (.ref u), .val (.int p2), .val (.int p3), .val (.ref en), .val (.int p3)] [(.int p3), (.ref r0), (.ref r0)])) rfl (by rw [hml]; rfl) (Steps.refl _) (a := r0) (by rw [e17]; exact qk18) qk18' (argsL := [(.int p3)]) (rest := [(.ref r0)]) (lenOf pd6 rfl) rfl (by show 2 * 0 + _ ≤ _; exact Nat.le_of_eq rfl) (hb hby d3_259) (fun _ _ => ⟨rfl, e17, (by decide : 0 + 0 ≤ _), (by decide : 0 + 0 ≤ _)⟩)
  dsimp only [Pt.U, Pt.locs, Pt.cells, Pt.slots] at X18 l18 y18 z18 st18 hQ18
  subst l18 y18 z18
  obtain ⟨rfl, Nq18, e18⟩ := hQ18
  have N18 := Fr.app N17 Nq18
  refine own_g (T18.setTop (mkF m 262 #[.val (.ref r0), .val (.ref u), .val (.int p2), .val (.int p3), .val (.ref en), .val (.int p3)] [(.long (of + (((p3 - p2).toInt64) * (w.toInt64)))), (.ref r0)])) (fun _ k => st18.trans k) ?_
  obtain ⟨T19, h19, X19, e19, W19, st19⟩ := putF X18 hx hZ hown (host := "") (Or.inl (own_w hw 36 rfl)) Via.refl e18 (own_Gf G15 7 rfl rfl) G15.1 (Or.inl (own_w hw 37 rfl)) (own_w hw 6 rfl) (ty := .long) (by decide) rfl rfl (g := (mkF m 262 #[.val (.ref r0), .val (.ref u), .val (.int p2), .val (.int p3), .val (.ref en), .val (.int p3)] [(.long (of + (((p3 - p2).toInt64) * (w.toInt64)))), (.ref r0)])) rfl rfl (hb hby d3_262)
  have G19 : own_G Z h19 r0 [(.ref (sa 9)), x1, (.int (-1)), x3, x4, (.ref u), (.int p2), (.long (of + (((p3 - p2).toInt64) * (w.toInt64)))), (.long of), (.ref en), (.int w), (.int 0), (.int 0), x13, (.int 0), (.long co), (.int 0), x17, x18, x19, x20, x21, x22] := own_G.put hw G15 7 rfl (Nat.le_of_ble_eq_true rfl) W19
  have I19 : own_I Z h19 r0 u ku cu en EC w sa := I15.wr W19 G15.1
  have N19 := Fr.snoc X19 N18 gn_r0
  have Z19 : n0 ≤ h19.size := Nat.le_trans Z15 (Keep.of_wr W19).1
  have K19 : Keep h0 h19 [r0] := K15.wr W19 (Or.inl (List.mem_of_getElem? (i := 0) rfl))
  refine own_g (T19.setTop (mkF m 265 #[.val (.ref r0), .val (.ref u), .val (.int p2), .val (.int p3), .val (.ref en), .val (.int p3)] [])) (st19) ?_
  refine own_g (T19.setTop (mkF m 266 #[.val (.ref r0), .val (.ref u), .val (.int p2), .val (.int p3), .val (.ref en), .val (.int p3)] [(.ref r0)])) (fun _ k => XS.aloadN X19.here hx rfl (hb hby d3_265) rfl rfl k) ?_
  obtain ⟨T20, X20, e20, st20⟩ := getF X19 hx hZ hown (host := "") (Or.inl (own_w hw 73 rfl)) Via.refl e19 (own_Gf G19 12 rfl rfl) (g := (mkF m 266 #[.val (.ref r0), .val (.ref u), .val (.int p2), .val (.int p3), .val (.ref en), .val (.int p3)] [(.ref r0)])) rfl rfl (hb hby d3_266)
  refine own_g (T20.setTop (mkF m 269 #[.val (.ref r0), .val (.ref u), .val (.int p2), .val (.int p3), .val (.ref en), .val (.int p3)] [(.int 0)])) (st20) ?_
  refine own_g (T20.setTop (mkF m 293 #[.val (.ref r0), .val (.ref u), .val (.int p2), .val (.int p3), .val (.ref en), .val (.int p3)] [])) (fun _ k => XS.ifYes X20.here hx rfl (pc0 := 269) (pc' := 293) rfl (hb hby d3_269) rfl ((if0 _ _).trans (teq (by decide : (0 : Int32) = (0 : Int32))).1) (by decide) (by decide) k) ?_
  refine own_g (T20.setTop (mkF m 295 #[.val (.ref r0), .val (.ref u), .val (.int p2), .val (.int p3), .val (.ref en), .val (.int p3)] [(.int p3)])) (fun _ k => XS.iload X20.here hx rfl (hb hby d3_293) rfl k) ?_
  exact own_retI X20 hx Bd.returns (hb hby d3_295) Bd.notSynchronized (by decide) (by decide) (by rw [e20]; exact ⟨rfl, N19, K19, G19⟩)
theorem ef_scanB (m : MethodId) (r0 : Addr) (u : Addr) (p2 : Int32) (p3 : Int32) (en : Addr) : entryFrame m #[(.ref r0), (.ref u), (.int p2), (.int p3), (.ref en)] 6 = mkF m 0 #[.val (.ref r0), .val (.ref u), .val (.int p2), .val (.int p3), .val (.ref en), .unset] [] := by first | (simp [entryFrame, mkF, argsToLocals, Value.category]; done) | rfl
set_option maxRecDepth 65536 in
set_option maxHeartbeats 40000000 in
theorem scanB (l : Launch) (Z : State) (a0 : Array Value) (hw : ∀ d ∈ tables_1, d.before a0 Z = true) (ws : List Jvm.Cond) (r0 : Addr) (u : Addr) (p2 : Int32) (p3 : Int32) (en : Addr) (ku : ClassId) (cu : Int32) (EC : String) (w : Int32) (sa : Nat → Addr) (x1 : Value) (x3 : Value) (x4 : Value) (x5 : Value) (x6 : Value) (of : Int64) (x8 : Value) (x9 : Value) (x10 : Value) (x13 : Value) (mk : Int32) (co : Int64) (pr : Int32) (x17 : Value) (x18 : Value) (x19 : Value) (x20 : Value) (x21 : Value) (x22 : Value) (qi : Int32) (h0 : Heap) (n0 : Nat) (Z0 : n0 ≤ h0.size) (I : own_I Z h0 r0 u ku cu en EC w sa) (G : own_G Z h0 r0 [(.ref (sa 9)), x1, (.int (-1)), x3, x4, x5, x6, (.long of), x8, x9, x10, (.int 0), (.int 0), x13, (.int mk), (.long co), (.int pr), x17, x18, x19, x20, x21, x22]) (gn_r0 : n0 ≤ r0) (HC : own_C of co p2 w qi) (b1 : 10 ≤ p2.toInt) (b5 : qi.toInt < 16394) (b4 : p2.toInt < p3.toInt) (b7 : p3.toInt - p2.toInt ≤ 8192) (b6 : p3.toInt = qi.toInt + 1) (hm0 : p2.toInt = qi.toInt → mk = (0 : Int32)) (hpr : p2.toInt = qi.toInt → ¬ (nar .char pr = (13 : Int32))) (hEC : EC = "com/example/corridor/corridor/iso20022/MarkupScanner$Encoding" ∨ EC = "com/example/corridor/corridor/iso20022/MarkupScanner$Encoding$1" ∨ EC = "com/example/corridor/corridor/iso20022/MarkupScanner$Encoding$2") :
    MetFree l (⟨"com/example/corridor/corridor/iso20022/MarkupScanner", "scan", "([CIILcom/example/corridor/corridor/iso20022/MarkupScanner$Encoding;)I"⟩ : MethodName) (head1 (Jvm.Cond.code (⟨"com/example/corridor/corridor/iso20022/MarkupScanner", "scan", "([CIILcom/example/corridor/corridor/iso20022/MarkupScanner$Encoding;)I"⟩ : MethodName) prog_34_method_2_code 6 (some .int) :: ws) ({ frames := 3, cells := 0, slots := 0, locals := 44 } : Room)) (fun a U => a = #[(.ref r0), (.ref u), (.int p2), (.int p3), (.ref en)] ∧ Z.Warmed39 U.vm ∧ U.heap = h0) (fun _ _ _ _ _ => True) (fun _ U o U' => ∃ v L, o = .returned v ∧ (own_QB Z r0 n0 h0 (some (.int qi)) (fun pv => [(.ref (sa 9)), x1, (.int (-1)), x3, x4, (.ref u), (.int p2), (.long (of + (((qi - p2).toInt64) * (w.toInt64)))), (.long of), (.ref en), (.int w), (.int 1), (.int 0), x13, (.int 0), (.long co), (.int pv), x17, x18, x19, x20, x21, x22])) v U'.heap L ∧ FrameEnd U o U' L 0 0) := by
  refine MetFree.of_bodySF (plainFor_of_name pn3) hisR ?_
  intro p e s m args below meth c s₁ Bd hml0 hP hK
  obtain ⟨rfl, hZ, hh⟩ := hP
  have hx := Bd.exec
  have hby := Bd.bytes
  have hml : c.maxLocals = 6 := hml0
  have hown : s.vm.findClass "com/example/corridor/corridor/iso20022/MarkupScanner" = some m.cls := findClass_of_methodNamed Bd.named
  have hnm := (name_of_methodNamed Bd.named Bd.method).1
  have X0 : Stand p l e ({ frames := 3, cells := 0, slots := 0, locals := 44 } : Room) s m #[(.ref r0), (.ref u), (.int p2), (.int p3), (.ref en)] below meth c s₁ [] 0 0 := Stand.of_body Bd
  have e0 : s₁.heap = h0 := by rw [← hh, Bd.state]; rfl
  have N0 := Fr.nil n0
  have K0 : Keep h0 h0 [r0] := Keep.refl h0 [r0]
  show own_Goes p e below (own_End s (own_QB Z r0 n0 h0 (some (.int qi)) (fun pv => [(.ref (sa 9)), x1, (.int (-1)), x3, x4, (.ref u), (.int p2), (.long (of + (((qi - p2).toInt64) * (w.toInt64)))), (.long of), (.ref en), (.int w), (.int 1), (.int 0), x13, (.int 0), (.long co), (.int pv), x17, x18, x19, x20, x21, x22])) 0 0) _
  refine own_g (s₁.setTop (mkF m 0 #[.val (.ref r0), .val (.ref u), .val (.int p2), .val (.int p3), .val (.ref en), .unset] [])) (fun t k => castTop (ef_scanB m r0 u p2 p3 en) k) ?_
  refine own_g (s₁.setTop (mkF m 1 #[.val (.ref r0), .val (.ref u), .val (.int p2), .val (.int p3), .val (.ref en), .unset] [(.int p3)])) (fun _ k => XS.iloadN X0.here hx rfl (hb hby d3_0) rfl k) ?_
  refine own_g (s₁.setTop (mkF m 2 #[.val (.ref r0), .val (.ref u), .val (.int p2), .val (.int p3), .val (.ref en), .unset] [(.int p2), (.int p3)])) (fun _ k => XS.iloadN X0.here hx rfl (hb hby d3_1) rfl k) ?_
  refine own_g (s₁.setTop (mkF m 3 #[.val (.ref r0), .val (.ref u), .val (.int p2), .val (.int p3), .val (.ref en), .unset] [(.int (p3 - p2))])) (fun _ k => XS.isub X0.here hx rfl (hb hby d3_2) rfl k) ?_
  refine own_g (s₁.setTop (mkF m 6 #[.val (.ref r0), .val (.ref u), .val (.int p2), .val (.int p3), .val (.ref en), .unset] [(.int 8192), (.int (p3 - p2))])) (fun _ k => XS.sipush X0.here hx rfl (hb hby d3_3) k) ?_
  refine own_g (s₁.setTop (mkF m 19 #[.val (.ref r0), .val (.ref u), .val (.int p2), .val (.int p3), .val (.ref en), .unset] [])) (fun _ k => XS.icmpYes X0.here hx rfl (pc0 := 6) (pc' := 19) rfl (hb hby d3_6) rfl (flt (own_le8192 (by omega) (by omega) (by omega) (by omega) b7 : ¬ ((8192 : Int32) < (p3 - p2)))).2.2.2 (by decide) (by decide) k) ?_
  refine own_g (s₁.setTop (mkF m 20 #[.val (.ref r0), .val (.ref u), .val (.int p2), .val (.int p3), .val (.ref en), .unset] [(.ref r0)])) (fun _ k => XS.aloadN X0.here hx rfl (hb hby d3_19) rfl rfl k) ?_
  refine own_g (s₁.setTop (mkF m 21 #[.val (.ref r0), .val (.ref u), .val (.int p2), .val (.int p3), .val (.ref en), .unset] [(.ref u), (.ref r0)])) (fun _ k => XS.aloadN X0.here hx rfl (hb hby d3_20) rfl rfl k) ?_
  obtain ⟨T1, h1, X1, e1, W1, st1⟩ := putF X0 hx hZ hown (host := "") (Or.inl (own_w hw 32 rfl)) Via.refl e0 (own_Gf G 5 rfl rfl) G.1 (Or.inl (own_w hw 33 rfl)) (own_w hw 6 rfl) (ty := (.array .char)) (by decide) rfl rfl (g := (mkF m 21 #[.val (.ref r0), .val (.ref u), .val (.int p2), .val (.int p3), .val (.ref en), .unset] [(.ref u), (.ref r0)])) rfl rfl (hb hby d3_21)
  have G1 : own_G Z h1 r0 [(.ref (sa 9)), x1, (.int (-1)), x3, x4, (.ref u), x6, (.long of), x8, x9, x10, (.int 0), (.int 0), x13, (.int mk), (.long co), (.int pr), x17, x18, x19, x20, x21, x22] := own_G.put hw G 5 rfl (Nat.le_of_ble_eq_true rfl) W1
  have I1 : own_I Z h1 r0 u ku cu en EC w sa := I.wr W1 G.1
  have N1 := Fr.snoc X1 N0 gn_r0
  have Z1 : n0 ≤ h1.size := Nat.le_trans Z0 (Keep.of_wr W1).1
  have K1 : Keep h0 h1 [r0] := K0.wr W1 (Or.inl (List.mem_of_getElem? (i := 0) rfl))
  refine own_g (T1.setTop (mkF m 24 #[.val (.ref r0), .val (.ref u), .val (.int p2), .val (.int p3), .val (.ref en), .unset] [])) (st1) ?_
  refine own_g (T1.setTop (mkF m 25 #[.val (.ref r0), .val (.ref u), .val (.int p2), .val (.int p3), .val (.ref en), .unset] [(.ref r0)])) (fun _ k => XS.aloadN X1.here hx rfl (hb hby d3_24) rfl rfl k) ?_
  refine own_g (T1.setTop (mkF m 26 #[.val (.ref r0), .val (.ref u), .val (.int p2), .val (.int p3), .val (.ref en), .unset] [(.int p2), (.ref r0)])) (fun _ k => XS.iloadN X1.here hx rfl (hb hby d3_25) rfl k) ?_
  obtain ⟨T2, h2, X2, e2, W2, st2⟩ := putF X1 hx hZ hown (host := "") (Or.inl (own_w hw 34 rfl)) Via.refl e1 (own_Gf G1 6 rfl rfl) G1.1 (Or.inl (own_w hw 35 rfl)) (own_w hw 6 rfl) (ty := .int) (by decide) rfl rfl (g := (mkF m 26 #[.val (.ref r0), .val (.ref u), .val (.int p2), .val (.int p3), .val (.ref en), .unset] [(.int p2), (.ref r0)])) rfl rfl (hb hby d3_26)
  have G2 : own_G Z h2 r0 [(.ref (sa 9)), x1, (.int (-1)), x3, x4, (.ref u), (.int p2), (.long of), x8, x9, x10, (.int 0), (.int 0), x13, (.int mk), (.long co), (.int pr), x17, x18, x19, x20, x21, x22] := own_G.put hw G1 6 rfl (Nat.le_of_ble_eq_true rfl) W2
  have I2 : own_I Z h2 r0 u ku cu en EC w sa := I1.wr W2 G1.1
  have N2 := Fr.snoc X2 N1 gn_r0
  have Z2 : n0 ≤ h2.size := Nat.le_trans Z1 (Keep.of_wr W2).1
  have K2 : Keep h0 h2 [r0] := K1.wr W2 (Or.inl (List.mem_of_getElem? (i := 0) rfl))
  refine own_g (T2.setTop (mkF m 29 #[.val (.ref r0), .val (.ref u), .val (.int p2), .val (.int p3), .val (.ref en), .unset] [])) (st2) ?_
  refine own_g (T2.setTop (mkF m 30 #[.val (.ref r0), .val (.ref u), .val (.int p2), .val (.int p3), .val (.ref en), .unset] [(.ref r0)])) (fun _ k => XS.aloadN X2.here hx rfl (hb hby d3_29) rfl rfl k) ?_
  refine own_g (T2.setTop (mkF m 31 #[.val (.ref r0), .val (.ref u), .val (.int p2), .val (.int p3), .val (.ref en), .unset] [(.ref r0), (.ref r0)])) (fun _ k => XS.aloadN X2.here hx rfl (hb hby d3_30) rfl rfl k) ?_
  obtain ⟨T3, X3, e3, st3⟩ := getF X2 hx hZ hown (host := "") (Or.inl (own_w hw 36 rfl)) Via.refl e2 (own_Gf G2 7 rfl rfl) (g := (mkF m 31 #[.val (.ref r0), .val (.ref u), .val (.int p2), .val (.int p3), .val (.ref en), .unset] [(.ref r0), (.ref r0)])) rfl rfl (hb hby d3_31)
  refine own_g (T3.setTop (mkF m 34 #[.val (.ref r0), .val (.ref u), .val (.int p2), .val (.int p3), .val (.ref en), .unset] [(.long of), (.ref r0)])) (st3) ?_
  obtain ⟨T4, h4, X4, e4, W4, st4⟩ := putF X3 hx hZ hown (host := "") (Or.inl (own_w hw 38 rfl)) Via.refl e3 (own_Gf G2 8 rfl rfl) G2.1 (Or.inl (own_w hw 39 rfl)) (own_w hw 6 rfl) (ty := .long) (by decide) rfl rfl (g := (mkF m 34 #[.val (.ref r0), .val (.ref u), .val (.int p2), .val (.int p3), .val (.ref en), .unset] [(.long of), (.ref r0)])) rfl rfl (hb hby d3_34)
  have G4 : own_G Z h4 r0 [(.ref (sa 9)), x1, (.int (-1)), x3, x4, (.ref u), (.int p2), (.long of), (.long of), x9, x10, (.int 0), (.int 0), x13, (.int mk), (.long co), (.int pr), x17, x18, x19, x20, x21, x22] := own_G.put hw G2 8 rfl (Nat.le_of_ble_eq_true rfl) W4
  have I4 : own_I Z h4 r0 u ku cu en EC w sa := I2.wr W4 G2.1
  have N4 := Fr.snoc X4 N2 gn_r0
  have Z4 : n0 ≤ h4.size := Nat.le_trans Z2 (Keep.of_wr W4).1
  have K4 : Keep h0 h4 [r0] := K2.wr W4 (Or.inl (List.mem_of_getElem? (i := 0) rfl))
  refine own_g (T4.setTop (mkF m 37 #[.val (.ref r0), .val (.ref u), .val (.int p2), .val (.int p3), .val (.ref en), .unset] [])) (st4) ?_
  refine own_g (T4.setTop (mkF m 38 #[.val (.ref r0), .val (.ref u), .val (.int p2), .val (.int p3), .val (.ref en), .unset] [(.ref r0)])) (fun _ k => XS.aloadN X4.here hx rfl (hb hby d3_37) rfl rfl k) ?_
  refine own_g (T4.setTop (mkF m 40 #[.val (.ref r0), .val (.ref u), .val (.int p2), .val (.int p3), .val (.ref en), .unset] [(.ref en), (.ref r0)])) (fun _ k => XS.aload X4.here hx rfl (hb hby d3_38) rfl rfl k) ?_
  obtain ⟨T5, h5, X5, e5, W5, st5⟩ := putF X4 hx hZ hown (host := "") (Or.inl (own_w hw 40 rfl)) Via.refl e4 (own_Gf G4 9 rfl rfl) G4.1 (Or.inl (own_w hw 41 rfl)) (own_w hw 6 rfl) (ty := (.object "com/example/corridor/corridor/iso20022/MarkupScanner$Encoding")) (by decide) rfl rfl (g := (mkF m 40 #[.val (.ref r0), .val (.ref u), .val (.int p2), .val (.int p3), .val (.ref en), .unset] [(.ref en), (.ref r0)])) rfl rfl (hb hby d3_40)
  have G5 : own_G Z h5 r0 [(.ref (sa 9)), x1, (.int (-1)), x3, x4, (.ref u), (.int p2), (.long of), (.long of), (.ref en), x10, (.int 0), (.int 0), x13, (.int mk), (.long co), (.int pr), x17, x18, x19, x20, x21, x22] := own_G.put hw G4 9 rfl (Nat.le_of_ble_eq_true rfl) W5
  have I5 : own_I Z h5 r0 u ku cu en EC w sa := I4.wr W5 G4.1
  have N5 := Fr.snoc X5 N4 gn_r0
  have Z5 : n0 ≤ h5.size := Nat.le_trans Z4 (Keep.of_wr W5).1
  have K5 : Keep h0 h5 [r0] := K4.wr W5 (Or.inl (List.mem_of_getElem? (i := 0) rfl))
  refine own_g (T5.setTop (mkF m 43 #[.val (.ref r0), .val (.ref u), .val (.int p2), .val (.int p3), .val (.ref en), .unset] [])) (st5) ?_
  refine own_g (T5.setTop (mkF m 44 #[.val (.ref r0), .val (.ref u), .val (.int p2), .val (.int p3), .val (.ref en), .unset] [(.ref r0)])) (fun _ k => XS.aloadN X5.here hx rfl (hb hby d3_43) rfl rfl k) ?_
  refine own_g (T5.setTop (mkF m 46 #[.val (.ref r0), .val (.ref u), .val (.int p2), .val (.int p3), .val (.ref en), .unset] [(.ref en), (.ref r0)])) (fun _ k => XS.aload X5.here hx rfl (hb hby d3_44) rfl rfl k) ?_
  obtain ⟨T6, X6, e6, st6⟩ := getF X5 hx hZ hown (host := "") (Or.inl (own_w hw 42 rfl)) Via.refl e5 I5.2.2.1 (g := (mkF m 46 #[.val (.ref r0), .val (.ref u), .val (.int p2), .val (.int p3), .val (.ref en), .unset] [(.ref en), (.ref r0)])) rfl rfl (hb hby d3_46)
  refine own_g (T6.setTop (mkF m 49 #[.val (.ref r0), .val (.ref u), .val (.int p2), .val (.int p3), .val (.ref en), .unset] [(.int w), (.ref r0)])) (st6) ?_
  obtain ⟨T7, h7, X7, e7, W7, st7⟩ := putF X6 hx hZ hown (host := "") (Or.inl (own_w hw 44 rfl)) Via.refl e6 (own_Gf G5 10 rfl rfl) G5.1 (Or.inl (own_w hw 45 rfl)) (own_w hw 6 rfl) (ty := .int) (by decide) rfl rfl (g := (mkF m 49 #[.val (.ref r0), .val (.ref u), .val (.int p2), .val (.int p3), .val (.ref en), .unset] [(.int w), (.ref r0)])) rfl rfl (hb hby d3_49)
  have G7 : own_G Z h7 r0 [(.ref (sa 9)), x1, (.int (-1)), x3, x4, (.ref u), (.int p2), (.long of), (.long of), (.ref en), (.int w), (.int 0), (.int 0), x13, (.int mk), (.long co), (.int pr), x17, x18, x19, x20, x21, x22] := own_G.put hw G5 10 rfl (Nat.le_of_ble_eq_true rfl) W7
  have I7 : own_I Z h7 r0 u ku cu en EC w sa := I5.wr W7 G5.1
  have N7 := Fr.snoc X7 N5 gn_r0
  have Z7 : n0 ≤ h7.size := Nat.le_trans Z5 (Keep.of_wr W7).1
  have K7 : Keep h0 h7 [r0] := K5.wr W7 (Or.inl (List.mem_of_getElem? (i := 0) rfl))
  refine own_g (T7.setTop (mkF m 52 #[.val (.ref r0), .val (.ref u), .val (.int p2), .val (.int p3), .val (.ref en), .unset] [])) (st7) ?_
  refine own_g (T7.setTop (mkF m 53 #[.val (.ref r0), .val (.ref u), .val (.int p2), .val (.int p3), .val (.ref en), .unset] [(.ref r0)])) (fun _ k => XS.aloadN X7.here hx rfl (hb hby d3_52) rfl rfl k) ?_
  obtain ⟨cq8, qk8, qk8'⟩ := G7.1.cell
  obtain ⟨_, _, ⟨T8, L8, k8, n8⟩, -, X8, ⟨Lc8, hQ8, l8, y8, z8⟩, st8⟩ := X7.privateBack hx (y := (⟨"com/example/corridor/corridor/iso20022/MarkupScanner", "inName", "()Z"⟩ : MethodName)) hown (mvT hZ (own_w hw 46 rfl)) (mvT hZ (own_w hw 47 rfl)) (mvT hZ (own_selPriv (own_w hw 47 rfl) (own_w hw 48 rfl) (own_w hw 30 rfl) rfl (by decide))) (Cond.privateMethod_at (mvP hZ (own_w hw 48 rfl) (args := #[]))) (mvT hZ (own_w hw 49 rfl)) (by decide) (backOf (W := 0) (inn l Z a0 hw [] r0 u ku cu en EC w sa (sa 9) x1 (.int (-1)) x3 x4 (.ref u) (.int p2) (.long of) (.long of) (.ref en) (.int w) (.int 0) (.int 0) x13 (.int mk) (.long co) (.int pr) x17 x18 x19 x20 x21 x22 h7 n0 Z7 I7 G7 gn_r0 (own_I.ne I7 6 2 rfl rfl (by decide)) (own_I.ne I7 6 5 rfl rfl (by decide))) hZ (own_w hw 49 rfl) (own_w hw 7 rfl) (by decide) (by decide)) (g := (mkF m 53 #[.val (.ref r0), .val (.ref u), .val (.int p2), .val (.int p3), .val (.ref en), .unset] [(.ref r0)])) rfl (by rw [hml]; rfl) (Steps.refl _) (a := r0) (by rw [e7]; exact qk8) qk8' (argsL := []) (rest := []) (lenOf pd10 rfl) rfl (by show 2 * 0 + _ ≤ _; exact Nat.le_of_eq rfl) (hb hby d3_53) (fun _ _ => ⟨rfl, e7, (by decide : 0 + 0 ≤ _), (by decide : 0 + 0 ≤ _)⟩)
  dsimp only [Pt.U, Pt.locs, Pt.cells, Pt.slots] at X8 l8 y8 z8 st8 hQ8
  subst l8 y8 z8
  obtain ⟨rfl, Nq8, e8⟩ := hQ8
  have N8 := Fr.app N7 Nq8
  refine own_g (T8.setTop (mkF m 56 #[.val (.ref r0), .val (.ref u), .val (.int p2), .val (.int p3), .val (.ref en), .unset] [(.int 0)])) (fun _ k => st8.trans k) ?_
  refine own_g (T8.setTop (mkF m 69 #[.val (.ref r0), .val (.ref u), .val (.int p2), .val (.int p3), .val (.ref en), .unset] [])) (fun _ k => XS.ifYes X8.here hx rfl (pc0 := 56) (pc' := 69) rfl (hb hby d3_56) rfl ((if0 _ _).trans (teq (by decide : (0 : Int32) = (0 : Int32))).1) (by decide) (by decide) k) ?_
  refine own_g (T8.setTop (mkF m 70 #[.val (.ref r0), .val (.ref u), .val (.int p2), .val (.int p3), .val (.ref en), .unset] [(.int p2)])) (fun _ k => XS.iloadN X8.here hx rfl (hb hby d3_69) rfl k) ?_
  refine own_g (T8.setTop (mkF m 72 #[.val (.ref r0), .val (.ref u), .val (.int p2), .val (.int p3), .val (.ref en), .val (.int p2)] [])) (fun _ k => XS.istore X8.here hx rfl (hb hby d3_70) rfl (l' := #[.val (.ref r0), .val (.ref u), .val (.int p2), .val (.int p3), .val (.ref en), .val (.int p2)]) rfl k) ?_
  refine own_g (T8.setTop (mkF m 74 #[.val (.ref r0), .val (.ref u), .val (.int p2), .val (.int p3), .val (.ref en), .val (.int p2)] [(.int p2)])) (fun _ k => XS.iload X8.here hx rfl (hb hby d3_72) rfl k) ?_
  refine own_g (T8.setTop (mkF m 75 #[.val (.ref r0), .val (.ref u), .val (.int p2), .val (.int p3), .val (.ref en), .val (.int p2)] [(.int p3), (.int p2)])) (fun _ k => XS.iloadN X8.here hx rfl (hb hby d3_74) rfl k) ?_
  refine own_g (T8.setTop (mkF m 78 #[.val (.ref r0), .val (.ref u), .val (.int p2), .val (.int p3), .val (.ref en), .val (.int p2)] [])) (fun _ k => XS.icmpNo X8.here hx rfl (hb hby d3_75) rfl (tlt (own_ilt (by omega) : p2 < p3)).2.1 k) ?_
  refine own_g (T8.setTop (mkF m 79 #[.val (.ref r0), .val (.ref u), .val (.int p2), .val (.int p3), .val (.ref en), .val (.int p2)] [(.ref r0)])) (fun _ k => XS.aloadN X8.here hx rfl (hb hby d3_78) rfl rfl k) ?_
  obtain ⟨T9, X9, e9, st9⟩ := getF X8 hx hZ hown (host := "") (Or.inl (own_w hw 54 rfl)) Via.refl e8 (own_Gf G7 11 rfl rfl) (g := (mkF m 79 #[.val (.ref r0), .val (.ref u), .val (.int p2), .val (.int p3), .val (.ref en), .val (.int p2)] [(.ref r0)])) rfl rfl (hb hby d3_79)
  refine own_g (T9.setTop (mkF m 82 #[.val (.ref r0), .val (.ref u), .val (.int p2), .val (.int p3), .val (.ref en), .val (.int p2)] [(.int 0)])) (st9) ?_
  refine own_g (T9.setTop (mkF m 85 #[.val (.ref r0), .val (.ref u), .val (.int p2), .val (.int p3), .val (.ref en), .val (.int p2)] [])) (fun _ k => XS.ifNo X9.here hx rfl (hb hby d3_82) rfl ((if0 _ _).trans (teq (by decide : (0 : Int32) = (0 : Int32))).2) k) ?_
  refine own_g (T9.setTop (mkF m 86 #[.val (.ref r0), .val (.ref u), .val (.int p2), .val (.int p3), .val (.ref en), .val (.int p2)] [(.ref r0)])) (fun _ k => XS.aloadN X9.here hx rfl (hb hby d3_85) rfl rfl k) ?_
  obtain ⟨T10, X10, e10, st10⟩ := getF X9 hx hZ hown (host := "") (Or.inl (own_w hw 17 rfl)) Via.refl e9 (own_Gf G7 0 rfl rfl) (g := (mkF m 86 #[.val (.ref r0), .val (.ref u), .val (.int p2), .val (.int p3), .val (.ref en), .val (.int p2)] [(.ref r0)])) rfl rfl (hb hby d3_86)
  refine own_g (T10.setTop (mkF m 89 #[.val (.ref r0), .val (.ref u), .val (.int p2), .val (.int p3), .val (.ref en), .val (.int p2)] [(.ref (sa 9))])) (st10) ?_
  obtain ⟨cq11, kq11, qk11a, qk11b, qk11c⟩ := isOf hZ e10 (show Exa Z h7 (sa 9) "com/example/corridor/corridor/iso20022/MarkupScanner$State" from (I7.1 6 _ rfl).2.1)
  obtain ⟨_, _, ⟨T11, L11, k11, n11⟩, -, X11, ⟨Lc11, hQ11, l11, y11, z11⟩, st11⟩ := X10.virtualBackUp hx (x := (⟨"com/example/corridor/corridor/iso20022/MarkupScanner$State", "ordinal", "()I"⟩ : MethodName)) (y := (⟨"java/lang/Enum", "ordinal", "()I"⟩ : MethodName)) (owner := "java/lang/Enum") hown (mvT hZ (own_w hw 56 rfl)) (mvT hZ (own_w hw 57 rfl)) (mvT hZ (own_w hw 58 rfl)) (by decide) (mvT hZ (own_w hw 60 rfl)) (mvT hZ (own_w hw 59 rfl)) (backOf (W := 0) (ord l Z a0 hw [] (sa 9) (9 : Int32) h7 n0 Z7 (show Fld Z h7 (sa 9) "java/lang/Enum" "ordinal" "I" (.int 9) from (I7.1 6 _ rfl).2.2.1)) hZ (own_w hw 62 rfl) (own_w hw 61 rfl) (by decide) (by decide)) qk11a qk11c (g := (mkF m 89 #[.val (.ref r0), .val (.ref u), .val (.int p2), .val (.int p3), .val (.ref en), .val (.int p2)] [(.ref (sa 9))])) rfl (by rw [hml]; rfl) (Steps.refl _) (argsL := []) (rest := []) (lenOf pd4 rfl) rfl (by show 2 * 0 + _ ≤ _; exact Nat.le_of_eq rfl) (hb hby d3_89) (fun _ _ => ⟨rfl, e10, (by decide : 0 + 0 ≤ _), (by decide : 0 + 0 ≤ _)⟩)
  dsimp only [Pt.U, Pt.locs, Pt.cells, Pt.slots] at X11 l11 y11 z11 st11 hQ11
  subst l11 y11 z11
  obtain ⟨rfl, Nq11, e11⟩ := hQ11
  have N11 := Fr.app N8 Nq11
  refine own_g (T11.setTop (mkF m 92 #[.val (.ref r0), .val (.ref u), .val (.int p2), .val (.int p3), .val (.ref en), .val (.int p2)] [(.int 9)])) (fun _ k => st11.trans k) ?_
  refine own_g (T11.setTop (mkF m 158 #[.val (.ref r0), .val (.ref u), .val (.int p2), .val (.int p3), .val (.ref en), .val (.int p2)] [])) (fun _ k => XS.tswIn X11.here hx rfl (pc0 := 92) (pc' := 158) (o := 66) rfl (hb hby d3_92) rfl (by decide) rfl (by decide) (by decide) k) ?_
  refine own_g (T11.setTop (mkF m 159 #[.val (.ref r0), .val (.ref u), .val (.int p2), .val (.int p3), .val (.ref en), .val (.int p2)] [(.ref r0)])) (fun _ k => XS.aloadN X11.here hx rfl (hb hby d3_158) rfl rfl k) ?_
  refine own_g (T11.setTop (mkF m 161 #[.val (.ref r0), .val (.ref u), .val (.int p2), .val (.int p3), .val (.ref en), .val (.int p2)] [(.int p2), (.ref r0)])) (fun _ k => XS.iload X11.here hx rfl (hb hby d3_159) rfl k) ?_
  refine own_g (T11.setTop (mkF m 162 #[.val (.ref r0), .val (.ref u), .val (.int p2), .val (.int p3), .val (.ref en), .val (.int p2)] [(.int p3), (.int p2), (.ref r0)])) (fun _ k => XS.iloadN X11.here hx rfl (hb hby d3_161) rfl k) ?_
  obtain ⟨cq12, qk12, qk12'⟩ := G7.1.cell
  obtain ⟨_, _, ⟨T12, L12, k12, n12⟩, -, X12, ⟨Lc12, hQ12, l12, y12, z12⟩, st12⟩ := X11.privateBack hx (y := (⟨"com/example/corridor/corridor/iso20022/MarkupScanner", "cdata", "(II)I"⟩ : MethodName)) hown (mvT hZ (own_w hw 144 rfl)) (mvT hZ (own_w hw 145 rfl)) (mvT hZ (own_selPriv (own_w hw 145 rfl) (own_w hw 146 rfl) (own_w hw 30 rfl) rfl (by decide))) (Cond.privateMethod_at (mvP hZ (own_w hw 146 rfl) (args := #[]))) (mvT hZ (own_w hw 147 rfl)) (by decide) (backOf (W := 0) (cdB l Z a0 hw [] r0 p2 p3 u ku cu en EC w sa (.ref (sa 9)) x1 (.int (-1)) x3 x4 p2 (.long of) of (.int 0) x13 mk co pr x17 x18 x19 x20 x21 x22 qi h7 n0 Z7 I7 G7 gn_r0 HC HC.2.1 (Int.le_refl _) b4 HC.2.2.2.1 b6 hm0 hpr hEC) hZ (own_w hw 147 rfl) (own_w hw 7 rfl) (by decide) (by decide)) (g := (mkF m 162 #[.val (.ref r0), .val (.ref u), .val (.int p2), .val (.int p3), .val (.ref en), .val (.int p2)] [(.int p3), (.int p2), (.ref r0)])) rfl (by rw [hml]; rfl) (Steps.refl _) (a := r0) (by rw [e11]; exact qk12) qk12' (argsL := [(.int p2), (.int p3)]) (rest := []) (lenOf pd13 rfl) rfl (by show 2 * 0 + _ ≤ _; exact Nat.le_of_eq rfl) (hb hby d3_162) (fun _ _ => ⟨rfl, e11, (by decide : 0 + 0 ≤ _), (by decide : 0 + 0 ≤ _)⟩)
  dsimp only [Pt.U, Pt.locs, Pt.cells, Pt.slots] at X12 l12 y12 z12 st12 hQ12
  subst l12 y12 z12
  obtain ⟨rfl, Nq12, Kq12, Gq12⟩ := hQ12
  have N12 := Fr.app N11 Nq12
  have I12 : own_I Z T12.heap r0 u ku cu en EC w sa := I7.keep Kq12 G7.1
  have G12 : own_G Z T12.heap r0 [(.ref (sa 9)), x1, (.int (-1)), x3, x4, (.ref u), (.int p2), (.long of), (.long of), (.ref en), (.int w), (.int 1), (.int 0), x13, (.int 0), (.long co), (.int pr), x17, x18, x19, x20, x21, x22] := Gq12
  have Z12 : n0 ≤ T12.heap.size := Nat.le_trans Z7 Kq12.1
  have K12 : Keep h0 T12.heap [r0] := K7.trans Kq12 (allS (Or.inl (List.mem_of_getElem? (i := 0) rfl)) all0)
  refine own_g (T12.setTop (mkF m 165 #[.val (.ref r0), .val (.ref u), .val (.int p2), .val (.int p3), .val (.ref en), .val (.int p2)] [(.int qi)])) (fun _ k => st12.trans k) ?_
  refine own_g (T12.setTop (mkF m 174 #[.val (.ref r0), .val (.ref u), .val (.int p2), .val (.int p3), .val (.ref en), .val (.int p2)] [(.int qi)])) (fun _ k => XS.goto X12.here hx rfl (pc0 := 165) (pc' := 174) rfl (hb hby d3_165) (by decide) (by decide) k) ?_
  refine own_g (T12.setTop (mkF m 176 #[.val (.ref r0), .val (.ref u), .val (.int p2), .val (.int p3), .val (.ref en), .val (.int qi)] [])) (fun _ k => XS.istore X12.here hx rfl (hb hby d3_174) rfl (l' := #[.val (.ref r0), .val (.ref u), .val (.int p2), .val (.int p3), .val (.ref en), .val (.int qi)]) rfl k) ?_
  refine own_g (T12.setTop (mkF m 72 #[.val (.ref r0), .val (.ref u), .val (.int p2), .val (.int p3), .val (.ref en), .val (.int qi)] [])) (fun _ k => XS.goto X12.here hx rfl (pc0 := 176) (pc' := 72) rfl (hb hby d3_176) (by decide) (by decide) k) ?_
  refine own_g (T12.setTop (mkF m 74 #[.val (.ref r0), .val (.ref u), .val (.int p2), .val (.int p3), .val (.ref en), .val (.int qi)] [(.int qi)])) (fun _ k => XS.iload X12.here hx rfl (hb hby d3_72) rfl k) ?_
  refine own_g (T12.setTop (mkF m 75 #[.val (.ref r0), .val (.ref u), .val (.int p2), .val (.int p3), .val (.ref en), .val (.int qi)] [(.int p3), (.int qi)])) (fun _ k => XS.iloadN X12.here hx rfl (hb hby d3_74) rfl k) ?_
  refine own_g (T12.setTop (mkF m 78 #[.val (.ref r0), .val (.ref u), .val (.int p2), .val (.int p3), .val (.ref en), .val (.int qi)] [])) (fun _ k => XS.icmpNo X12.here hx rfl (hb hby d3_75) rfl (tlt (own_ilt (by omega) : qi < p3)).2.1 k) ?_
  refine own_g (T12.setTop (mkF m 79 #[.val (.ref r0), .val (.ref u), .val (.int p2), .val (.int p3), .val (.ref en), .val (.int qi)] [(.ref r0)])) (fun _ k => XS.aloadN X12.here hx rfl (hb hby d3_78) rfl rfl k) ?_
  obtain ⟨T13, X13, e13, st13⟩ := getF X12 hx hZ hown (host := "") (Or.inl (own_w hw 54 rfl)) Via.refl rfl (own_Gf G12 11 rfl rfl) (g := (mkF m 79 #[.val (.ref r0), .val (.ref u), .val (.int p2), .val (.int p3), .val (.ref en), .val (.int qi)] [(.ref r0)])) rfl rfl (hb hby d3_79)
  refine own_g (T13.setTop (mkF m 82 #[.val (.ref r0), .val (.ref u), .val (.int p2), .val (.int p3), .val (.ref en), .val (.int qi)] [(.int 1)])) (st13) ?_
  refine own_g (T13.setTop (mkF m 179 #[.val (.ref r0), .val (.ref u), .val (.int p2), .val (.int p3), .val (.ref en), .val (.int qi)] [])) (fun _ k => XS.ifYes X13.here hx rfl (pc0 := 82) (pc' := 179) rfl (hb hby d3_82) rfl ((if0 _ _).trans (feq (by decide : ¬ ((1 : Int32) = (0 : Int32)))).2) (by decide) (by decide) k) ?_
  refine own_g (T13.setTop (mkF m 181 #[.val (.ref r0), .val (.ref u), .val (.int p2), .val (.int p3), .val (.ref en), .val (.int qi)] [(.int qi)])) (fun _ k => XS.iload X13.here hx rfl (hb hby d3_179) rfl k) ?_
  refine own_g (T13.setTop (mkF m 182 #[.val (.ref r0), .val (.ref u), .val (.int p2), .val (.int p3), .val (.ref en), .val (.int qi)] [(.int p2), (.int qi)])) (fun _ k => XS.iloadN X13.here hx rfl (hb hby d3_181) rfl k) ?_
  by_cases hc182 : p2 < qi
  · skip
    refine own_g (T13.setTop (mkF m 185 #[.val (.ref r0), .val (.ref u), .val (.int p2), .val (.int p3), .val (.ref en), .val (.int qi)] [])) (fun _ k => XS.icmpNo X13.here hx rfl (hb hby d3_182) rfl (tlt hc182).2.2.2 k) ?_
    refine own_g (T13.setTop (mkF m 186 #[.val (.ref r0), .val (.ref u), .val (.int p2), .val (.int p3), .val (.ref en), .val (.int qi)] [(.ref r0)])) (fun _ k => XS.aloadN X13.here hx rfl (hb hby d3_185) rfl rfl k) ?_
    refine own_g (T13.setTop (mkF m 187 #[.val (.ref r0), .val (.ref u), .val (.int p2), .val (.int p3), .val (.ref en), .val (.int qi)] [(.ref r0), (.ref r0)])) (fun _ k => XS.aloadN X13.here hx rfl (hb hby d3_186) rfl rfl k) ?_
    obtain ⟨T14, X14, e14, st14⟩ := getF X13 hx hZ hown (host := "") (Or.inl (own_w hw 32 rfl)) Via.refl e13 (own_Gf G12 5 rfl rfl) (g := (mkF m 187 #[.val (.ref r0), .val (.ref u), .val (.int p2), .val (.int p3), .val (.ref en), .val (.int qi)] [(.ref r0), (.ref r0)])) rfl rfl (hb hby d3_187)
    refine own_g (T14.setTop (mkF m 190 #[.val (.ref r0), .val (.ref u), .val (.int p2), .val (.int p3), .val (.ref en), .val (.int qi)] [(.ref u), (.ref r0)])) (st14) ?_
    refine own_g (T14.setTop (mkF m 192 #[.val (.ref r0), .val (.ref u), .val (.int p2), .val (.int p3), .val (.ref en), .val (.int qi)] [(.int qi), (.ref u), (.ref r0)])) (fun _ k => XS.iload X14.here hx rfl (hb hby d3_190) rfl k) ?_
    refine own_g (T14.setTop (mkF m 193 #[.val (.ref r0), .val (.ref u), .val (.int p2), .val (.int p3), .val (.ref en), .val (.int qi)] [(.int 1), (.int qi), (.ref u), (.ref r0)])) (fun _ k => XS.iconst X14.here hx rfl (hb hby d3_192) k) ?_
    refine own_g (T14.setTop (mkF m 194 #[.val (.ref r0), .val (.ref u), .val (.int p2), .val (.int p3), .val (.ref en), .val (.int qi)] [(.int (qi - (1 : Int32))), (.ref u), (.ref r0)])) (fun _ k => XS.isub X14.here hx rfl (hb hby d3_193) rfl k) ?_
    obtain ⟨cl15, Ar15, hin15, hat15⟩ := own_I.at0 I12 (qi - (1 : Int32)) (own_pred (by rw [Int32.lt_iff_toInt_lt] at hc182; omega) (by omega)).1 (own_pred (by rw [Int32.lt_iff_toInt_lt] at hc182; omega) (by omega)).2
    refine own_g (T14.setTop (mkF m 195 #[.val (.ref r0), .val (.ref u), .val (.int p2), .val (.int p3), .val (.ref en), .val (.int qi)] [(.int 0), (.ref r0)])) (X14.caload hx (j := (qi - (1 : Int32))) (v := (.int 0)) (by rw [e14]; exact Ar15.1) (State.isArrayOf_alike hZ.alike Ar15.2.1) Ar15.2.2 hin15 hat15 (g := (mkF m 194 #[.val (.ref r0), .val (.ref u), .val (.int p2), .val (.int p3), .val (.ref en), .val (.int qi)] [(.int (qi - (1 : Int32))), (.ref u), (.ref r0)])) rfl rfl (hb hby d3_194)) ?_
    obtain ⟨T16, h16, X16, e16, W16, st16⟩ := putFN X14 hx hZ hown (own_w hw 160 rfl) Via.refl e14 (own_Gf G12 16 rfl rfl) G12.1 (Or.inl (own_w hw 161 rfl)) (own_w hw 6 rfl) (ty := .char) (v' := (.int 0)) (by decide) rfl rfl (g := (mkF m 195 #[.val (.ref r0), .val (.ref u), .val (.int p2), .val (.int p3), .val (.ref en), .val (.int qi)] [(.int 0), (.ref r0)])) rfl rfl (hb hby d3_195)
    have G16 : own_G Z h16 r0 [(.ref (sa 9)), x1, (.int (-1)), x3, x4, (.ref u), (.int p2), (.long of), (.long of), (.ref en), (.int w), (.int 1), (.int 0), x13, (.int 0), (.long co), (.int 0), x17, x18, x19, x20, x21, x22] := own_G.put hw G12 16 rfl (Nat.le_of_ble_eq_true rfl) W16
    have I16 : own_I Z h16 r0 u ku cu en EC w sa := I12.wr W16 G12.1
    have N16 := Fr.snoc X16 N12 gn_r0
    have Z16 : n0 ≤ h16.size := Nat.le_trans Z12 (Keep.of_wr W16).1
    have K16 : Keep h0 h16 [r0] := K12.wr W16 (Or.inl (List.mem_of_getElem? (i := 0) rfl))
    refine own_g (T16.setTop (mkF m 198 #[.val (.ref r0), .val (.ref u), .val (.int p2), .val (.int p3), .val (.ref en), .val (.int qi)] [])) (st16) ?_
    refine own_g (T16.setTop (mkF m 199 #[.val (.ref r0), .val (.ref u), .val (.int p2), .val (.int p3), .val (.ref en), .val (.int qi)] [(.ref r0)])) (fun _ k => XS.aloadN X16.here hx rfl (hb hby d3_198) rfl rfl k) ?_
    obtain ⟨T17, X17, e17, st17⟩ := getF X16 hx hZ hown (host := "") (Or.inl (own_w hw 21 rfl)) Via.refl e16 (own_Gf G16 2 rfl rfl) (g := (mkF m 199 #[.val (.ref r0), .val (.ref u), .val (.int p2), .val (.int p3), .val (.ref en), .val (.int qi)] [(.ref r0)])) rfl rfl (hb hby d3_199)
    refine own_g (T17.setTop (mkF m 202 #[.val (.ref r0), .val (.ref u), .val (.int p2), .val (.int p3), .val (.ref en), .val (.int qi)] [(.int (-1))])) (st17) ?_
    refine own_g (T17.setTop (mkF m 222 #[.val (.ref r0), .val (.ref u), .val (.int p2), .val (.int p3), .val (.ref en), .val (.int qi)] [])) (fun _ k => XS.ifYes X17.here hx rfl (pc0 := 202) (pc' := 222) rfl (hb hby d3_202) rfl ((if0 _ _).trans (tlt (by decide : (-1 : Int32) < (0 : Int32))).1) (by decide) (by decide) k) ?_
    refine own_g (T17.setTop (mkF m 223 #[.val (.ref r0), .val (.ref u), .val (.int p2), .val (.int p3), .val (.ref en), .val (.int qi)] [(.ref r0)])) (fun _ k => XS.aloadN X17.here hx rfl (hb hby d3_222) rfl rfl k) ?_
    obtain ⟨cq18, qk18, qk18'⟩ := G16.1.cell
    obtain ⟨_, _, ⟨T18, L18, k18, n18⟩, -, X18, ⟨Lc18, hQ18, l18, y18, z18⟩, st18⟩ := X17.privateBack hx (y := (⟨"com/example/corridor/corridor/iso20022/MarkupScanner", "inName", "()Z"⟩ : MethodName)) hown (mvT hZ (own_w hw 46 rfl)) (mvT hZ (own_w hw 47 rfl)) (mvT hZ (own_selPriv (own_w hw 47 rfl) (own_w hw 48 rfl) (own_w hw 30 rfl) rfl (by decide))) (Cond.privateMethod_at (mvP hZ (own_w hw 48 rfl) (args := #[]))) (mvT hZ (own_w hw 49 rfl)) (by decide) (backOf (W := 0) (inn l Z a0 hw [] r0 u ku cu en EC w sa (sa 9) x1 (.int (-1)) x3 x4 (.ref u) (.int p2) (.long of) (.long of) (.ref en) (.int w) (.int 1) (.int 0) x13 (.int 0) (.long co) (.int 0) x17 x18 x19 x20 x21 x22 h16 n0 Z16 I16 G16 gn_r0 (own_I.ne I16 6 2 rfl rfl (by decide)) (own_I.ne I16 6 5 rfl rfl (by decide))) hZ (own_w hw 49 rfl) (own_w hw 7 rfl) (by decide) (by decide)) (g := (mkF m 223 #[.val (.ref r0), .val (.ref u), .val (.int p2), .val (.int p3), .val (.ref en), .val (.int qi)] [(.ref r0)])) rfl (by rw [hml]; rfl) (Steps.refl _) (a := r0) (by rw [e17]; exact qk18) qk18' (argsL := []) (rest := []) (lenOf pd10 rfl) rfl (by show 2 * 0 + _ ≤ _; exact Nat.le_of_eq rfl) (hb hby d3_223) (fun _ _ => ⟨rfl, e17, (by decide : 0 + 0 ≤ _), (by decide : 0 + 0 ≤ _)⟩)
    dsimp only [Pt.U, Pt.locs, Pt.cells, Pt.slots] at X18 l18 y18 z18 st18 hQ18
    subst l18 y18 z18
    obtain ⟨rfl, Nq18, e18⟩ := hQ18
    have N18 := Fr.app N16 Nq18
    refine own_g (T18.setTop (mkF m 226 #[.val (.ref r0), .val (.ref u), .val (.int p2), .val (.int p3), .val (.ref en), .val (.int qi)] [(.int 0)])) (fun _ k => st18.trans k) ?_
    refine own_g (T18.setTop (mkF m 255 #[.val (.ref r0), .val (.ref u), .val (.int p2), .val (.int p3), .val (.ref en), .val (.int qi)] [])) (fun _ k => XS.ifYes X18.here hx rfl (pc0 := 226) (pc' := 255) rfl (hb hby d3_226) rfl ((if0 _ _).trans (teq (by decide : (0 : Int32) = (0 : Int32))).1) (by decide) (by decide) k) ?_
    refine own_g (T18.setTop (mkF m 256 #[.val (.ref r0), .val (.ref u), .val (.int p2), .val (.int p3), .val (.ref en), .val (.int qi)] [(.ref r0)])) (fun _ k => XS.aloadN X18.here hx rfl (hb hby d3_255) rfl rfl k) ?_
    refine own_g (T18.setTop (mkF m 257 #[.val (.ref r0), .val (.ref u), .val (.int p2), .val (.int p3), .val (.ref en), .val (.int qi)] [(.ref r0), (.ref r0)])) (fun _ k => XS.aloadN X18.here hx rfl (hb hby d3_256) rfl rfl k) ?_
    refine own_g (T18.setTop (mkF m 259 #[.val (.ref r0), .val (.ref u), .val (.int p2), .val (.int p3), .val (.ref en), .val (.int qi)] [(.int qi), (.ref r0), (.ref r0)])) (fun _ k => XS.iload X18.here hx rfl (hb hby d3_257) rfl k) ?_
    obtain ⟨cq19, qk19, qk19'⟩ := G16.1.cell
    obtain ⟨_, _, ⟨T19, L19, k19, n19⟩, -, X19, ⟨Lc19, hQ19, l19, y19, z19⟩, st19⟩ := X18.privateBack hx (y := (⟨"com/example/corridor/corridor/iso20022/MarkupScanner", "offsetAt", "(I)J"⟩ : MethodName)) hown (mvT hZ (own_w hw 136 rfl)) (mvT hZ (own_w hw 137 rfl)) (mvT hZ (own_selPriv (own_w hw 137 rfl) (own_w hw 138 rfl) (own_w hw 30 rfl) rfl (by decide))) (Cond.privateMethod_at (mvP hZ (own_w hw 138 rfl) (args := #[]))) (mvT hZ (own_w hw 139 rfl)) (by decide) (backOf (W := 1) (off l Z a0 hw [] r0 qi u ku cu en EC w sa (.ref (sa 9)) x1 (.int (-1)) x3 x4 (.ref u) p2 (.long of) of (.ref en) w (.int 1) (.int 0) x13 (.int 0) (.long co) (.int 0) x17 x18 x19 x20 x21 x22 h16 n0 Z16 I16 G16 gn_r0) hZ (own_w hw 139 rfl) (own_w hw 7 rfl) (by decide) (by decide)) (g := (mkF m 259 #[.val (.ref r0), .val (.ref u), .val (.int p2), .val (.int p3), .val (.ref en), .val (.int qi)] [(.int qi), (.ref r0), (.ref r0)])) rfl (by rw [hml]; rfl) (Steps.refl _) (a := r0) (by rw [e18]; exact qk19) qk19' (argsL := [(.int qi)]) (rest := [(.ref r0)]) (lenOf pd6 rfl) rfl (by show 2 * 0 + _ ≤ _; exact Nat.le_of_eq rfl) (hb hby d3_259) (fun _ _ => ⟨rfl, e18, (by decide : 0 + 0 ≤ _), (by decide : 0 + 0 ≤ _)⟩)
    dsimp only [Pt.U, Pt.locs, Pt.cells, Pt.slots] at X19 l19 y19 z19 st19 hQ19
    subst l19 y19 z19
    obtain ⟨rfl, Nq19, e19⟩ := hQ19
    have N19 := Fr.app N18 Nq19
    refine own_g (T19.setTop (mkF m 262 #[.val (.ref r0), .val (.ref u), .val (.int p2), .val (.int p3), .val (.ref en), .val (.int qi)] [(.long (of + (((qi - p2).toInt64) * (w.toInt64)))), (.ref r0)])) (fun _ k => st19.trans k) ?_
    obtain ⟨T20, h20, X20, e20, W20, st20⟩ := putF X19 hx hZ hown (host := "") (Or.inl (own_w hw 36 rfl)) Via.refl e19 (own_Gf G16 7 rfl rfl) G16.1 (Or.inl (own_w hw 37 rfl)) (own_w hw 6 rfl) (ty := .long) (by decide) rfl rfl (g := (mkF m 262 #[.val (.ref r0), .val (.ref u), .val (.int p2), .val (.int p3), .val (.ref en), .val (.int qi)] [(.long (of + (((qi - p2).toInt64) * (w.toInt64)))), (.ref r0)])) rfl rfl (hb hby d3_262)
    have G20 : own_G Z h20 r0 [(.ref (sa 9)), x1, (.int (-1)), x3, x4, (.ref u), (.int p2), (.long (of + (((qi - p2).toInt64) * (w.toInt64)))), (.long of), (.ref en), (.int w), (.int 1), (.int 0), x13, (.int 0), (.long co), (.int 0), x17, x18, x19, x20, x21, x22] := own_G.put hw G16 7 rfl (Nat.le_of_ble_eq_true rfl) W20
    have I20 : own_I Z h20 r0 u ku cu en EC w sa := I16.wr W20 G16.1
    have N20 := Fr.snoc X20 N19 gn_r0
    have Z20 : n0 ≤ h20.size := Nat.le_trans Z16 (Keep.of_wr W20).1
    have K20 : Keep h0 h20 [r0] := K16.wr W20 (Or.inl (List.mem_of_getElem? (i := 0) rfl))
    refine own_g (T20.setTop (mkF m 265 #[.val (.ref r0), .val (.ref u), .val (.int p2), .val (.int p3), .val (.ref en), .val (.int qi)] [])) (st20) ?_
    refine own_g (T20.setTop (mkF m 266 #[.val (.ref r0), .val (.ref u), .val (.int p2), .val (.int p3), .val (.ref en), .val (.int qi)] [(.ref r0)])) (fun _ k => XS.aloadN X20.here hx rfl (hb hby d3_265) rfl rfl k) ?_
    obtain ⟨T21, X21, e21, st21⟩ := getF X20 hx hZ hown (host := "") (Or.inl (own_w hw 73 rfl)) Via.refl e20 (own_Gf G20 12 rfl rfl) (g := (mkF m 266 #[.val (.ref r0), .val (.ref u), .val (.int p2), .val (.int p3), .val (.ref en), .val (.int qi)] [(.ref r0)])) rfl rfl (hb hby d3_266)
    refine own_g (T21.setTop (mkF m 269 #[.val (.ref r0), .val (.ref u), .val (.int p2), .val (.int p3), .val (.ref en), .val (.int qi)] [(.int 0)])) (st21) ?_
    refine own_g (T21.setTop (mkF m 293 #[.val (.ref r0), .val (.ref u), .val (.int p2), .val (.int p3), .val (.ref en), .val (.int qi)] [])) (fun _ k => XS.ifYes X21.here hx rfl (pc0 := 269) (pc' := 293) rfl (hb hby d3_269) rfl ((if0 _ _).trans (teq (by decide : (0 : Int32) = (0 : Int32))).1) (by decide) (by decide) k) ?_
    refine own_g (T21.setTop (mkF m 295 #[.val (.ref r0), .val (.ref u), .val (.int p2), .val (.int p3), .val (.ref en), .val (.int qi)] [(.int qi)])) (fun _ k => XS.iload X21.here hx rfl (hb hby d3_293) rfl k) ?_
    exact own_retI X21 hx Bd.returns (hb hby d3_295) Bd.notSynchronized (by decide) (by decide) (by rw [e21]; exact ⟨_, rfl, N20, K20, G20⟩)
  · skip
    refine own_g (T13.setTop (mkF m 198 #[.val (.ref r0), .val (.ref u), .val (.int p2), .val (.int p3), .val (.ref en), .val (.int qi)] [])) (fun _ k => XS.icmpYes X13.here hx rfl (pc0 := 182) (pc' := 198) rfl (hb hby d3_182) rfl (flt hc182).2.2.2 (by decide) (by decide) k) ?_
    refine own_g (T13.setTop (mkF m 199 #[.val (.ref r0), .val (.ref u), .val (.int p2), .val (.int p3), .val (.ref en), .val (.int qi)] [(.ref r0)])) (fun _ k => XS.aloadN X13.here hx rfl (hb hby d3_198) rfl rfl k) ?_
    obtain ⟨T22, X22, e22, st22⟩ := getF X13 hx hZ hown (host := "") (Or.inl (own_w hw 21 rfl)) Via.refl e13 (own_Gf G12 2 rfl rfl) (g := (mkF m 199 #[.val (.ref r0), .val (.ref u), .val (.int p2), .val (.int p3), .val (.ref en), .val (.int qi)] [(.ref r0)])) rfl rfl (hb hby d3_199)
    refine own_g (T22.setTop (mkF m 202 #[.val (.ref r0), .val (.ref u), .val (.int p2), .val (.int p3), .val (.ref en), .val (.int qi)] [(.int (-1))])) (st22) ?_
    refine own_g (T22.setTop (mkF m 222 #[.val (.ref r0), .val (.ref u), .val (.int p2), .val (.int p3), .val (.ref en), .val (.int qi)] [])) (fun _ k => XS.ifYes X22.here hx rfl (pc0 := 202) (pc' := 222) rfl (hb hby d3_202) rfl ((if0 _ _).trans (tlt (by decide : (-1 : Int32) < (0 : Int32))).1) (by decide) (by decide) k) ?_
    refine own_g (T22.setTop (mkF m 223 #[.val (.ref r0), .val (.ref u), .val (.int p2), .val (.int p3), .val (.ref en), .val (.int qi)] [(.ref r0)])) (fun _ k => XS.aloadN X22.here hx rfl (hb hby d3_222) rfl rfl k) ?_
    obtain ⟨cq23, qk23, qk23'⟩ := G12.1.cell
    obtain ⟨_, _, ⟨T23, L23, k23, n23⟩, -, X23, ⟨Lc23, hQ23, l23, y23, z23⟩, st23⟩ := X22.privateBack hx (y := (⟨"com/example/corridor/corridor/iso20022/MarkupScanner", "inName", "()Z"⟩ : MethodName)) hown (mvT hZ (own_w hw 46 rfl)) (mvT hZ (own_w hw 47 rfl)) (mvT hZ (own_selPriv (own_w hw 47 rfl) (own_w hw 48 rfl) (own_w hw 30 rfl) rfl (by decide))) (Cond.privateMethod_at (mvP hZ (own_w hw 48 rfl) (args := #[]))) (mvT hZ (own_w hw 49 rfl)) (by decide) (backOf (W := 0) (inn l Z a0 hw [] r0 u ku cu en EC w sa (sa 9) x1 (.int (-1)) x3 x4 (.ref u) (.int p2) (.long of) (.long of) (.ref en) (.int w) (.int 1) (.int 0) x13 (.int 0) (.long co) (.int pr) x17 x18 x19 x20 x21 x22 T12.heap n0 Z12 I12 G12 gn_r0 (own_I.ne I12 6 2 rfl rfl (by decide)) (own_I.ne I12 6 5 rfl rfl (by decide))) hZ (own_w hw 49 rfl) (own_w hw 7 rfl) (by decide) (by decide)) (g := (mkF m 223 #[.val (.ref r0), .val (.ref u), .val (.int p2), .val (.int p3), .val (.ref en), .val (.int qi)] [(.ref r0)])) rfl (by rw [hml]; rfl) (Steps.refl _) (a := r0) (by rw [e22]; exact qk23) qk23' (argsL := []) (rest := []) (lenOf pd10 rfl) rfl (by show 2 * 0 + _ ≤ _; exact Nat.le_of_eq rfl) (hb hby d3_223) (fun _ _ => ⟨rfl, e22, (by decide : 0 + 0 ≤ _), (by decide : 0 + 0 ≤ _)⟩)
    dsimp only [Pt.U, Pt.locs, Pt.cells, Pt.slots] at X23 l23 y23 z23 st23 hQ23
    subst l23 y23 z23
    obtain ⟨rfl, Nq23, e23⟩ := hQ23
    have N23 := Fr.app N12 Nq23
    refine own_g (T23.setTop (mkF m 226 #[.val (.ref r0), .val (.ref u), .val (.int p2), .val (.int p3), .val (.ref en), .val (.int qi)] [(.int 0)])) (fun _ k => st23.trans k) ?_
    refine own_g (T23.setTop (mkF m 255 #[.val (.ref r0), .val (.ref u), .val (.int p2), .val (.int p3), .val (.ref en), .val (.int qi)] [])) (fun _ k => XS.ifYes X23.here hx rfl (pc0 := 226) (pc' := 255) rfl (hb hby d3_226) rfl ((if0 _ _).trans (teq (by decide : (0 : Int32) = (0 : Int32))).1) (by decide) (by decide) k) ?_
    refine own_g (T23.setTop (mkF m 256 #[.val (.ref r0), .val (.ref u), .val (.int p2), .val (.int p3), .val (.ref en), .val (.int qi)] [(.ref r0)])) (fun _ k => XS.aloadN X23.here hx rfl (hb hby d3_255) rfl rfl k) ?_
    refine own_g (T23.setTop (mkF m 257 #[.val (.ref r0), .val (.ref u), .val (.int p2), .val (.int p3), .val (.ref en), .val (.int qi)] [(.ref r0), (.ref r0)])) (fun _ k => XS.aloadN X23.here hx rfl (hb hby d3_256) rfl rfl k) ?_
    refine own_g (T23.setTop (mkF m 259 #[.val (.ref r0), .val (.ref u), .val (.int p2), .val (.int p3), .val (.ref en), .val (.int qi)] [(.int qi), (.ref r0), (.ref r0)])) (fun _ k => XS.iload X23.here hx rfl (hb hby d3_257) rfl k) ?_
    obtain ⟨cq24, qk24, qk24'⟩ := G12.1.cell
    obtain ⟨_, _, ⟨T24, L24, k24, n24⟩, -, X24, ⟨Lc24, hQ24, l24, y24, z24⟩, st24⟩ := X23.privateBack hx (y := (⟨"com/example/corridor/corridor/iso20022/MarkupScanner", "offsetAt", "(I)J"⟩ : MethodName)) hown (mvT hZ (own_w hw 136 rfl)) (mvT hZ (own_w hw 137 rfl)) (mvT hZ (own_selPriv (own_w hw 137 rfl) (own_w hw 138 rfl) (own_w hw 30 rfl) rfl (by decide))) (Cond.privateMethod_at (mvP hZ (own_w hw 138 rfl) (args := #[]))) (mvT hZ (own_w hw 139 rfl)) (by decide) (backOf (W := 1) (off l Z a0 hw [] r0 qi u ku cu en EC w sa (.ref (sa 9)) x1 (.int (-1)) x3 x4 (.ref u) p2 (.long of) of (.ref en) w (.int 1) (.int 0) x13 (.int 0) (.long co) (.int pr) x17 x18 x19 x20 x21 x22 T12.heap n0 Z12 I12 G12 gn_r0) hZ (own_w hw 139 rfl) (own_w hw 7 rfl) (by decide) (by decide)) (g := (mkF m 259 #[.val (.ref r0), .val (.ref u), .val (.int p2), .val (.int p3), .val (.ref en), .val (.int qi)] [(.int qi), (.ref r0), (.ref r0)])) rfl (by rw [hml]; rfl) (Steps.refl _) (a := r0) (by rw [e23]; exact qk24) qk24' (argsL := [(.int qi)]) (rest := [(.ref r0)]) (lenOf pd6 rfl) rfl (by show 2 * 0 + _ ≤ _; exact Nat.le_of_eq rfl) (hb hby d3_259) (fun _ _ => ⟨rfl, e23, (by decide : 0 + 0 ≤ _), (by decide : 0 + 0 ≤ _)⟩)
    dsimp only [Pt.U, Pt.locs, Pt.cells, Pt.slots] at X24 l24 y24 z24 st24 hQ24
    subst l24 y24 z24
    obtain ⟨rfl, Nq24, e24⟩ := hQ24
    have N24 := Fr.app N23 Nq24
    refine own_g (T24.setTop (mkF m 262 #[.val (.ref r0), .val (.ref u), .val (.int p2), .val (.int p3), .val (.ref en), .val (.int qi)] [(.long (of + (((qi - p2).toInt64) * (w.toInt64)))), (.ref r0)])) (fun _ k => st24.trans k) ?_
    obtain ⟨T25, h25, X25, e25, W25, st25⟩ := putF X24 hx hZ hown (host := "") (Or.inl (own_w hw 36 rfl)) Via.refl e24 (own_Gf G12 7 rfl rfl) G12.1 (Or.inl (own_w hw 37 rfl)) (own_w hw 6 rfl) (ty := .long) (by decide) rfl rfl (g := (mkF m 262 #[.val (.ref r0), .val (.ref u), .val (.int p2), .val (.int p3), .val (.ref en), .val (.int qi)] [(.long (of + (((qi - p2).toInt64) * (w.toInt64)))), (.ref r0)])) rfl rfl (hb hby d3_262)
    have G25 : own_G Z h25 r0 [(.ref (sa 9)), x1, (.int (-1)), x3, x4, (.ref u), (.int p2), (.long (of + (((qi - p2).toInt64) * (w.toInt64)))), (.long of), (.ref en), (.int w), (.int 1), (.int 0), x13, (.int 0), (.long co), (.int pr), x17, x18, x19, x20, x21, x22] := own_G.put hw G12 7 rfl (Nat.le_of_ble_eq_true rfl) W25
    have I25 : own_I Z h25 r0 u ku cu en EC w sa := I12.wr W25 G12.1
    have N25 := Fr.snoc X25 N24 gn_r0
    have Z25 : n0 ≤ h25.size := Nat.le_trans Z12 (Keep.of_wr W25).1
    have K25 : Keep h0 h25 [r0] := K12.wr W25 (Or.inl (List.mem_of_getElem? (i := 0) rfl))
    refine own_g (T25.setTop (mkF m 265 #[.val (.ref r0), .val (.ref u), .val (.int p2), .val (.int p3), .val (.ref en), .val (.int qi)] [])) (st25) ?_
    refine own_g (T25.setTop (mkF m 266 #[.val (.ref r0), .val (.ref u), .val (.int p2), .val (.int p3), .val (.ref en), .val (.int qi)] [(.ref r0)])) (fun _ k => XS.aloadN X25.here hx rfl (hb hby d3_265) rfl rfl k) ?_
    obtain ⟨T26, X26, e26, st26⟩ := getF X25 hx hZ hown (host := "") (Or.inl (own_w hw 73 rfl)) Via.refl e25 (own_Gf G25 12 rfl rfl) (g := (mkF m 266 #[.val (.ref r0), .val (.ref u), .val (.int p2), .val (.int p3), .val (.ref en), .val (.int qi)] [(.ref r0)])) rfl rfl (hb hby d3_266)
    refine own_g (T26.setTop (mkF m 269 #[.val (.ref r0), .val (.ref u), .val (.int p2), .val (.int p3), .val (.ref en), .val (.int qi)] [(.int 0)])) (st26) ?_
    refine own_g (T26.setTop (mkF m 293 #[.val (.ref r0), .val (.ref u), .val (.int p2), .val (.int p3), .val (.ref en), .val (.int qi)] [])) (fun _ k => XS.ifYes X26.here hx rfl (pc0 := 269) (pc' := 293) rfl (hb hby d3_269) rfl ((if0 _ _).trans (teq (by decide : (0 : Int32) = (0 : Int32))).1) (by decide) (by decide) k) ?_
    refine own_g (T26.setTop (mkF m 295 #[.val (.ref r0), .val (.ref u), .val (.int p2), .val (.int p3), .val (.ref en), .val (.int qi)] [(.int qi)])) (fun _ k => XS.iload X26.here hx rfl (hb hby d3_293) rfl k) ?_
    exact own_retI X26 hx Bd.returns (hb hby d3_295) Bd.notSynchronized (by decide) (by decide) (by rw [e26]; exact ⟨_, rfl, N25, K25, G25⟩)
/-- what the law reckons: w bytes a unit, l units to a cut, n of them in the third call -/
def own_W (w l n : Int32) : Prop := ((w.toInt = 1 ∧ l.toInt = 8192) ∨ (w.toInt = 2 ∧ l.toInt = 4096)) ∧ 1 ≤ n.toInt ∧ n.toInt ≤ l.toInt
theorem own_wl {w l : Int32} (h : w = (1 : Int32) ∨ w = (2 : Int32)) (hl : (8192 : Int32) / w = l) : (w.toInt = 1 ∧ l.toInt = 8192) ∨ (w.toInt = 2 ∧ l.toInt = 4096) := by
  subst hl
  rcases h with rfl | rfl
  · exact Or.inl (by decide)
  · exact Or.inr (by decide)
theorem own_Wof {w l n p : Int32} (h : w = (1 : Int32) ∨ w = (2 : Int32)) (hl : (8192 : Int32) / w = l) (hn : (1 : Int32) + ((p &&& (2147483647 : Int32)) % l) = n) : own_W w l n := by
  have a := own_wl h hl
  have a2 := c_mask p 2147483647 31 (by decide) (by decide)
  have a3 := (c_iremV (p &&& 2147483647) l).1 (by rw [a2]; omega) (by omega)
  have a4 := c_iadd 1 ((p &&& 2147483647) % l)
  rw [hn, show (1 : Int32).toInt = 1 from rfl] at a4
  have r := rng32 n
  exact ⟨a, by omega, by omega⟩
theorem own_lnz {w l : Int32} (h : w = (1 : Int32) ∨ w = (2 : Int32)) (hl : (8192 : Int32) / w = l) : l ≠ 0 := by
  intro q
  have a := own_wl h hl
  rw [q, show (0 : Int32).toInt = 0 from rfl] at a
  omega
theorem own_wnz {w : Int32} (h : w = (1 : Int32) ∨ w = (2 : Int32)) : w ≠ 0 := by rcases h with rfl | rfl <;> decide
theorem own_k3 {p v : Int32} (h : (p &&& (2147483647 : Int32)) % (3 : Int32) = v) (h0 : ¬ v = (0 : Int32)) (h1 : ¬ v = (1 : Int32)) : v = (2 : Int32) := by
  have a2 := c_mask p 2147483647 31 (by decide) (by decide)
  have a3 := (c_irem (p &&& 2147483647) 3 3 (by decide)).1 (by rw [a2]; omega)
  rw [h] at a3
  rw [own_ie, show (0 : Int32).toInt = 0 from rfl] at h0
  rw [own_ie, show (1 : Int32).toInt = 1 from rfl] at h1
  rw [own_ie, show (2 : Int32).toInt = 2 from rfl]
  omega
theorem own_s9 {w l n : Int32} (H : own_W w l n) : ((9 : Int32) + l).toInt = 9 + l.toInt := by
  have := H.1; rw [own_add (by decide) (by decide) (by omega) (by omega), show (9 : Int32).toInt = 9 from rfl]
theorem own_s10 {w l n : Int32} (H : own_W w l n) : ((10 : Int32) + l).toInt = 10 + l.toInt := by
  have := H.1; rw [own_add (by decide) (by decide) (by omega) (by omega), show (10 : Int32).toInt = 10 from rfl]
theorem own_s9n {w l n : Int32} (H : own_W w l n) : (((9 : Int32) + l) + n).toInt = 9 + l.toInt + n.toInt := by
  have a := H.1; have b := H.2; have e := own_s9 H; rw [own_add (by omega) (by omega) (by omega) (by omega), e]
theorem own_2l {w l n : Int32} (H : own_W w l n) : ((2 : Int32) * l).toInt = 2 * l.toInt := by
  have a := c_imul 2 l
  have r := rng32 (2 * l)
  have := H.1
  rw [show (2 : Int32).toInt = 2 from rfl] at a
  omega
theorem own_s92 {w l n : Int32} (H : own_W w l n) : ((9 : Int32) + ((2 : Int32) * l)).toInt = 9 + 2 * l.toInt := by
  have a := H.1; have e := own_2l H; rw [own_add (by decide) (by decide) (by omega) (by omega), e, show (9 : Int32).toInt = 9 from rfl]
theorem own_s102 {w l n : Int32} (H : own_W w l n) : ((10 : Int32) + ((2 : Int32) * l)).toInt = 10 + 2 * l.toInt := by
  have a := H.1; have e := own_2l H; rw [own_add (by decide) (by decide) (by omega) (by omega), e, show (10 : Int32).toInt = 10 from rfl]
theorem own_w12 {w l n : Int32} (H : own_W w l n) : w.toInt = 1 ∨ w.toInt = 2 := by have := H.1; omega
theorem own_oC {w l n : Int32} (H : own_W w l n) (k : Int32) (h0 : 0 ≤ k.toInt) (h1 : k.toInt ≤ 16394) : ((0 : Int64) + (((k - (0 : Int32)).toInt64) * (w.toInt64))).toInt = k.toInt * w.toInt := by
  rw [own_offset (own_w12 H) (by decide) (by decide) (by decide) (by rw [show (0 : Int32).toInt = 0 from rfl]; exact h0) h1, show (0 : Int64).toInt = 0 from rfl, show (0 : Int32).toInt = 0 from rfl, Int.sub_zero, Int.zero_add]
theorem own_HC2 {w l n : Int32} (H : own_W w l n) : own_C ((0 : Int64) + ((((10 : Int32) - (0 : Int32)).toInt64) * (w.toInt64))) ((0 : Int64) + ((((9 : Int32) - (0 : Int32)).toInt64) * (w.toInt64))) (10 : Int32) w ((9 : Int32) + l) := by
  have a := H.1
  refine ⟨own_w12 H, by decide, ?_, ?_, ?_⟩
  · rw [own_s9 H, show (10 : Int32).toInt = 10 from rfl]; omega
  · rw [own_s9 H]; omega
  · rw [own_oC H 10 (by decide) (by decide), own_oC H 9 (by decide) (by decide), own_s9 H, show (10 : Int32).toInt = 10 from rfl, show (9 : Int32).toInt = 9 from rfl]
    rcases a with ⟨q, r⟩ | ⟨q, r⟩
    · rw [q, r]; omega
    · rw [q, r]; omega
def own_o2 (w l : Int32) : Int64 := ((0 : Int64) + ((((10 : Int32) - (0 : Int32)).toInt64) * (w.toInt64))) + (((((9 : Int32) + l) - (10 : Int32)).toInt64) * (w.toInt64))
theorem own_o2v {w l n : Int32} (H : own_W w l n) : (own_o2 w l).toInt = (9 + l.toInt) * w.toInt := by
  have a := H.1
  unfold own_o2
  rw [own_offset (own_w12 H) (by rw [own_oC H 10 (by decide) (by decide), show (10 : Int32).toInt = 10 from rfl]; omega) (by rw [own_oC H 10 (by decide) (by decide), show (10 : Int32).toInt = 10 from rfl]; omega) (by decide) (by rw [own_s9 H, show (10 : Int32).toInt = 10 from rfl]; omega) (by rw [own_s9 H]; omega), own_oC H 10 (by decide) (by decide), own_s9 H, show (10 : Int32).toInt = 10 from rfl]
  rcases a with ⟨q, r⟩ | ⟨q, r⟩
  · rw [q, r]; omega
  · rw [q, r]; omega
theorem own_HC3 {w l n : Int32} (H : own_W w l n) : own_C (own_o2 w l) (own_o2 w l) ((9 : Int32) + l) w ((9 : Int32) + ((2 : Int32) * l)) := by
  have a := H.1
  have e := own_o2v H
  refine ⟨own_w12 H, ?_, ?_, ?_, ?_⟩
  · rw [own_s9 H]; omega
  · rw [own_s9 H, own_s92 H]; omega
  · rw [own_s92 H]; omega
  · rw [e, own_s9 H, own_s92 H]
    rcases a with ⟨q, r⟩ | ⟨q, r⟩
    · rw [q, r]; omega
    · rw [q, r]; omega
def own_o3 (w l n : Int32) : Int64 := (own_o2 w l) + ((((((9 : Int32) + l) + n) - ((9 : Int32) + l)).toInt64) * (w.toInt64))
theorem own_o3v {w l n : Int32} (H : own_W w l n) : (own_o3 w l n).toInt = (9 + l.toInt + n.toInt) * w.toInt := by
  have a := H.1
  have b := H.2
  have e := own_o2v H
  unfold own_o3
  rw [own_offset (own_w12 H) (by rw [e]; rcases a with ⟨q, r⟩ | ⟨q, r⟩ <;> (rw [q, r]; omega)) (by rw [e]; rcases a with ⟨q, r⟩ | ⟨q, r⟩ <;> (rw [q, r]; omega)) (by rw [own_s9 H]; omega) (by rw [own_s9 H, own_s9n H]; omega) (by rw [own_s9n H]; omega), e, own_s9 H, own_s9n H]
  rcases a with ⟨q, r⟩ | ⟨q, r⟩
  · rw [q, r]; omega
  · rw [q, r]; omega
theorem own_HC4 {w l n : Int32} (H : own_W w l n) : own_C (own_o3 w l n) (own_o2 w l) (((9 : Int32) + l) + n) w ((9 : Int32) + ((2 : Int32) * l)) := by
  have a := H.1
  have b := H.2
  have e := own_o2v H
  have f := own_o3v H
  refine ⟨own_w12 H, ?_, ?_, ?_, ?_⟩
  · rw [own_s9n H]; omega
  · rw [own_s9n H, own_s92 H]; omega
  · rw [own_s92 H]; omega
  · rw [e, f, own_s9n H, own_s92 H]
    rcases a with ⟨q, r⟩ | ⟨q, r⟩
    · rw [r] at b; rw [q, r]; omega
    · rw [r] at b; rw [q, r]; omega
theorem own_cutAt {w l n : Int32} {v : Int64} (H : own_W w l n) (hv : (((9 : Int32) + l).toInt64) * (w.toInt64) = v) : lcmpW (own_o2 w l) v = (0 : Int32) := by
  rw [lw_eq, ← hv]
  apply Int64.toInt_inj.mp
  rw [own_o2v H, own_mulw _ (own_w12 H), own_s9 H]
theorem own_nilS {Z : State} {EL : List (String × Nat)} {vm : Vm} {h : Heap} : ∀ x ∈ ([] : List Addr), Safe Z EL vm h x := fun x hx => by cases hx
theorem own_chr {x v : Int32} (h : ((x &&& (255 : Int32)).toUInt32.toUInt16.toUInt32.toInt32) = v) : nar .char v = v := by
  have m := c_mask x 255 8 (by decide) (by decide)
  have c1 := c_i2c (x &&& 255)
  have c2 := c_i2c v
  rw [h] at c1
  apply Int32.toInt_inj.mp
  show (v.toUInt32.toUInt16.toUInt32.toInt32).toInt = _
  omega
theorem own_l13 {c : Int32} (h : c = (13 : Int32)) : (2 : Int64) = own_lx c (1 : Int64) := by subst h; decide
theorem own_l10 {c : Int32} (h : c = (10 : Int32)) : (2 : Int64) = own_lx c (1 : Int64) := by subst h; decide
theorem own_lno {c : Int32} (h1 : ¬ c = (13 : Int32)) (h2 : ¬ c = (10 : Int32)) : (1 : Int64) = own_lx c (1 : Int64) := by simp [own_lx, F_el, h1, h2]
theorem own_ord {t : Term} {C n dd : String} {k : Int32} {args : Array Value} {s : State} {a : Addr} (h : (Cond.eq (.field t C n dd) (.int k)).value args s none s [] = some true) (ht : t.eval args s none [] s = some (.ref a)) : Fld s s.heap a C n dd (.int k) := by
  obtain ⟨x, y, h1, h2, -, k2⟩ := cmp_v (Or.inl h)
  have e2 : y = .int k := (Option.some.inj h2).symm
  subst e2
  obtain ⟨z, rfl⟩ := k2
  have e3 : (Cond.eq (.field t C n dd) (.int k)).value args s none s [] = some (decide (z = k)) := by simp [Cond.value, h1, h2]
  have e4 : z = k := gotT e3 h
  subst e4
  rw [fld_at ht] at h1
  exact Fld.start h1
def own_sa (a0 a1 a2 a3 a5 a7 a9 : Addr) (k : Nat) : Addr := match k with | 0 => a0 | 1 => a1 | 2 => a2 | 3 => a3 | 5 => a5 | 7 => a7 | _ => a9
theorem own_J.of {Z : State} {h : Heap} {b : Nat} {en a0 a1 a2 a3 a5 a7 a9 : Addr} {EC : String} {w : Int32} (S0 : Sta Z h "com/example/corridor/corridor/iso20022/MarkupScanner$State" "TEXT" "Lcom/example/corridor/corridor/iso20022/MarkupScanner$State;" (.ref a0)) (E0 : Exa Z h a0 "com/example/corridor/corridor/iso20022/MarkupScanner$State") (O0 : Fld Z h a0 "java/lang/Enum" "ordinal" "I" (.int 0)) (L0 : a0 < b) (S1 : Sta Z h "com/example/corridor/corridor/iso20022/MarkupScanner$State" "OPEN" "Lcom/example/corridor/corridor/iso20022/MarkupScanner$State;" (.ref a1)) (E1 : Exa Z h a1 "com/example/corridor/corridor/iso20022/MarkupScanner$State") (O1 : Fld Z h a1 "java/lang/Enum" "ordinal" "I" (.int 1)) (L1 : a1 < b) (S2 : Sta Z h "com/example/corridor/corridor/iso20022/MarkupScanner$State" "TAG" "Lcom/example/corridor/corridor/iso20022/MarkupScanner$State;" (.ref a2)) (E2 : Exa Z h a2 "com/example/corridor/corridor/iso20022/MarkupScanner$State") (O2 : Fld Z h a2 "java/lang/Enum" "ordinal" "I" (.int 2)) (L2 : a2 < b) (S3 : Sta Z h "com/example/corridor/corridor/iso20022/MarkupScanner$State" "BANG" "Lcom/example/corridor/corridor/iso20022/MarkupScanner$State;" (.ref a3)) (E3 : Exa Z h a3 "com/example/corridor/corridor/iso20022/MarkupScanner$State") (O3 : Fld Z h a3 "java/lang/Enum" "ordinal" "I" (.int 3)) (L3 : a3 < b) (S5 : Sta Z h "com/example/corridor/corridor/iso20022/MarkupScanner$State" "CDATA_OPEN" "Lcom/example/corridor/corridor/iso20022/MarkupScanner$State;" (.ref a5)) (E5 : Exa Z h a5 "com/example/corridor/corridor/iso20022/MarkupScanner$State") (O5 : Fld Z h a5 "java/lang/Enum" "ordinal" "I" (.int 5)) (L5 : a5 < b) (S7 : Sta Z h "com/example/corridor/corridor/iso20022/MarkupScanner$State" "PROCESSING_INSTRUCTION" "Lcom/example/corridor/corridor/iso20022/MarkupScanner$State;" (.ref a7)) (E7 : Exa Z h a7 "com/example/corridor/corridor/iso20022/MarkupScanner$State") (O7 : Fld Z h a7 "java/lang/Enum" "ordinal" "I" (.int 7)) (L7 : a7 < b) (S9 : Sta Z h "com/example/corridor/corridor/iso20022/MarkupScanner$State" "CDATA" "Lcom/example/corridor/corridor/iso20022/MarkupScanner$State;" (.ref a9)) (E9 : Exa Z h a9 "com/example/corridor/corridor/iso20022/MarkupScanner$State") (O9 : Fld Z h a9 "java/lang/Enum" "ordinal" "I" (.int 9)) (L9 : a9 < b) (En : Exa Z h en EC) (Fn : Fld Z h en "com/example/corridor/corridor/iso20022/MarkupScanner$Encoding" "width" "I" (.int w)) (Ln : en < b) : own_J Z h b en EC w (own_sa a0 a1 a2 a3 a5 a7 a9) := by
  refine ⟨fun i q hq => ?_, En, Fn, Ln⟩
  match i, hq with
  | 0, hq => cases hq; exact ⟨S0, E0, O0, L0⟩
  | 1, hq => cases hq; exact ⟨S1, E1, O1, L1⟩
  | 2, hq => cases hq; exact ⟨S2, E2, O2, L2⟩
  | 3, hq => cases hq; exact ⟨S3, E3, O3, L3⟩
  | 4, hq => cases hq; exact ⟨S5, E5, O5, L5⟩
  | 5, hq => cases hq; exact ⟨S7, E7, O7, L7⟩
  | 6, hq => cases hq; exact ⟨S9, E9, O9, L9⟩
  | (k + 7), hq => exact absurd hq (by simp [own_ss])
theorem pn0 : plainName "com/example/corridor/corridor/iso20022/MarkupScannerCutPinLaw" = true := by first | (simp [plainName, overriddenIn]; done) | decide +kernel
theorem pd15 : parseMethodDescriptor "()V" = some ⟨[], none⟩ := by decide +kernel
theorem pd16 : parseMethodDescriptor "([CIILcom/example/corridor/corridor/iso20022/MarkupScanner$Encoding;)I" = some ⟨[(.array .char), .int, .int, (.object "com/example/corridor/corridor/iso20022/MarkupScanner$Encoding")], some .int⟩ := by decide +kernel
theorem pd17 : parseMethodDescriptor "()J" = some ⟨[], some .long⟩ := by decide +kernel
theorem ef_rm0 (m : MethodId) (p0 : Int32) (p1 : Int32) (p2 : Int32) : entryFrame m #[(.int p0), (.int p1), (.int p2)] maxLocals = mkF m 0 #[.val (.int p0), .val (.int p1), .val (.int p2), .unset, .unset, .unset, .unset, .unset, .unset, .unset, .unset, .unset, .unset, .unset, .unset, .unset, .unset, .unset, .unset, .unset] [] := by first | (simp [entryFrame, mkF, argsToLocals, Value.category, maxLocals]; done) | rfl
set_option maxRecDepth 65536 in
set_option maxHeartbeats 40000000 in
theorem rm0 (l : Launch) (Z : State) (a0 : Array Value) (hw : ∀ d ∈ tables_1, d.before a0 Z = true) (ws : List Jvm.Cond) (p0 : Int32) (p1 : Int32) (p2 : Int32) (wC : Int32) (wF : Value) (sa : Nat → Addr) (s_BYTES : Addr) (s_UTF_8 : Addr) (s_UTF_16 : Addr) (h0 : Heap) (n0 : Nat) (Z0 : n0 ≤ h0.size) (hEL : EW Z a0 own_EL) (hStr : ∀ a ∈ Bundle.stringAtoms, a.before a0 Z = true) (S_C : Sta Z h0 "java/lang/String" "COMPACT_STRINGS" "Z" (.int wC)) (hC : ¬ (wC = (0 : Int32))) (S_F : Sta Z h0 "jdk/internal/util/Preconditions" "SIOOBE_FORMATTER" "Ljava/util/function/BiFunction;" wF) (hG : wF.isRef = true) (S_BYTES : Sta Z h0 "com/example/corridor/corridor/iso20022/MarkupScanner$Encoding" "BYTES" "Lcom/example/corridor/corridor/iso20022/MarkupScanner$Encoding;" (.ref s_BYTES)) (S_UTF_8 : Sta Z h0 "com/example/corridor/corridor/iso20022/MarkupScanner$Encoding" "UTF_8" "Lcom/example/corridor/corridor/iso20022/MarkupScanner$Encoding;" (.ref s_UTF_8)) (S_UTF_16 : Sta Z h0 "com/example/corridor/corridor/iso20022/MarkupScanner$Encoding" "UTF_16" "Lcom/example/corridor/corridor/iso20022/MarkupScanner$Encoding;" (.ref s_UTF_16)) (J_BYTES : own_J Z h0 h0.size s_BYTES "com/example/corridor/corridor/iso20022/MarkupScanner$Encoding" (1 : Int32) sa) (J_UTF_8 : own_J Z h0 h0.size s_UTF_8 "com/example/corridor/corridor/iso20022/MarkupScanner$Encoding$1" (1 : Int32) sa) (J_UTF_16 : own_J Z h0 h0.size s_UTF_16 "com/example/corridor/corridor/iso20022/MarkupScanner$Encoding$2" (2 : Int32) sa) :
    MetFree l x (head1 (Jvm.Cond.code x code maxLocals ret :: ws) room_1) (fun a U => a = #[(.int p0), (.int p1), (.int p2)] ∧ Z.Warmed39 U.vm ∧ U.heap = h0 ∧ CHv Z own_EL U.vm h0) (fun _ _ _ _ _ => True) (fun _ U o U' => ∃ v L, o = .returned v ∧ (own_True n0) v U'.heap L ∧ CHr Z own_EL U.vm U.heap U'.vm U'.heap ∧ ReturnedEndW U o U' L 16 33984) := by
  refine MetFree.of_bodySF (plainFor_of_name pn0) hisR ?_
  intro p e s m args below meth c s₁ Bd hml0 hP hK
  obtain ⟨rfl, hZ, hh, hCH⟩ := hP
  have hx := Bd.exec
  have hby := Bd.bytes
  have hml : c.maxLocals = 20 := hml0
  have hown : s.vm.findClass "com/example/corridor/corridor/iso20022/MarkupScannerCutPinLaw" = some m.cls := findClass_of_methodNamed Bd.named
  have hnm := (name_of_methodNamed Bd.named Bd.method).1
  have X0 : Stand p l e room_1 (s.setVm s.vm) m #[(.int p0), (.int p1), (.int p2)] below meth c s₁ [] 0 0 := Stand.of_body Bd
  have e0 : s₁.heap = h0 := by rw [← hh, Bd.state]; rfl
  have N0 := Fr.nil n0
  have hS0 : s.Since s.vm 0 := (State.WarmedH.refl s).since 0
  have hC0 : CHr Z own_EL s.vm s.heap s.vm h0 := by rw [hh]; exact CHr.refl hCH
  have K0 : Keep h0 h0 [] := Keep.refl h0 []
  have seg311 : ∀ (v1 : Int32) (en : Addr) (w : Int32) (v2 : Int32) (v3 : Int32) (b4 : Addr) (v15 : Int32) (v16 : Int64) (v17 : Int64) (b18 : Addr) (v22 : Int32) (v28 : Int32) (v30 : Int32) (EC : String) (k4 : ClassId) (pv29 : Int32) (T : State) (locs : List Loc) (h : Heap) (vm : Vm) (k0 : Nat) (HW : own_W w v2 v15) (hEC : EC = "com/example/corridor/corridor/iso20022/MarkupScanner$Encoding" ∨ EC = "com/example/corridor/corridor/iso20022/MarkupScanner$Encoding$1" ∨ EC = "com/example/corridor/corridor/iso20022/MarkupScanner$Encoding$2") (gn_b18 : n0 ≤ b18) (hv16 : (own_lx v3 (1 : Int64)) = v16) (hv17 : ((((9 : Int32) + v2).toInt64) * (w.toInt64)) = v17) (hv22 : ((9 : Int32) + v2) = v22) (hv28 : (((9 : Int32) + v2) + v15) = v28) (hv30 : ((9 : Int32) + ((2 : Int32) * v2)) = v30) (X : Stand p l e room_1 (s.setVm vm) m #[(.int p0), (.int p1), (.int p2)] below meth c T locs 14 16586) (eT : T.heap = h) (N : Fr n0 locs) (Zh : n0 ≤ h.size) (Ih : own_I Z h b18 b4 k4 v3 en EC w sa) (Gh : own_G Z h b18 [(.ref (sa 9)), (.int 0), (.int (-1)), (.long (own_lx v3 (1 : Int64))), (.long (own_lx v3 (1 : Int64))), (.ref b4), (.int (((9 : Int32) + v2) + v15)), (.long ((own_o3 w v2 v15) + (((((9 : Int32) + ((2 : Int32) * v2)) - (((9 : Int32) + v2) + v15)).toInt64) * (w.toInt64)))), (.long (own_o3 w v2 v15)), (.ref en), (.int w), (.int 1), (.int 0), (.int 6), (.int 0), (.long (own_o2 w v2)), (.int pv29), (.long (own_o2 w v2)), (.int 0), (.int 0), (.int 0), (.int 0), (.int 0)]) (hS : s.Since vm k0) (hk : k0 ≤ h.size) (hZ : Z.Warmed39 (s.setVm vm).vm) (hown : (s.setVm vm).vm.findClass "com/example/corridor/corridor/iso20022/MarkupScannerCutPinLaw" = some m.cls) (hCv : CHr Z own_EL s.vm s.heap vm h), own_Goes p e below (own_EndW s Z own_EL (own_True n0) 16 33984) (T.setTop (mkF m 311 #[.val (.int p0), .val (.int p1), .val (.int p2), .val (.int v1), .val (.ref en), .val (.int w), .val (.int v2), .val (.int v3), .val (.ref b4), .val (.int v15), .val (.long v16), .second, .val (.long v17), .second, .val (.ref b18), .val (.int 10), .val (.int v22), .val (.int 1), .val (.int v28), .val (.int v30)] [])) := by
    intro v1 en w v2 v3 b4 v15 v16 v17 b18 v22 v28 v30 EC k4 pv29 T locs h vm k0 HW hEC gn_b18 hv16 hv17 hv22 hv28 hv30 X eT N Zh Ih Gh hS hk hZ hown hCv
    refine own_g (T.setTop (mkF m 313 #[.val (.int p0), .val (.int p1), .val (.int p2), .val (.int v1), .val (.ref en), .val (.int w), .val (.int v2), .val (.int v3), .val (.ref b4), .val (.int v15), .val (.long v16), .second, .val (.long v17), .second, .val (.ref b18), .val (.int 10), .val (.int v22), .val (.int 1), .val (.int v28), .val (.int v30)] [(.int 10)])) (fun _ k => XS.iload X.here hx rfl (hb hby at_311) rfl k) ?_
    refine own_g (T.setTop (mkF m 315 #[.val (.int p0), .val (.int p1), .val (.int p2), .val (.int v1), .val (.ref en), .val (.int w), .val (.int v2), .val (.int v3), .val (.ref b4), .val (.int v15), .val (.long v16), .second, .val (.long v17), .second, .val (.ref b18), .val (.int 10), .val (.int v22), .val (.int 1), .val (.int v28), .val (.int v30)] [(.int 10), (.int 10)])) (fun _ k => XS.bipush X.here hx rfl (hb hby at_313) k) ?_
    refine own_g (T.setTop (mkF m 318 #[.val (.int p0), .val (.int p1), .val (.int p2), .val (.int v1), .val (.ref en), .val (.int w), .val (.int v2), .val (.int v3), .val (.ref b4), .val (.int v15), .val (.long v16), .second, .val (.long v17), .second, .val (.ref b18), .val (.int 10), .val (.int v22), .val (.int 1), .val (.int v28), .val (.int v30)] [])) (fun _ k => XS.icmpNo X.here hx rfl (hb hby at_315) rfl (teq (by decide : (10 : Int32) = (10 : Int32))).2 k) ?_
    refine own_g (T.setTop (mkF m 320 #[.val (.int p0), .val (.int p1), .val (.int p2), .val (.int v1), .val (.ref en), .val (.int w), .val (.int v2), .val (.int v3), .val (.ref b4), .val (.int v15), .val (.long v16), .second, .val (.long v17), .second, .val (.ref b18), .val (.int 10), .val (.int v22), .val (.int 1), .val (.int v28), .val (.int v30)] [(.int v22)])) (fun _ k => XS.iload X.here hx rfl (hb hby at_318) rfl k) ?_
    refine own_g (T.setTop (mkF m 322 #[.val (.int p0), .val (.int p1), .val (.int p2), .val (.int v1), .val (.ref en), .val (.int w), .val (.int v2), .val (.int v3), .val (.ref b4), .val (.int v15), .val (.long v16), .second, .val (.long v17), .second, .val (.ref b18), .val (.int 10), .val (.int v22), .val (.int 1), .val (.int v28), .val (.int v30)] [(.int 9), (.int v22)])) (fun _ k => XS.bipush X.here hx rfl (hb hby at_320) k) ?_
    refine own_g (T.setTop (mkF m 324 #[.val (.int p0), .val (.int p1), .val (.int p2), .val (.int v1), .val (.ref en), .val (.int w), .val (.int v2), .val (.int v3), .val (.ref b4), .val (.int v15), .val (.long v16), .second, .val (.long v17), .second, .val (.ref b18), .val (.int 10), .val (.int v22), .val (.int 1), .val (.int v28), .val (.int v30)] [(.int v2), (.int 9), (.int v22)])) (fun _ k => XS.iload X.here hx rfl (hb hby at_322) rfl k) ?_
    refine own_g (T.setTop (mkF m 325 #[.val (.int p0), .val (.int p1), .val (.int p2), .val (.int v1), .val (.ref en), .val (.int w), .val (.int v2), .val (.int v3), .val (.ref b4), .val (.int v15), .val (.long v16), .second, .val (.long v17), .second, .val (.ref b18), .val (.int 10), .val (.int v22), .val (.int 1), .val (.int v28), .val (.int v30)] [(.int ((9 : Int32) + v2)), (.int v22)])) (fun _ k => XS.iadd X.here hx rfl (hb hby at_324) rfl k) ?_
    refine own_g (T.setTop (mkF m 328 #[.val (.int p0), .val (.int p1), .val (.int p2), .val (.int v1), .val (.ref en), .val (.int w), .val (.int v2), .val (.int v3), .val (.ref b4), .val (.int v15), .val (.long v16), .second, .val (.long v17), .second, .val (.ref b18), .val (.int 10), .val (.int v22), .val (.int 1), .val (.int v28), .val (.int v30)] [])) (fun _ k => XS.icmpNo X.here hx rfl (hb hby at_325) rfl (teq (hv22.symm : v22 = ((9 : Int32) + v2))).2 k) ?_
    refine own_g (T.setTop (mkF m 330 #[.val (.int p0), .val (.int p1), .val (.int p2), .val (.int v1), .val (.ref en), .val (.int w), .val (.int v2), .val (.int v3), .val (.ref b4), .val (.int v15), .val (.long v16), .second, .val (.long v17), .second, .val (.ref b18), .val (.int 10), .val (.int v22), .val (.int 1), .val (.int v28), .val (.int v30)] [(.int 1)])) (fun _ k => XS.iload X.here hx rfl (hb hby at_328) rfl k) ?_
    refine own_g (T.setTop (mkF m 333 #[.val (.int p0), .val (.int p1), .val (.int p2), .val (.int v1), .val (.ref en), .val (.int w), .val (.int v2), .val (.int v3), .val (.ref b4), .val (.int v15), .val (.long v16), .second, .val (.long v17), .second, .val (.ref b18), .val (.int 10), .val (.int v22), .val (.int 1), .val (.int v28), .val (.int v30)] [])) (fun _ k => XS.ifNo X.here hx rfl (hb hby at_330) rfl ((if0 _ _).trans (feq (by decide : ¬ ((1 : Int32) = (0 : Int32)))).1) k) ?_
    refine own_g (T.setTop (mkF m 335 #[.val (.int p0), .val (.int p1), .val (.int p2), .val (.int v1), .val (.ref en), .val (.int w), .val (.int v2), .val (.int v3), .val (.ref b4), .val (.int v15), .val (.long v16), .second, .val (.long v17), .second, .val (.ref b18), .val (.int 10), .val (.int v22), .val (.int 1), .val (.int v28), .val (.int v30)] [(.int v28)])) (fun _ k => XS.iload X.here hx rfl (hb hby at_333) rfl k) ?_
    refine own_g (T.setTop (mkF m 337 #[.val (.int p0), .val (.int p1), .val (.int p2), .val (.int v1), .val (.ref en), .val (.int w), .val (.int v2), .val (.int v3), .val (.ref b4), .val (.int v15), .val (.long v16), .second, .val (.long v17), .second, .val (.ref b18), .val (.int 10), .val (.int v22), .val (.int 1), .val (.int v28), .val (.int v30)] [(.int 9), (.int v28)])) (fun _ k => XS.bipush X.here hx rfl (hb hby at_335) k) ?_
    refine own_g (T.setTop (mkF m 339 #[.val (.int p0), .val (.int p1), .val (.int p2), .val (.int v1), .val (.ref en), .val (.int w), .val (.int v2), .val (.int v3), .val (.ref b4), .val (.int v15), .val (.long v16), .second, .val (.long v17), .second, .val (.ref b18), .val (.int 10), .val (.int v22), .val (.int 1), .val (.int v28), .val (.int v30)] [(.int v2), (.int 9), (.int v28)])) (fun _ k => XS.iload X.here hx rfl (hb hby at_337) rfl k) ?_
    refine own_g (T.setTop (mkF m 340 #[.val (.int p0), .val (.int p1), .val (.int p2), .val (.int v1), .val (.ref en), .val (.int w), .val (.int v2), .val (.int v3), .val (.ref b4), .val (.int v15), .val (.long v16), .second, .val (.long v17), .second, .val (.ref b18), .val (.int 10), .val (.int v22), .val (.int 1), .val (.int v28), .val (.int v30)] [(.int ((9 : Int32) + v2)), (.int v28)])) (fun _ k => XS.iadd X.here hx rfl (hb hby at_339) rfl k) ?_
    refine own_g (T.setTop (mkF m 342 #[.val (.int p0), .val (.int p1), .val (.int p2), .val (.int v1), .val (.ref en), .val (.int w), .val (.int v2), .val (.int v3), .val (.ref b4), .val (.int v15), .val (.long v16), .second, .val (.long v17), .second, .val (.ref b18), .val (.int 10), .val (.int v22), .val (.int 1), .val (.int v28), .val (.int v30)] [(.int v15), (.int ((9 : Int32) + v2)), (.int v28)])) (fun _ k => XS.iload X.here hx rfl (hb hby at_340) rfl k) ?_
    refine own_g (T.setTop (mkF m 343 #[.val (.int p0), .val (.int p1), .val (.int p2), .val (.int v1), .val (.ref en), .val (.int w), .val (.int v2), .val (.int v3), .val (.ref b4), .val (.int v15), .val (.long v16), .second, .val (.long v17), .second, .val (.ref b18), .val (.int 10), .val (.int v22), .val (.int 1), .val (.int v28), .val (.int v30)] [(.int (((9 : Int32) + v2) + v15)), (.int v28)])) (fun _ k => XS.iadd X.here hx rfl (hb hby at_342) rfl k) ?_
    refine own_g (T.setTop (mkF m 346 #[.val (.int p0), .val (.int p1), .val (.int p2), .val (.int v1), .val (.ref en), .val (.int w), .val (.int v2), .val (.int v3), .val (.ref b4), .val (.int v15), .val (.long v16), .second, .val (.long v17), .second, .val (.ref b18), .val (.int 10), .val (.int v22), .val (.int 1), .val (.int v28), .val (.int v30)] [])) (fun _ k => XS.icmpNo X.here hx rfl (hb hby at_343) rfl (teq (hv28.symm : v28 = (((9 : Int32) + v2) + v15))).2 k) ?_
    refine own_g (T.setTop (mkF m 348 #[.val (.int p0), .val (.int p1), .val (.int p2), .val (.int v1), .val (.ref en), .val (.int w), .val (.int v2), .val (.int v3), .val (.ref b4), .val (.int v15), .val (.long v16), .second, .val (.long v17), .second, .val (.ref b18), .val (.int 10), .val (.int v22), .val (.int 1), .val (.int v28), .val (.int v30)] [(.int v30)])) (fun _ k => XS.iload X.here hx rfl (hb hby at_346) rfl k) ?_
    refine own_g (T.setTop (mkF m 350 #[.val (.int p0), .val (.int p1), .val (.int p2), .val (.int v1), .val (.ref en), .val (.int w), .val (.int v2), .val (.int v3), .val (.ref b4), .val (.int v15), .val (.long v16), .second, .val (.long v17), .second, .val (.ref b18), .val (.int 10), .val (.int v22), .val (.int 1), .val (.int v28), .val (.int v30)] [(.int 9), (.int v30)])) (fun _ k => XS.bipush X.here hx rfl (hb hby at_348) k) ?_
    refine own_g (T.setTop (mkF m 351 #[.val (.int p0), .val (.int p1), .val (.int p2), .val (.int v1), .val (.ref en), .val (.int w), .val (.int v2), .val (.int v3), .val (.ref b4), .val (.int v15), .val (.long v16), .second, .val (.long v17), .second, .val (.ref b18), .val (.int 10), .val (.int v22), .val (.int 1), .val (.int v28), .val (.int v30)] [(.int 2), (.int 9), (.int v30)])) (fun _ k => XS.iconst X.here hx rfl (hb hby at_350) k) ?_
    refine own_g (T.setTop (mkF m 353 #[.val (.int p0), .val (.int p1), .val (.int p2), .val (.int v1), .val (.ref en), .val (.int w), .val (.int v2), .val (.int v3), .val (.ref b4), .val (.int v15), .val (.long v16), .second, .val (.long v17), .second, .val (.ref b18), .val (.int 10), .val (.int v22), .val (.int 1), .val (.int v28), .val (.int v30)] [(.int v2), (.int 2), (.int 9), (.int v30)])) (fun _ k => XS.iload X.here hx rfl (hb hby at_351) rfl k) ?_
    refine own_g (T.setTop (mkF m 354 #[.val (.int p0), .val (.int p1), .val (.int p2), .val (.int v1), .val (.ref en), .val (.int w), .val (.int v2), .val (.int v3), .val (.ref b4), .val (.int v15), .val (.long v16), .second, .val (.long v17), .second, .val (.ref b18), .val (.int 10), .val (.int v22), .val (.int 1), .val (.int v28), .val (.int v30)] [(.int ((2 : Int32) * v2)), (.int 9), (.int v30)])) (fun _ k => XS.imul X.here hx rfl (hb hby at_353) rfl k) ?_
    refine own_g (T.setTop (mkF m 355 #[.val (.int p0), .val (.int p1), .val (.int p2), .val (.int v1), .val (.ref en), .val (.int w), .val (.int v2), .val (.int v3), .val (.ref b4), .val (.int v15), .val (.long v16), .second, .val (.long v17), .second, .val (.ref b18), .val (.int 10), .val (.int v22), .val (.int 1), .val (.int v28), .val (.int v30)] [(.int ((9 : Int32) + ((2 : Int32) * v2))), (.int v30)])) (fun _ k => XS.iadd X.here hx rfl (hb hby at_354) rfl k) ?_
    refine own_g (T.setTop (mkF m 358 #[.val (.int p0), .val (.int p1), .val (.int p2), .val (.int v1), .val (.ref en), .val (.int w), .val (.int v2), .val (.int v3), .val (.ref b4), .val (.int v15), .val (.long v16), .second, .val (.long v17), .second, .val (.ref b18), .val (.int 10), .val (.int v22), .val (.int 1), .val (.int v28), .val (.int v30)] [])) (fun _ k => XS.icmpNo X.here hx rfl (hb hby at_355) rfl (teq (hv30.symm : v30 = ((9 : Int32) + ((2 : Int32) * v2)))).2 k) ?_
    refine own_g (T.setTop (mkF m 360 #[.val (.int p0), .val (.int p1), .val (.int p2), .val (.int v1), .val (.ref en), .val (.int w), .val (.int v2), .val (.int v3), .val (.ref b4), .val (.int v15), .val (.long v16), .second, .val (.long v17), .second, .val (.ref b18), .val (.int 10), .val (.int v22), .val (.int 1), .val (.int v28), .val (.int v30)] [(.ref b18)])) (fun _ k => XS.aload X.here hx rfl (hb hby at_358) rfl rfl k) ?_
    obtain ⟨cq31, kq31, qk31a, qk31b, qk31c⟩ := isOf hZ eT Gh.1
    obtain ⟨_, _, ⟨T31, L31, k31, n31⟩, -, X31, ⟨Lc31, hQ31, l31, y31, z31⟩, st31⟩ := X.virtualBack hx (y := (⟨"com/example/corridor/corridor/iso20022/MarkupScanner", "cutReady", "()Z"⟩ : MethodName)) (z := (⟨"com/example/corridor/corridor/iso20022/MarkupScanner", "cutReady", "()Z"⟩ : MethodName)) hown (mvT hZ (own_w hw 174 rfl)) (mvT hZ (own_w hw 175 rfl)) (notFace_of_selects (args := #[]) (mvT hZ (own_w hw 177 rfl))) (mvT hZ (own_w hw 177 rfl)) (mvT hZ (own_w hw 176 rfl)) (by decide) (backOf (W := 0) (cr1 l Z a0 hw [] b18 b4 k4 v3 en EC w sa (.ref (sa 9)) (.int 0) (.int (-1)) (.long (own_lx v3 (1 : Int64))) (.long (own_lx v3 (1 : Int64))) (.ref b4) (.int (((9 : Int32) + v2) + v15)) (.long ((own_o3 w v2 v15) + (((((9 : Int32) + ((2 : Int32) * v2)) - (((9 : Int32) + v2) + v15)).toInt64) * (w.toInt64)))) (.long (own_o3 w v2 v15)) (.ref en) (.int w) (.int 0) (.int 6) (.int 0) (.long (own_o2 w v2)) (.int pv29) (.long (own_o2 w v2)) (.int 0) (.int 0) (.int 0) (.int 0) (.int 0) h n0 Zh Ih Gh gn_b18) hZ (own_w hw 178 rfl) (own_w hw 7 rfl) (by decide) (by decide)) qk31a qk31c (g := (mkF m 360 #[.val (.int p0), .val (.int p1), .val (.int p2), .val (.int v1), .val (.ref en), .val (.int w), .val (.int v2), .val (.int v3), .val (.ref b4), .val (.int v15), .val (.long v16), .second, .val (.long v17), .second, .val (.ref b18), .val (.int 10), .val (.int v22), .val (.int 1), .val (.int v28), .val (.int v30)] [(.ref b18)])) rfl (by rw [hml]; rfl) (Steps.refl _) (argsL := []) (rest := []) (lenOf pd10 rfl) rfl (by show 2 * 0 + _ ≤ _; exact Nat.le_of_eq rfl) (hb hby at_360) (fun _ _ => ⟨rfl, eT, (by decide : 14 + 0 ≤ _), (by decide : 16586 + 0 ≤ _)⟩)
    dsimp only [Pt.U, Pt.locs, Pt.cells, Pt.slots] at X31 l31 y31 z31 st31 hQ31
    subst l31 y31 z31
    obtain ⟨rfl, Nq31, e31⟩ := hQ31
    have N31 := Fr.app N Nq31
    refine own_g (T31.setTop (mkF m 363 #[.val (.int p0), .val (.int p1), .val (.int p2), .val (.int v1), .val (.ref en), .val (.int w), .val (.int v2), .val (.int v3), .val (.ref b4), .val (.int v15), .val (.long v16), .second, .val (.long v17), .second, .val (.ref b18), .val (.int 10), .val (.int v22), .val (.int 1), .val (.int v28), .val (.int v30)] [(.int 1)])) (fun _ k => st31.trans k) ?_
    refine own_g (T31.setTop (mkF m 366 #[.val (.int p0), .val (.int p1), .val (.int p2), .val (.int v1), .val (.ref en), .val (.int w), .val (.int v2), .val (.int v3), .val (.ref b4), .val (.int v15), .val (.long v16), .second, .val (.long v17), .second, .val (.ref b18), .val (.int 10), .val (.int v22), .val (.int 1), .val (.int v28), .val (.int v30)] [])) (fun _ k => XS.ifNo X31.here hx rfl (hb hby at_363) rfl ((if0 _ _).trans (feq (by decide : ¬ ((1 : Int32) = (0 : Int32)))).1) k) ?_
    refine own_g (T31.setTop (mkF m 367 #[.val (.int p0), .val (.int p1), .val (.int p2), .val (.int v1), .val (.ref en), .val (.int w), .val (.int v2), .val (.int v3), .val (.ref b4), .val (.int v15), .val (.long v16), .second, .val (.long v17), .second, .val (.ref b18), .val (.int 10), .val (.int v22), .val (.int 1), .val (.int v28), .val (.int v30)] [(.int 1)])) (fun _ k => XS.iconst X31.here hx rfl (hb hby at_366) k) ?_
    refine own_g (T31.setTop (mkF m 371 #[.val (.int p0), .val (.int p1), .val (.int p2), .val (.int v1), .val (.ref en), .val (.int w), .val (.int v2), .val (.int v3), .val (.ref b4), .val (.int v15), .val (.long v16), .second, .val (.long v17), .second, .val (.ref b18), .val (.int 10), .val (.int v22), .val (.int 1), .val (.int v28), .val (.int v30)] [(.int 1)])) (fun _ k => XS.goto X31.here hx rfl (pc0 := 367) (pc' := 371) rfl (hb hby at_367) (by decide) (by decide) k) ?_
    exact own_retBW X31 hx Bd.returns (Or.inr rfl) (hb hby at_371) Bd.notSynchronized hS (by rw [e31]; exact hk) hZ hEL (by rw [e31]; exact hCv) (by decide) (by decide) ⟨rfl, N31⟩
  have seg285 : ∀ (v1 : Int32) (en : Addr) (w : Int32) (v2 : Int32) (v3 : Int32) (b4 : Addr) (v15 : Int32) (v16 : Int64) (v17 : Int64) (b18 : Addr) (v22 : Int32) (v28 : Int32) (EC : String) (k4 : ClassId) (T : State) (locs : List Loc) (h : Heap) (vm : Vm) (k0 : Nat) (HW : own_W w v2 v15) (hEC : EC = "com/example/corridor/corridor/iso20022/MarkupScanner$Encoding" ∨ EC = "com/example/corridor/corridor/iso20022/MarkupScanner$Encoding$1" ∨ EC = "com/example/corridor/corridor/iso20022/MarkupScanner$Encoding$2") (gn_b18 : n0 ≤ b18) (hv16 : (own_lx v3 (1 : Int64)) = v16) (hv17 : ((((9 : Int32) + v2).toInt64) * (w.toInt64)) = v17) (hv22 : ((9 : Int32) + v2) = v22) (hv28 : (((9 : Int32) + v2) + v15) = v28) (X : Stand p l e room_1 (s.setVm vm) m #[(.int p0), (.int p1), (.int p2)] below meth c T locs 14 16586) (eT : T.heap = h) (N : Fr n0 locs) (Zh : n0 ≤ h.size) (Ih : own_I Z h b18 b4 k4 v3 en EC w sa) (Gh : own_G Z h b18 [(.ref (sa 9)), (.int 0), (.int (-1)), (.long (own_lx v3 (1 : Int64))), (.long (own_lx v3 (1 : Int64))), (.ref b4), (.int ((9 : Int32) + v2)), (.long (own_o3 w v2 v15)), (.long (own_o2 w v2)), (.ref en), (.int w), (.int 0), (.int 0), (.int 6), (.int 0), (.long (own_o2 w v2)), (.int 0), (.long (own_o2 w v2)), (.int 0), (.int 0), (.int 0), (.int 0), (.int 0)]) (hS : s.Since vm k0) (hk : k0 ≤ h.size) (hZ : Z.Warmed39 (s.setVm vm).vm) (hown : (s.setVm vm).vm.findClass "com/example/corridor/corridor/iso20022/MarkupScannerCutPinLaw" = some m.cls) (hCv : CHr Z own_EL s.vm s.heap vm h), own_Goes p e below (own_EndW s Z own_EL (own_True n0) 16 33984) (T.setTop (mkF m 285 #[.val (.int p0), .val (.int p1), .val (.int p2), .val (.int v1), .val (.ref en), .val (.int w), .val (.int v2), .val (.int v3), .val (.ref b4), .val (.int v15), .val (.long v16), .second, .val (.long v17), .second, .val (.ref b18), .val (.int 10), .val (.int v22), .val (.int 1), .val (.int v28), .unset] [])) := by
    intro v1 en w v2 v3 b4 v15 v16 v17 b18 v22 v28 EC k4 T locs h vm k0 HW hEC gn_b18 hv16 hv17 hv22 hv28 X eT N Zh Ih Gh hS hk hZ hown hCv
    refine own_g (T.setTop (mkF m 287 #[.val (.int p0), .val (.int p1), .val (.int p2), .val (.int v1), .val (.ref en), .val (.int w), .val (.int v2), .val (.int v3), .val (.ref b4), .val (.int v15), .val (.long v16), .second, .val (.long v17), .second, .val (.ref b18), .val (.int 10), .val (.int v22), .val (.int 1), .val (.int v28), .unset] [(.ref b18)])) (fun _ k => XS.aload X.here hx rfl (hb hby at_285) rfl rfl k) ?_
    refine own_g (T.setTop (mkF m 289 #[.val (.int p0), .val (.int p1), .val (.int p2), .val (.int v1), .val (.ref en), .val (.int w), .val (.int v2), .val (.int v3), .val (.ref b4), .val (.int v15), .val (.long v16), .second, .val (.long v17), .second, .val (.ref b18), .val (.int 10), .val (.int v22), .val (.int 1), .val (.int v28), .unset] [(.ref b4), (.ref b18)])) (fun _ k => XS.aload X.here hx rfl (hb hby at_287) rfl rfl k) ?_
    refine own_g (T.setTop (mkF m 291 #[.val (.int p0), .val (.int p1), .val (.int p2), .val (.int v1), .val (.ref en), .val (.int w), .val (.int v2), .val (.int v3), .val (.ref b4), .val (.int v15), .val (.long v16), .second, .val (.long v17), .second, .val (.ref b18), .val (.int 10), .val (.int v22), .val (.int 1), .val (.int v28), .unset] [(.int 9), (.ref b4), (.ref b18)])) (fun _ k => XS.bipush X.here hx rfl (hb hby at_289) k) ?_
    refine own_g (T.setTop (mkF m 293 #[.val (.int p0), .val (.int p1), .val (.int p2), .val (.int v1), .val (.ref en), .val (.int w), .val (.int v2), .val (.int v3), .val (.ref b4), .val (.int v15), .val (.long v16), .second, .val (.long v17), .second, .val (.ref b18), .val (.int 10), .val (.int v22), .val (.int 1), .val (.int v28), .unset] [(.int v2), (.int 9), (.ref b4), (.ref b18)])) (fun _ k => XS.iload X.here hx rfl (hb hby at_291) rfl k) ?_
    refine own_g (T.setTop (mkF m 294 #[.val (.int p0), .val (.int p1), .val (.int p2), .val (.int v1), .val (.ref en), .val (.int w), .val (.int v2), .val (.int v3), .val (.ref b4), .val (.int v15), .val (.long v16), .second, .val (.long v17), .second, .val (.ref b18), .val (.int 10), .val (.int v22), .val (.int 1), .val (.int v28), .unset] [(.int ((9 : Int32) + v2)), (.ref b4), (.ref b18)])) (fun _ k => XS.iadd X.here hx rfl (hb hby at_293) rfl k) ?_
    refine own_g (T.setTop (mkF m 296 #[.val (.int p0), .val (.int p1), .val (.int p2), .val (.int v1), .val (.ref en), .val (.int w), .val (.int v2), .val (.int v3), .val (.ref b4), .val (.int v15), .val (.long v16), .second, .val (.long v17), .second, .val (.ref b18), .val (.int 10), .val (.int v22), .val (.int 1), .val (.int v28), .unset] [(.int v15), (.int ((9 : Int32) + v2)), (.ref b4), (.ref b18)])) (fun _ k => XS.iload X.here hx rfl (hb hby at_294) rfl k) ?_
    refine own_g (T.setTop (mkF m 297 #[.val (.int p0), .val (.int p1), .val (.int p2), .val (.int v1), .val (.ref en), .val (.int w), .val (.int v2), .val (.int v3), .val (.ref b4), .val (.int v15), .val (.long v16), .second, .val (.long v17), .second, .val (.ref b18), .val (.int 10), .val (.int v22), .val (.int 1), .val (.int v28), .unset] [(.int (((9 : Int32) + v2) + v15)), (.ref b4), (.ref b18)])) (fun _ k => XS.iadd X.here hx rfl (hb hby at_296) rfl k) ?_
    refine own_g (T.setTop (mkF m 299 #[.val (.int p0), .val (.int p1), .val (.int p2), .val (.int v1), .val (.ref en), .val (.int w), .val (.int v2), .val (.int v3), .val (.ref b4), .val (.int v15), .val (.long v16), .second, .val (.long v17), .second, .val (.ref b18), .val (.int 10), .val (.int v22), .val (.int 1), .val (.int v28), .unset] [(.int 10), (.int (((9 : Int32) + v2) + v15)), (.ref b4), (.ref b18)])) (fun _ k => XS.bipush X.here hx rfl (hb hby at_297) k) ?_
    refine own_g (T.setTop (mkF m 300 #[.val (.int p0), .val (.int p1), .val (.int p2), .val (.int v1), .val (.ref en), .val (.int w), .val (.int v2), .val (.int v3), .val (.ref b4), .val (.int v15), .val (.long v16), .second, .val (.long v17), .second, .val (.ref b18), .val (.int 10), .val (.int v22), .val (.int 1), .val (.int v28), .unset] [(.int 2), (.int 10), (.int (((9 : Int32) + v2) + v15)), (.ref b4), (.ref b18)])) (fun _ k => XS.iconst X.here hx rfl (hb hby at_299) k) ?_
    refine own_g (T.setTop (mkF m 302 #[.val (.int p0), .val (.int p1), .val (.int p2), .val (.int v1), .val (.ref en), .val (.int w), .val (.int v2), .val (.int v3), .val (.ref b4), .val (.int v15), .val (.long v16), .second, .val (.long v17), .second, .val (.ref b18), .val (.int 10), .val (.int v22), .val (.int 1), .val (.int v28), .unset] [(.int v2), (.int 2), (.int 10), (.int (((9 : Int32) + v2) + v15)), (.ref b4), (.ref b18)])) (fun _ k => XS.iload X.here hx rfl (hb hby at_300) rfl k) ?_
    refine own_g (T.setTop (mkF m 303 #[.val (.int p0), .val (.int p1), .val (.int p2), .val (.int v1), .val (.ref en), .val (.int w), .val (.int v2), .val (.int v3), .val (.ref b4), .val (.int v15), .val (.long v16), .second, .val (.long v17), .second, .val (.ref b18), .val (.int 10), .val (.int v22), .val (.int 1), .val (.int v28), .unset] [(.int ((2 : Int32) * v2)), (.int 10), (.int (((9 : Int32) + v2) + v15)), (.ref b4), (.ref b18)])) (fun _ k => XS.imul X.here hx rfl (hb hby at_302) rfl k) ?_
    refine own_g (T.setTop (mkF m 304 #[.val (.int p0), .val (.int p1), .val (.int p2), .val (.int v1), .val (.ref en), .val (.int w), .val (.int v2), .val (.int v3), .val (.ref b4), .val (.int v15), .val (.long v16), .second, .val (.long v17), .second, .val (.ref b18), .val (.int 10), .val (.int v22), .val (.int 1), .val (.int v28), .unset] [(.int ((10 : Int32) + ((2 : Int32) * v2))), (.int (((9 : Int32) + v2) + v15)), (.ref b4), (.ref b18)])) (fun _ k => XS.iadd X.here hx rfl (hb hby at_303) rfl k) ?_
    refine own_g (T.setTop (mkF m 306 #[.val (.int p0), .val (.int p1), .val (.int p2), .val (.int v1), .val (.ref en), .val (.int w), .val (.int v2), .val (.int v3), .val (.ref b4), .val (.int v15), .val (.long v16), .second, .val (.long v17), .second, .val (.ref b18), .val (.int 10), .val (.int v22), .val (.int 1), .val (.int v28), .unset] [(.ref en), (.int ((10 : Int32) + ((2 : Int32) * v2))), (.int (((9 : Int32) + v2) + v15)), (.ref b4), (.ref b18)])) (fun _ k => XS.aload X.here hx rfl (hb hby at_304) rfl rfl k) ?_
    obtain ⟨cq29, kq29, qk29a, qk29b, qk29c⟩ := isOf hZ eT Gh.1
    obtain ⟨_, _, ⟨T29, L29, k29, n29⟩, -, X29, ⟨Lc29, hQ29, l29, y29, z29⟩, st29⟩ := X.virtualBack hx (y := (⟨"com/example/corridor/corridor/iso20022/MarkupScanner", "scan", "([CIILcom/example/corridor/corridor/iso20022/MarkupScanner$Encoding;)I"⟩ : MethodName)) (z := (⟨"com/example/corridor/corridor/iso20022/MarkupScanner", "scan", "([CIILcom/example/corridor/corridor/iso20022/MarkupScanner$Encoding;)I"⟩ : MethodName)) hown (mvT hZ (own_w hw 27 rfl)) (mvT hZ (own_w hw 28 rfl)) (notFace_of_selects (args := #[]) (mvT hZ (own_w hw 30 rfl))) (mvT hZ (own_w hw 30 rfl)) (mvT hZ (own_w hw 29 rfl)) (by decide) (backOf (W := 0) (scanB l Z a0 hw [] b18 b4 (((9 : Int32) + v2) + v15) ((10 : Int32) + ((2 : Int32) * v2)) en k4 v3 EC w sa (.int 0) (.long (own_lx v3 (1 : Int64))) (.long (own_lx v3 (1 : Int64))) (.ref b4) (.int ((9 : Int32) + v2)) (own_o3 w v2 v15) (.long (own_o2 w v2)) (.ref en) (.int w) (.int 6) (0 : Int32) (own_o2 w v2) (0 : Int32) (.long (own_o2 w v2)) (.int 0) (.int 0) (.int 0) (.int 0) (.int 0) ((9 : Int32) + ((2 : Int32) * v2)) h n0 Zh Ih Gh gn_b18 (own_HC4 HW) (by have hA := HW.1; have hB := HW.2; have := own_s9n HW; omega) (by have hA := HW.1; have hB := HW.2; have := own_s92 HW; omega) (by have hA := HW.1; have hB := HW.2; have := own_s9n HW; have := own_s102 HW; omega) (by have hA := HW.1; have hB := HW.2; have := own_s9n HW; have := own_s102 HW; omega) (by have hA := HW.1; have hB := HW.2; have := own_s92 HW; have := own_s102 HW; omega) (fun _ => rfl) (fun _ => by decide) hEC) hZ (own_w hw 31 rfl) (own_w hw 7 rfl) (by decide) (by decide)) qk29a qk29c (g := (mkF m 306 #[.val (.int p0), .val (.int p1), .val (.int p2), .val (.int v1), .val (.ref en), .val (.int w), .val (.int v2), .val (.int v3), .val (.ref b4), .val (.int v15), .val (.long v16), .second, .val (.long v17), .second, .val (.ref b18), .val (.int 10), .val (.int v22), .val (.int 1), .val (.int v28), .unset] [(.ref en), (.int ((10 : Int32) + ((2 : Int32) * v2))), (.int (((9 : Int32) + v2) + v15)), (.ref b4), (.ref b18)])) rfl (by rw [hml]; rfl) (Steps.refl _) (argsL := [(.ref b4), (.int (((9 : Int32) + v2) + v15)), (.int ((10 : Int32) + ((2 : Int32) * v2))), (.ref en)]) (rest := []) (lenOf pd16 rfl) rfl (by show 2 * 0 + _ ≤ _; exact Nat.le_of_eq rfl) (hb hby at_306) (fun _ _ => ⟨rfl, eT, (by decide : 14 + 0 ≤ _), (by decide : 16586 + 0 ≤ _)⟩)
    dsimp only [Pt.U, Pt.locs, Pt.cells, Pt.slots] at X29 l29 y29 z29 st29 hQ29
    subst l29 y29 z29
    obtain ⟨pv29, rfl, Nq29, Kq29, Gq29⟩ := hQ29
    have N29 := Fr.app N Nq29
    have I29 : own_I Z T29.heap b18 b4 k4 v3 en EC w sa := Ih.keep Kq29 Gh.1
    have G29 : own_G Z T29.heap b18 [(.ref (sa 9)), (.int 0), (.int (-1)), (.long (own_lx v3 (1 : Int64))), (.long (own_lx v3 (1 : Int64))), (.ref b4), (.int (((9 : Int32) + v2) + v15)), (.long ((own_o3 w v2 v15) + (((((9 : Int32) + ((2 : Int32) * v2)) - (((9 : Int32) + v2) + v15)).toInt64) * (w.toInt64)))), (.long (own_o3 w v2 v15)), (.ref en), (.int w), (.int 1), (.int 0), (.int 6), (.int 0), (.long (own_o2 w v2)), (.int pv29), (.long (own_o2 w v2)), (.int 0), (.int 0), (.int 0), (.int 0), (.int 0)] := Gq29
    have hCt29 := hCv.trans (CHr.keep Kq29 (own_safe1 hZ.alike Gh.1) hCv.1)
    have Z29 : n0 ≤ T29.heap.size := Nat.le_trans Zh Kq29.1
    refine own_g (T29.setTop (mkF m 309 #[.val (.int p0), .val (.int p1), .val (.int p2), .val (.int v1), .val (.ref en), .val (.int w), .val (.int v2), .val (.int v3), .val (.ref b4), .val (.int v15), .val (.long v16), .second, .val (.long v17), .second, .val (.ref b18), .val (.int 10), .val (.int v22), .val (.int 1), .val (.int v28), .unset] [(.int ((9 : Int32) + ((2 : Int32) * v2)))])) (fun _ k => st29.trans k) ?_
    generalize hv30 : ((9 : Int32) + ((2 : Int32) * v2)) = v30
    refine own_g (T29.setTop (mkF m 311 #[.val (.int p0), .val (.int p1), .val (.int p2), .val (.int v1), .val (.ref en), .val (.int w), .val (.int v2), .val (.int v3), .val (.ref b4), .val (.int v15), .val (.long v16), .second, .val (.long v17), .second, .val (.ref b18), .val (.int 10), .val (.int v22), .val (.int 1), .val (.int v28), .val (.int v30)] [])) (fun _ k => XS.istore X29.here hx rfl (hb hby at_309) rfl (l' := #[.val (.int p0), .val (.int p1), .val (.int p2), .val (.int v1), .val (.ref en), .val (.int w), .val (.int v2), .val (.int v3), .val (.ref b4), .val (.int v15), .val (.long v16), .second, .val (.long v17), .second, .val (.ref b18), .val (.int 10), .val (.int v22), .val (.int 1), .val (.int v28), .val (.int v30)]) rfl k) ?_
    exact seg311 v1 en w v2 v3 b4 v15 v16 v17 b18 v22 v28 v30 EC k4 pv29 _ _ _ _ _ HW hEC gn_b18 hv16 hv17 hv22 hv28 hv30 X29 rfl N29 Z29 I29 G29 hS (by exact (Nat.le_trans hk Kq29.1)) hZ hown hCt29
  have seg261 : ∀ (v1 : Int32) (en : Addr) (w : Int32) (v2 : Int32) (v3 : Int32) (b4 : Addr) (v15 : Int32) (v16 : Int64) (v17 : Int64) (b18 : Addr) (v22 : Int32) (EC : String) (k4 : ClassId) (pv21 : Int32) (T : State) (locs : List Loc) (h : Heap) (vm : Vm) (k0 : Nat) (HW : own_W w v2 v15) (hEC : EC = "com/example/corridor/corridor/iso20022/MarkupScanner$Encoding" ∨ EC = "com/example/corridor/corridor/iso20022/MarkupScanner$Encoding$1" ∨ EC = "com/example/corridor/corridor/iso20022/MarkupScanner$Encoding$2") (gn_b18 : n0 ≤ b18) (hv16 : (own_lx v3 (1 : Int64)) = v16) (hv17 : ((((9 : Int32) + v2).toInt64) * (w.toInt64)) = v17) (hv22 : ((9 : Int32) + v2) = v22) (X : Stand p l e room_1 (s.setVm vm) m #[(.int p0), (.int p1), (.int p2)] below meth c T locs 14 16586) (eT : T.heap = h) (N : Fr n0 locs) (Zh : n0 ≤ h.size) (Ih : own_I Z h b18 b4 k4 v3 en EC w sa) (Gh : own_G Z h b18 [(.ref (sa 9)), (.int 0), (.int (-1)), (.long (own_lx v3 (1 : Int64))), (.long (own_lx v3 (1 : Int64))), (.ref b4), (.int 10), (.long (own_o2 w v2)), (.long ((0 : Int64) + ((((10 : Int32) - (0 : Int32)).toInt64) * (w.toInt64)))), (.ref en), (.int w), (.int 0), (.int 0), (.int 6), (.int 0), (.long (own_o2 w v2)), (.int pv21), (.long (own_o2 w v2)), (.int 0), (.int 0), (.int 0), (.int 0), (.int 0)]) (hS : s.Since vm k0) (hk : k0 ≤ h.size) (hZ : Z.Warmed39 (s.setVm vm).vm) (hown : (s.setVm vm).vm.findClass "com/example/corridor/corridor/iso20022/MarkupScannerCutPinLaw" = some m.cls) (hCv : CHr Z own_EL s.vm s.heap vm h), own_Goes p e below (own_EndW s Z own_EL (own_True n0) 16 33984) (T.setTop (mkF m 261 #[.val (.int p0), .val (.int p1), .val (.int p2), .val (.int v1), .val (.ref en), .val (.int w), .val (.int v2), .val (.int v3), .val (.ref b4), .val (.int v15), .val (.long v16), .second, .val (.long v17), .second, .val (.ref b18), .val (.int 10), .val (.int v22), .val (.int 1), .unset, .unset] [])) := by
    intro v1 en w v2 v3 b4 v15 v16 v17 b18 v22 EC k4 pv21 T locs h vm k0 HW hEC gn_b18 hv16 hv17 hv22 X eT N Zh Ih Gh hS hk hZ hown hCv
    refine own_g (T.setTop (mkF m 263 #[.val (.int p0), .val (.int p1), .val (.int p2), .val (.int v1), .val (.ref en), .val (.int w), .val (.int v2), .val (.int v3), .val (.ref b4), .val (.int v15), .val (.long v16), .second, .val (.long v17), .second, .val (.ref b18), .val (.int 10), .val (.int v22), .val (.int 1), .unset, .unset] [(.ref b18)])) (fun _ k => XS.aload X.here hx rfl (hb hby at_261) rfl rfl k) ?_
    refine own_g (T.setTop (mkF m 265 #[.val (.int p0), .val (.int p1), .val (.int p2), .val (.int v1), .val (.ref en), .val (.int w), .val (.int v2), .val (.int v3), .val (.ref b4), .val (.int v15), .val (.long v16), .second, .val (.long v17), .second, .val (.ref b18), .val (.int 10), .val (.int v22), .val (.int 1), .unset, .unset] [(.ref b4), (.ref b18)])) (fun _ k => XS.aload X.here hx rfl (hb hby at_263) rfl rfl k) ?_
    refine own_g (T.setTop (mkF m 267 #[.val (.int p0), .val (.int p1), .val (.int p2), .val (.int v1), .val (.ref en), .val (.int w), .val (.int v2), .val (.int v3), .val (.ref b4), .val (.int v15), .val (.long v16), .second, .val (.long v17), .second, .val (.ref b18), .val (.int 10), .val (.int v22), .val (.int 1), .unset, .unset] [(.int 9), (.ref b4), (.ref b18)])) (fun _ k => XS.bipush X.here hx rfl (hb hby at_265) k) ?_
    refine own_g (T.setTop (mkF m 269 #[.val (.int p0), .val (.int p1), .val (.int p2), .val (.int v1), .val (.ref en), .val (.int w), .val (.int v2), .val (.int v3), .val (.ref b4), .val (.int v15), .val (.long v16), .second, .val (.long v17), .second, .val (.ref b18), .val (.int 10), .val (.int v22), .val (.int 1), .unset, .unset] [(.int v2), (.int 9), (.ref b4), (.ref b18)])) (fun _ k => XS.iload X.here hx rfl (hb hby at_267) rfl k) ?_
    refine own_g (T.setTop (mkF m 270 #[.val (.int p0), .val (.int p1), .val (.int p2), .val (.int v1), .val (.ref en), .val (.int w), .val (.int v2), .val (.int v3), .val (.ref b4), .val (.int v15), .val (.long v16), .second, .val (.long v17), .second, .val (.ref b18), .val (.int 10), .val (.int v22), .val (.int 1), .unset, .unset] [(.int ((9 : Int32) + v2)), (.ref b4), (.ref b18)])) (fun _ k => XS.iadd X.here hx rfl (hb hby at_269) rfl k) ?_
    refine own_g (T.setTop (mkF m 272 #[.val (.int p0), .val (.int p1), .val (.int p2), .val (.int v1), .val (.ref en), .val (.int w), .val (.int v2), .val (.int v3), .val (.ref b4), .val (.int v15), .val (.long v16), .second, .val (.long v17), .second, .val (.ref b18), .val (.int 10), .val (.int v22), .val (.int 1), .unset, .unset] [(.int 9), (.int ((9 : Int32) + v2)), (.ref b4), (.ref b18)])) (fun _ k => XS.bipush X.here hx rfl (hb hby at_270) k) ?_
    refine own_g (T.setTop (mkF m 274 #[.val (.int p0), .val (.int p1), .val (.int p2), .val (.int v1), .val (.ref en), .val (.int w), .val (.int v2), .val (.int v3), .val (.ref b4), .val (.int v15), .val (.long v16), .second, .val (.long v17), .second, .val (.ref b18), .val (.int 10), .val (.int v22), .val (.int 1), .unset, .unset] [(.int v2), (.int 9), (.int ((9 : Int32) + v2)), (.ref b4), (.ref b18)])) (fun _ k => XS.iload X.here hx rfl (hb hby at_272) rfl k) ?_
    refine own_g (T.setTop (mkF m 275 #[.val (.int p0), .val (.int p1), .val (.int p2), .val (.int v1), .val (.ref en), .val (.int w), .val (.int v2), .val (.int v3), .val (.ref b4), .val (.int v15), .val (.long v16), .second, .val (.long v17), .second, .val (.ref b18), .val (.int 10), .val (.int v22), .val (.int 1), .unset, .unset] [(.int ((9 : Int32) + v2)), (.int ((9 : Int32) + v2)), (.ref b4), (.ref b18)])) (fun _ k => XS.iadd X.here hx rfl (hb hby at_274) rfl k) ?_
    refine own_g (T.setTop (mkF m 277 #[.val (.int p0), .val (.int p1), .val (.int p2), .val (.int v1), .val (.ref en), .val (.int w), .val (.int v2), .val (.int v3), .val (.ref b4), .val (.int v15), .val (.long v16), .second, .val (.long v17), .second, .val (.ref b18), .val (.int 10), .val (.int v22), .val (.int 1), .unset, .unset] [(.int v15), (.int ((9 : Int32) + v2)), (.int ((9 : Int32) + v2)), (.ref b4), (.ref b18)])) (fun _ k => XS.iload X.here hx rfl (hb hby at_275) rfl k) ?_
    refine own_g (T.setTop (mkF m 278 #[.val (.int p0), .val (.int p1), .val (.int p2), .val (.int v1), .val (.ref en), .val (.int w), .val (.int v2), .val (.int v3), .val (.ref b4), .val (.int v15), .val (.long v16), .second, .val (.long v17), .second, .val (.ref b18), .val (.int 10), .val (.int v22), .val (.int 1), .unset, .unset] [(.int (((9 : Int32) + v2) + v15)), (.int ((9 : Int32) + v2)), (.ref b4), (.ref b18)])) (fun _ k => XS.iadd X.here hx rfl (hb hby at_277) rfl k) ?_
    refine own_g (T.setTop (mkF m 280 #[.val (.int p0), .val (.int p1), .val (.int p2), .val (.int v1), .val (.ref en), .val (.int w), .val (.int v2), .val (.int v3), .val (.ref b4), .val (.int v15), .val (.long v16), .second, .val (.long v17), .second, .val (.ref b18), .val (.int 10), .val (.int v22), .val (.int 1), .unset, .unset] [(.ref en), (.int (((9 : Int32) + v2) + v15)), (.int ((9 : Int32) + v2)), (.ref b4), (.ref b18)])) (fun _ k => XS.aload X.here hx rfl (hb hby at_278) rfl rfl k) ?_
    obtain ⟨cq27, kq27, qk27a, qk27b, qk27c⟩ := isOf hZ eT Gh.1
    obtain ⟨_, _, ⟨T27, L27, k27, n27⟩, -, X27, ⟨Lc27, hQ27, l27, y27, z27⟩, st27⟩ := X.virtualBack hx (y := (⟨"com/example/corridor/corridor/iso20022/MarkupScanner", "scan", "([CIILcom/example/corridor/corridor/iso20022/MarkupScanner$Encoding;)I"⟩ : MethodName)) (z := (⟨"com/example/corridor/corridor/iso20022/MarkupScanner", "scan", "([CIILcom/example/corridor/corridor/iso20022/MarkupScanner$Encoding;)I"⟩ : MethodName)) hown (mvT hZ (own_w hw 27 rfl)) (mvT hZ (own_w hw 28 rfl)) (notFace_of_selects (args := #[]) (mvT hZ (own_w hw 30 rfl))) (mvT hZ (own_w hw 30 rfl)) (mvT hZ (own_w hw 29 rfl)) (by decide) (backOf (W := 0) (scanA l Z a0 hw [] b18 b4 ((9 : Int32) + v2) (((9 : Int32) + v2) + v15) en k4 v3 EC w sa (.int 0) (.long (own_lx v3 (1 : Int64))) (.long (own_lx v3 (1 : Int64))) (.ref b4) (.int 10) (own_o2 w v2) (.long ((0 : Int64) + ((((10 : Int32) - (0 : Int32)).toInt64) * (w.toInt64)))) (.ref en) (.int w) (.int 6) (0 : Int32) (own_o2 w v2) pv21 (.long (own_o2 w v2)) (.int 0) (.int 0) (.int 0) (.int 0) (.int 0) ((9 : Int32) + ((2 : Int32) * v2)) h n0 Zh Ih Gh gn_b18 (own_HC3 HW) (by have hA := HW.1; have hB := HW.2; have := own_s9 HW; omega) (by have hA := HW.1; have hB := HW.2; have := own_s92 HW; omega) (by have hA := HW.1; have hB := HW.2; have := own_s9 HW; have := own_s9n HW; omega) (by have hA := HW.1; have hB := HW.2; have := own_s9 HW; have := own_s9n HW; omega) (by have hA := HW.1; have hB := HW.2; have := own_s9n HW; have := own_s92 HW; omega)) hZ (own_w hw 31 rfl) (own_w hw 7 rfl) (by decide) (by decide)) qk27a qk27c (g := (mkF m 280 #[.val (.int p0), .val (.int p1), .val (.int p2), .val (.int v1), .val (.ref en), .val (.int w), .val (.int v2), .val (.int v3), .val (.ref b4), .val (.int v15), .val (.long v16), .second, .val (.long v17), .second, .val (.ref b18), .val (.int 10), .val (.int v22), .val (.int 1), .unset, .unset] [(.ref en), (.int (((9 : Int32) + v2) + v15)), (.int ((9 : Int32) + v2)), (.ref b4), (.ref b18)])) rfl (by rw [hml]; rfl) (Steps.refl _) (argsL := [(.ref b4), (.int ((9 : Int32) + v2)), (.int (((9 : Int32) + v2) + v15)), (.ref en)]) (rest := []) (lenOf pd16 rfl) rfl (by show 2 * 0 + _ ≤ _; exact Nat.le_of_eq rfl) (hb hby at_280) (fun _ _ => ⟨rfl, eT, (by decide : 14 + 0 ≤ _), (by decide : 16586 + 0 ≤ _)⟩)
    dsimp only [Pt.U, Pt.locs, Pt.cells, Pt.slots] at X27 l27 y27 z27 st27 hQ27
    subst l27 y27 z27
    obtain ⟨rfl, Nq27, Kq27, Gq27⟩ := hQ27
    have N27 := Fr.app N Nq27
    have I27 : own_I Z T27.heap b18 b4 k4 v3 en EC w sa := Ih.keep Kq27 Gh.1
    have G27 : own_G Z T27.heap b18 [(.ref (sa 9)), (.int 0), (.int (-1)), (.long (own_lx v3 (1 : Int64))), (.long (own_lx v3 (1 : Int64))), (.ref b4), (.int ((9 : Int32) + v2)), (.long ((own_o2 w v2) + ((((((9 : Int32) + v2) + v15) - ((9 : Int32) + v2)).toInt64) * (w.toInt64)))), (.long (own_o2 w v2)), (.ref en), (.int w), (.int 0), (.int 0), (.int 6), (.int 0), (.long (own_o2 w v2)), (.int 0), (.long (own_o2 w v2)), (.int 0), (.int 0), (.int 0), (.int 0), (.int 0)] := Gq27
    have hCt27 := hCv.trans (CHr.keep Kq27 (own_safe1 hZ.alike Gh.1) hCv.1)
    have Z27 : n0 ≤ T27.heap.size := Nat.le_trans Zh Kq27.1
    refine own_g (T27.setTop (mkF m 283 #[.val (.int p0), .val (.int p1), .val (.int p2), .val (.int v1), .val (.ref en), .val (.int w), .val (.int v2), .val (.int v3), .val (.ref b4), .val (.int v15), .val (.long v16), .second, .val (.long v17), .second, .val (.ref b18), .val (.int 10), .val (.int v22), .val (.int 1), .unset, .unset] [(.int (((9 : Int32) + v2) + v15))])) (fun _ k => st27.trans k) ?_
    generalize hv28 : (((9 : Int32) + v2) + v15) = v28
    refine own_g (T27.setTop (mkF m 285 #[.val (.int p0), .val (.int p1), .val (.int p2), .val (.int v1), .val (.ref en), .val (.int w), .val (.int v2), .val (.int v3), .val (.ref b4), .val (.int v15), .val (.long v16), .second, .val (.long v17), .second, .val (.ref b18), .val (.int 10), .val (.int v22), .val (.int 1), .val (.int v28), .unset] [])) (fun _ k => XS.istore X27.here hx rfl (hb hby at_283) rfl (l' := #[.val (.int p0), .val (.int p1), .val (.int p2), .val (.int v1), .val (.ref en), .val (.int w), .val (.int v2), .val (.int v3), .val (.ref b4), .val (.int v15), .val (.long v16), .second, .val (.long v17), .second, .val (.ref b18), .val (.int 10), .val (.int v22), .val (.int 1), .val (.int v28), .unset]) rfl k) ?_
    exact seg285 v1 en w v2 v3 b4 v15 v16 v17 b18 v22 v28 EC k4 _ _ _ _ _ HW hEC gn_b18 hv16 hv17 hv22 hv28 X27 rfl N27 Z27 I27 G27 hS (by exact (Nat.le_trans hk Kq27.1)) hZ hown hCt27
  have seg219 : ∀ (v1 : Int32) (en : Addr) (w : Int32) (v2 : Int32) (v3 : Int32) (b4 : Addr) (v15 : Int32) (v16 : Int64) (v17 : Int64) (b18 : Addr) (v22 : Int32) (EC : String) (k4 : ClassId) (pv21 : Int32) (T : State) (locs : List Loc) (h : Heap) (vm : Vm) (k0 : Nat) (HW : own_W w v2 v15) (hEC : EC = "com/example/corridor/corridor/iso20022/MarkupScanner$Encoding" ∨ EC = "com/example/corridor/corridor/iso20022/MarkupScanner$Encoding$1" ∨ EC = "com/example/corridor/corridor/iso20022/MarkupScanner$Encoding$2") (gn_b18 : n0 ≤ b18) (hv16 : (own_lx v3 (1 : Int64)) = v16) (hv17 : ((((9 : Int32) + v2).toInt64) * (w.toInt64)) = v17) (hv22 : ((9 : Int32) + v2) = v22) (X : Stand p l e room_1 (s.setVm vm) m #[(.int p0), (.int p1), (.int p2)] below meth c T locs 14 16586) (eT : T.heap = h) (N : Fr n0 locs) (Zh : n0 ≤ h.size) (Ih : own_I Z h b18 b4 k4 v3 en EC w sa) (Gh : own_G Z h b18 [(.ref (sa 9)), (.int 0), (.int (-1)), (.long 1), (.long (own_lx v3 (1 : Int64))), (.ref b4), (.int 10), (.long (own_o2 w v2)), (.long ((0 : Int64) + ((((10 : Int32) - (0 : Int32)).toInt64) * (w.toInt64)))), (.ref en), (.int w), (.int 1), (.int 0), (.int 6), (.int 0), (.long ((0 : Int64) + ((((9 : Int32) - (0 : Int32)).toInt64) * (w.toInt64)))), (.int pv21), (.long ((0 : Int64) + ((((0 : Int32) - (0 : Int32)).toInt64) * (w.toInt64)))), (.int 0), (.int 0), (.int 0), (.int 0), (.int 0)]) (hS : s.Since vm k0) (hk : k0 ≤ h.size) (hZ : Z.Warmed39 (s.setVm vm).vm) (hown : (s.setVm vm).vm.findClass "com/example/corridor/corridor/iso20022/MarkupScannerCutPinLaw" = some m.cls) (hCv : CHr Z own_EL s.vm s.heap vm h), own_Goes p e below (own_EndW s Z own_EL (own_True n0) 16 33984) (T.setTop (mkF m 219 #[.val (.int p0), .val (.int p1), .val (.int p2), .val (.int v1), .val (.ref en), .val (.int w), .val (.int v2), .val (.int v3), .val (.ref b4), .val (.int v15), .val (.long v16), .second, .val (.long v17), .second, .val (.ref b18), .val (.int 10), .val (.int v22), .unset, .unset, .unset] [])) := by
    intro v1 en w v2 v3 b4 v15 v16 v17 b18 v22 EC k4 pv21 T locs h vm k0 HW hEC gn_b18 hv16 hv17 hv22 X eT N Zh Ih Gh hS hk hZ hown hCv
    refine own_g (T.setTop (mkF m 221 #[.val (.int p0), .val (.int p1), .val (.int p2), .val (.int v1), .val (.ref en), .val (.int w), .val (.int v2), .val (.int v3), .val (.ref b4), .val (.int v15), .val (.long v16), .second, .val (.long v17), .second, .val (.ref b18), .val (.int 10), .val (.int v22), .unset, .unset, .unset] [(.ref b18)])) (fun _ k => XS.aload X.here hx rfl (hb hby at_219) rfl rfl k) ?_
    obtain ⟨cq23, kq23, qk23a, qk23b, qk23c⟩ := isOf hZ eT Gh.1
    obtain ⟨_, _, ⟨T23, L23, k23, n23⟩, -, X23, ⟨Lc23, hQ23, l23, y23, z23⟩, st23⟩ := X.virtualBack hx (y := (⟨"com/example/corridor/corridor/iso20022/MarkupScanner", "cut", "()V"⟩ : MethodName)) (z := (⟨"com/example/corridor/corridor/iso20022/MarkupScanner", "cut", "()V"⟩ : MethodName)) hown (mvT hZ (own_w hw 169 rfl)) (mvT hZ (own_w hw 170 rfl)) (notFace_of_selects (args := #[]) (mvT hZ (own_w hw 172 rfl))) (mvT hZ (own_w hw 172 rfl)) (mvT hZ (own_w hw 171 rfl)) (by decide) (backOf (W := 0) (cut l Z a0 hw [] b18 b4 k4 v3 en EC w sa (.ref (sa 9)) (.int 0) (.int (-1)) (.long 1) (own_lx v3 (1 : Int64)) (.ref b4) (.int 10) (own_o2 w v2) (.long ((0 : Int64) + ((((10 : Int32) - (0 : Int32)).toInt64) * (w.toInt64)))) (.ref en) (.int w) (.int 1) (.int 0) (.int 6) (.int 0) (.long ((0 : Int64) + ((((9 : Int32) - (0 : Int32)).toInt64) * (w.toInt64)))) (.int pv21) (.long ((0 : Int64) + ((((0 : Int32) - (0 : Int32)).toInt64) * (w.toInt64)))) (.int 0) (.int 0) (.int 0) (.int 0) (.int 0) h n0 Zh Ih Gh gn_b18) hZ (own_w hw 173 rfl) (own_w hw 7 rfl) (by decide) (by decide)) qk23a qk23c (g := (mkF m 221 #[.val (.int p0), .val (.int p1), .val (.int p2), .val (.int v1), .val (.ref en), .val (.int w), .val (.int v2), .val (.int v3), .val (.ref b4), .val (.int v15), .val (.long v16), .second, .val (.long v17), .second, .val (.ref b18), .val (.int 10), .val (.int v22), .unset, .unset, .unset] [(.ref b18)])) rfl (by rw [hml]; rfl) (Steps.refl _) (argsL := []) (rest := []) (lenOf pd15 rfl) rfl (by show 2 * 0 + _ ≤ _; exact Nat.le_of_eq rfl) (hb hby at_221) (fun _ _ => ⟨rfl, eT, (by decide : 14 + 0 ≤ _), (by decide : 16586 + 0 ≤ _)⟩)
    dsimp only [Pt.U, Pt.locs, Pt.cells, Pt.slots] at X23 l23 y23 z23 st23 hQ23
    subst l23 y23 z23
    obtain ⟨rfl, Nq23, Kq23, Gq23⟩ := hQ23
    have N23 := Fr.app N Nq23
    have I23 : own_I Z T23.heap b18 b4 k4 v3 en EC w sa := Ih.keep Kq23 Gh.1
    have G23 : own_G Z T23.heap b18 [(.ref (sa 9)), (.int 0), (.int (-1)), (.long (own_lx v3 (1 : Int64))), (.long (own_lx v3 (1 : Int64))), (.ref b4), (.int 10), (.long (own_o2 w v2)), (.long ((0 : Int64) + ((((10 : Int32) - (0 : Int32)).toInt64) * (w.toInt64)))), (.ref en), (.int w), (.int 0), (.int 0), (.int 6), (.int 0), (.long (own_o2 w v2)), (.int pv21), (.long (own_o2 w v2)), (.int 0), (.int 0), (.int 0), (.int 0), (.int 0)] := Gq23
    have hCt23 := hCv.trans (CHr.keep Kq23 (own_safe1 hZ.alike Gh.1) hCv.1)
    have Z23 : n0 ≤ T23.heap.size := Nat.le_trans Zh Kq23.1
    refine own_g (T23.setTop (mkF m 224 #[.val (.int p0), .val (.int p1), .val (.int p2), .val (.int v1), .val (.ref en), .val (.int w), .val (.int v2), .val (.int v3), .val (.ref b4), .val (.int v15), .val (.long v16), .second, .val (.long v17), .second, .val (.ref b18), .val (.int 10), .val (.int v22), .unset, .unset, .unset] [])) (fun _ k => st23.trans k) ?_
    refine own_g (T23.setTop (mkF m 226 #[.val (.int p0), .val (.int p1), .val (.int p2), .val (.int v1), .val (.ref en), .val (.int w), .val (.int v2), .val (.int v3), .val (.ref b4), .val (.int v15), .val (.long v16), .second, .val (.long v17), .second, .val (.ref b18), .val (.int 10), .val (.int v22), .unset, .unset, .unset] [(.ref b18)])) (fun _ k => XS.aload X23.here hx rfl (hb hby at_224) rfl rfl k) ?_
    obtain ⟨cq24, kq24, qk24a, qk24b, qk24c⟩ := isOf hZ rfl G23.1
    obtain ⟨_, _, ⟨T24, L24, k24, n24⟩, -, X24, ⟨Lc24, hQ24, l24, y24, z24⟩, st24⟩ := X23.virtualBack hx (y := (⟨"com/example/corridor/corridor/iso20022/MarkupScanner", "cutReady", "()Z"⟩ : MethodName)) (z := (⟨"com/example/corridor/corridor/iso20022/MarkupScanner", "cutReady", "()Z"⟩ : MethodName)) hown (mvT hZ (own_w hw 174 rfl)) (mvT hZ (own_w hw 175 rfl)) (notFace_of_selects (args := #[]) (mvT hZ (own_w hw 177 rfl))) (mvT hZ (own_w hw 177 rfl)) (mvT hZ (own_w hw 176 rfl)) (by decide) (backOf (W := 0) (cr0 l Z a0 hw [] b18 b4 k4 v3 en EC w sa (.ref (sa 9)) (.int 0) (.int (-1)) (.long (own_lx v3 (1 : Int64))) (.long (own_lx v3 (1 : Int64))) (.ref b4) (.int 10) (.long (own_o2 w v2)) (.long ((0 : Int64) + ((((10 : Int32) - (0 : Int32)).toInt64) * (w.toInt64)))) (.ref en) (.int w) (.int 0) (.int 6) (.int 0) (.long (own_o2 w v2)) (.int pv21) (.long (own_o2 w v2)) (.int 0) (.int 0) (.int 0) (.int 0) (.int 0) T23.heap n0 Z23 I23 G23 gn_b18) hZ (own_w hw 178 rfl) (own_w hw 7 rfl) (by decide) (by decide)) qk24a qk24c (g := (mkF m 226 #[.val (.int p0), .val (.int p1), .val (.int p2), .val (.int v1), .val (.ref en), .val (.int w), .val (.int v2), .val (.int v3), .val (.ref b4), .val (.int v15), .val (.long v16), .second, .val (.long v17), .second, .val (.ref b18), .val (.int 10), .val (.int v22), .unset, .unset, .unset] [(.ref b18)])) rfl (by rw [hml]; rfl) (Steps.refl _) (argsL := []) (rest := []) (lenOf pd10 rfl) rfl (by show 2 * 0 + _ ≤ _; exact Nat.le_of_eq rfl) (hb hby at_226) (fun _ _ => ⟨rfl, rfl, (by decide : 14 + 0 ≤ _), (by decide : 16586 + 0 ≤ _)⟩)
    dsimp only [Pt.U, Pt.locs, Pt.cells, Pt.slots] at X24 l24 y24 z24 st24 hQ24
    subst l24 y24 z24
    obtain ⟨rfl, Nq24, e24⟩ := hQ24
    have N24 := Fr.app N23 Nq24
    refine own_g (T24.setTop (mkF m 229 #[.val (.int p0), .val (.int p1), .val (.int p2), .val (.int v1), .val (.ref en), .val (.int w), .val (.int v2), .val (.int v3), .val (.ref b4), .val (.int v15), .val (.long v16), .second, .val (.long v17), .second, .val (.ref b18), .val (.int 10), .val (.int v22), .unset, .unset, .unset] [(.int 0)])) (fun _ k => st24.trans k) ?_
    refine own_g (T24.setTop (mkF m 232 #[.val (.int p0), .val (.int p1), .val (.int p2), .val (.int v1), .val (.ref en), .val (.int w), .val (.int v2), .val (.int v3), .val (.ref b4), .val (.int v15), .val (.long v16), .second, .val (.long v17), .second, .val (.ref b18), .val (.int 10), .val (.int v22), .unset, .unset, .unset] [])) (fun _ k => XS.ifNo X24.here hx rfl (hb hby at_229) rfl ((if0 _ _).trans (teq (by decide : (0 : Int32) = (0 : Int32))).2) k) ?_
    refine own_g (T24.setTop (mkF m 234 #[.val (.int p0), .val (.int p1), .val (.int p2), .val (.int v1), .val (.ref en), .val (.int w), .val (.int v2), .val (.int v3), .val (.ref b4), .val (.int v15), .val (.long v16), .second, .val (.long v17), .second, .val (.ref b18), .val (.int 10), .val (.int v22), .unset, .unset, .unset] [(.ref b18)])) (fun _ k => XS.aload X24.here hx rfl (hb hby at_232) rfl rfl k) ?_
    obtain ⟨cq25, kq25, qk25a, qk25b, qk25c⟩ := isOf hZ e24 G23.1
    obtain ⟨_, _, ⟨T25, L25, k25, n25⟩, -, X25, ⟨Lc25, hQ25, l25, y25, z25⟩, st25⟩ := X24.virtualBack hx (y := (⟨"com/example/corridor/corridor/iso20022/MarkupScanner", "pieceOffset", "()J"⟩ : MethodName)) (z := (⟨"com/example/corridor/corridor/iso20022/MarkupScanner", "pieceOffset", "()J"⟩ : MethodName)) hown (mvT hZ (own_w hw 179 rfl)) (mvT hZ (own_w hw 180 rfl)) (notFace_of_selects (args := #[]) (mvT hZ (own_w hw 182 rfl))) (mvT hZ (own_w hw 182 rfl)) (mvT hZ (own_w hw 181 rfl)) (by decide) (backOf (W := 0) (po l Z a0 hw [] b18 b4 k4 v3 en EC w sa (.ref (sa 9)) (.int 0) (.int (-1)) (.long (own_lx v3 (1 : Int64))) (.long (own_lx v3 (1 : Int64))) (.ref b4) (.int 10) (.long (own_o2 w v2)) (.long ((0 : Int64) + ((((10 : Int32) - (0 : Int32)).toInt64) * (w.toInt64)))) (.ref en) (.int w) (.int 0) (.int 0) (.int 6) (.int 0) (.long (own_o2 w v2)) (.int pv21) (own_o2 w v2) (.int 0) (.int 0) (.int 0) (.int 0) (.int 0) T23.heap n0 Z23 I23 G23 gn_b18) hZ (own_w hw 183 rfl) (own_w hw 7 rfl) (by decide) (by decide)) qk25a qk25c (g := (mkF m 234 #[.val (.int p0), .val (.int p1), .val (.int p2), .val (.int v1), .val (.ref en), .val (.int w), .val (.int v2), .val (.int v3), .val (.ref b4), .val (.int v15), .val (.long v16), .second, .val (.long v17), .second, .val (.ref b18), .val (.int 10), .val (.int v22), .unset, .unset, .unset] [(.ref b18)])) rfl (by rw [hml]; rfl) (Steps.refl _) (argsL := []) (rest := []) (lenOf pd17 rfl) rfl (by show 2 * 0 + _ ≤ _; exact Nat.le_of_eq rfl) (hb hby at_234) (fun _ _ => ⟨rfl, e24, (by decide : 14 + 0 ≤ _), (by decide : 16586 + 0 ≤ _)⟩)
    dsimp only [Pt.U, Pt.locs, Pt.cells, Pt.slots] at X25 l25 y25 z25 st25 hQ25
    subst l25 y25 z25
    obtain ⟨rfl, Nq25, e25⟩ := hQ25
    have N25 := Fr.app N24 Nq25
    refine own_g (T25.setTop (mkF m 237 #[.val (.int p0), .val (.int p1), .val (.int p2), .val (.int v1), .val (.ref en), .val (.int w), .val (.int v2), .val (.int v3), .val (.ref b4), .val (.int v15), .val (.long v16), .second, .val (.long v17), .second, .val (.ref b18), .val (.int 10), .val (.int v22), .unset, .unset, .unset] [(.long (own_o2 w v2))])) (fun _ k => st25.trans k) ?_
    refine own_g (T25.setTop (mkF m 239 #[.val (.int p0), .val (.int p1), .val (.int p2), .val (.int v1), .val (.ref en), .val (.int w), .val (.int v2), .val (.int v3), .val (.ref b4), .val (.int v15), .val (.long v16), .second, .val (.long v17), .second, .val (.ref b18), .val (.int 10), .val (.int v22), .unset, .unset, .unset] [(.long v17), (.long (own_o2 w v2))])) (fun _ k => XS.lload X25.here hx rfl (hb hby at_237) rfl k) ?_
    refine own_g (T25.setTop (mkF m 240 #[.val (.int p0), .val (.int p1), .val (.int p2), .val (.int v1), .val (.ref en), .val (.int w), .val (.int v2), .val (.int v3), .val (.ref b4), .val (.int v15), .val (.long v16), .second, .val (.long v17), .second, .val (.ref b18), .val (.int 10), .val (.int v22), .unset, .unset, .unset] [(.int (lcmpW (own_o2 w v2) v17))])) (fun _ k => XS.lcmp X25.here hx rfl (hb hby at_239) rfl k) ?_
    refine own_g (T25.setTop (mkF m 243 #[.val (.int p0), .val (.int p1), .val (.int p2), .val (.int v1), .val (.ref en), .val (.int w), .val (.int v2), .val (.int v3), .val (.ref b4), .val (.int v15), .val (.long v16), .second, .val (.long v17), .second, .val (.ref b18), .val (.int 10), .val (.int v22), .unset, .unset, .unset] [])) (fun _ k => XS.ifNo X25.here hx rfl (hb hby at_240) rfl ((if0 _ _).trans (teq (own_cutAt HW hv17 : (lcmpW (own_o2 w v2) v17) = (0 : Int32))).2) k) ?_
    refine own_g (T25.setTop (mkF m 245 #[.val (.int p0), .val (.int p1), .val (.int p2), .val (.int v1), .val (.ref en), .val (.int w), .val (.int v2), .val (.int v3), .val (.ref b4), .val (.int v15), .val (.long v16), .second, .val (.long v17), .second, .val (.ref b18), .val (.int 10), .val (.int v22), .unset, .unset, .unset] [(.ref b18)])) (fun _ k => XS.aload X25.here hx rfl (hb hby at_243) rfl rfl k) ?_
    obtain ⟨cq26, kq26, qk26a, qk26b, qk26c⟩ := isOf hZ e25 G23.1
    obtain ⟨_, _, ⟨T26, L26, k26, n26⟩, -, X26, ⟨Lc26, hQ26, l26, y26, z26⟩, st26⟩ := X25.virtualBack hx (y := (⟨"com/example/corridor/corridor/iso20022/MarkupScanner", "line", "()J"⟩ : MethodName)) (z := (⟨"com/example/corridor/corridor/iso20022/MarkupScanner", "line", "()J"⟩ : MethodName)) hown (mvT hZ (own_w hw 184 rfl)) (mvT hZ (own_w hw 185 rfl)) (notFace_of_selects (args := #[]) (mvT hZ (own_w hw 187 rfl))) (mvT hZ (own_w hw 187 rfl)) (mvT hZ (own_w hw 186 rfl)) (by decide) (backOf (W := 0) (lnn l Z a0 hw [] b18 b4 k4 v3 en EC w sa (.ref (sa 9)) (.int 0) (.int (-1)) (.long (own_lx v3 (1 : Int64))) (own_lx v3 (1 : Int64)) (.ref b4) (.int 10) (.long (own_o2 w v2)) (.long ((0 : Int64) + ((((10 : Int32) - (0 : Int32)).toInt64) * (w.toInt64)))) (.ref en) (.int w) (.int 0) (.int 0) (.int 6) (.int 0) (.long (own_o2 w v2)) (.int pv21) (.long (own_o2 w v2)) (.int 0) (.int 0) (.int 0) (.int 0) (.int 0) T23.heap n0 Z23 I23 G23 gn_b18) hZ (own_w hw 188 rfl) (own_w hw 7 rfl) (by decide) (by decide)) qk26a qk26c (g := (mkF m 245 #[.val (.int p0), .val (.int p1), .val (.int p2), .val (.int v1), .val (.ref en), .val (.int w), .val (.int v2), .val (.int v3), .val (.ref b4), .val (.int v15), .val (.long v16), .second, .val (.long v17), .second, .val (.ref b18), .val (.int 10), .val (.int v22), .unset, .unset, .unset] [(.ref b18)])) rfl (by rw [hml]; rfl) (Steps.refl _) (argsL := []) (rest := []) (lenOf pd17 rfl) rfl (by show 2 * 0 + _ ≤ _; exact Nat.le_of_eq rfl) (hb hby at_245) (fun _ _ => ⟨rfl, e25, (by decide : 14 + 0 ≤ _), (by decide : 16586 + 0 ≤ _)⟩)
    dsimp only [Pt.U, Pt.locs, Pt.cells, Pt.slots] at X26 l26 y26 z26 st26 hQ26
    subst l26 y26 z26
    obtain ⟨rfl, Nq26, e26⟩ := hQ26
    have N26 := Fr.app N25 Nq26
    refine own_g (T26.setTop (mkF m 248 #[.val (.int p0), .val (.int p1), .val (.int p2), .val (.int v1), .val (.ref en), .val (.int w), .val (.int v2), .val (.int v3), .val (.ref b4), .val (.int v15), .val (.long v16), .second, .val (.long v17), .second, .val (.ref b18), .val (.int 10), .val (.int v22), .unset, .unset, .unset] [(.long (own_lx v3 (1 : Int64)))])) (fun _ k => st26.trans k) ?_
    refine own_g (T26.setTop (mkF m 250 #[.val (.int p0), .val (.int p1), .val (.int p2), .val (.int v1), .val (.ref en), .val (.int w), .val (.int v2), .val (.int v3), .val (.ref b4), .val (.int v15), .val (.long v16), .second, .val (.long v17), .second, .val (.ref b18), .val (.int 10), .val (.int v22), .unset, .unset, .unset] [(.long v16), (.long (own_lx v3 (1 : Int64)))])) (fun _ k => XS.lload X26.here hx rfl (hb hby at_248) rfl k) ?_
    refine own_g (T26.setTop (mkF m 251 #[.val (.int p0), .val (.int p1), .val (.int p2), .val (.int v1), .val (.ref en), .val (.int w), .val (.int v2), .val (.int v3), .val (.ref b4), .val (.int v15), .val (.long v16), .second, .val (.long v17), .second, .val (.ref b18), .val (.int 10), .val (.int v22), .unset, .unset, .unset] [(.int (lcmpW (own_lx v3 (1 : Int64)) v16))])) (fun _ k => XS.lcmp X26.here hx rfl (hb hby at_250) rfl k) ?_
    refine own_g (T26.setTop (mkF m 254 #[.val (.int p0), .val (.int p1), .val (.int p2), .val (.int v1), .val (.ref en), .val (.int w), .val (.int v2), .val (.int v3), .val (.ref b4), .val (.int v15), .val (.long v16), .second, .val (.long v17), .second, .val (.ref b18), .val (.int 10), .val (.int v22), .unset, .unset, .unset] [])) (fun _ k => XS.ifNo X26.here hx rfl (hb hby at_251) rfl ((if0 _ _).trans (teq ((lw_eq _ _).mpr hv16 : (lcmpW (own_lx v3 (1 : Int64)) v16) = (0 : Int32))).2) k) ?_
    refine own_g (T26.setTop (mkF m 255 #[.val (.int p0), .val (.int p1), .val (.int p2), .val (.int v1), .val (.ref en), .val (.int w), .val (.int v2), .val (.int v3), .val (.ref b4), .val (.int v15), .val (.long v16), .second, .val (.long v17), .second, .val (.ref b18), .val (.int 10), .val (.int v22), .unset, .unset, .unset] [(.int 1)])) (fun _ k => XS.iconst X26.here hx rfl (hb hby at_254) k) ?_
    refine own_g (T26.setTop (mkF m 259 #[.val (.int p0), .val (.int p1), .val (.int p2), .val (.int v1), .val (.ref en), .val (.int w), .val (.int v2), .val (.int v3), .val (.ref b4), .val (.int v15), .val (.long v16), .second, .val (.long v17), .second, .val (.ref b18), .val (.int 10), .val (.int v22), .unset, .unset, .unset] [(.int 1)])) (fun _ k => XS.goto X26.here hx rfl (pc0 := 255) (pc' := 259) rfl (hb hby at_255) (by decide) (by decide) k) ?_
    refine own_g (T26.setTop (mkF m 261 #[.val (.int p0), .val (.int p1), .val (.int p2), .val (.int v1), .val (.ref en), .val (.int w), .val (.int v2), .val (.int v3), .val (.ref b4), .val (.int v15), .val (.long v16), .second, .val (.long v17), .second, .val (.ref b18), .val (.int 10), .val (.int v22), .val (.int 1), .unset, .unset] [])) (fun _ k => XS.istore X26.here hx rfl (hb hby at_259) rfl (l' := #[.val (.int p0), .val (.int p1), .val (.int p2), .val (.int v1), .val (.ref en), .val (.int w), .val (.int v2), .val (.int v3), .val (.ref b4), .val (.int v15), .val (.long v16), .second, .val (.long v17), .second, .val (.ref b18), .val (.int 10), .val (.int v22), .val (.int 1), .unset, .unset]) rfl k) ?_
    exact seg261 v1 en w v2 v3 b4 v15 v16 v17 b18 v22 EC k4 pv21 _ _ _ _ _ HW hEC gn_b18 hv16 hv17 hv22 X26 e26 N26 Z23 I23 G23 hS (by exact (Nat.le_trans hk Kq23.1)) hZ hown hCt23
  have seg201 : ∀ (v1 : Int32) (en : Addr) (w : Int32) (v2 : Int32) (v3 : Int32) (b4 : Addr) (v15 : Int32) (v16 : Int64) (v17 : Int64) (b18 : Addr) (EC : String) (k4 : ClassId) (T : State) (locs : List Loc) (h : Heap) (vm : Vm) (k0 : Nat) (HW : own_W w v2 v15) (hEC : EC = "com/example/corridor/corridor/iso20022/MarkupScanner$Encoding" ∨ EC = "com/example/corridor/corridor/iso20022/MarkupScanner$Encoding$1" ∨ EC = "com/example/corridor/corridor/iso20022/MarkupScanner$Encoding$2") (gn_b18 : n0 ≤ b18) (hv16 : (own_lx v3 (1 : Int64)) = v16) (hv17 : ((((9 : Int32) + v2).toInt64) * (w.toInt64)) = v17) (X : Stand p l e room_1 (s.setVm vm) m #[(.int p0), (.int p1), (.int p2)] below meth c T locs 14 16586) (eT : T.heap = h) (N : Fr n0 locs) (Zh : n0 ≤ h.size) (Ih : own_I Z h b18 b4 k4 v3 en EC w sa) (Gh : own_G Z h b18 [(.ref (sa 9)), (.int 0), (.int (-1)), (.long 1), (.long (own_lx v3 (1 : Int64))), (.ref b4), (.int 0), (.long ((0 : Int64) + ((((10 : Int32) - (0 : Int32)).toInt64) * (w.toInt64)))), (.long 0), (.ref en), (.int w), (.int 0), (.int 0), (.int 6), (.int (own_mk v3)), (.long ((0 : Int64) + ((((9 : Int32) - (0 : Int32)).toInt64) * (w.toInt64)))), (.int (nar .char v3)), (.long ((0 : Int64) + ((((0 : Int32) - (0 : Int32)).toInt64) * (w.toInt64)))), (.int 0), (.int 0), (.int 0), (.int 0), (.int 0)]) (hS : s.Since vm k0) (hk : k0 ≤ h.size) (hZ : Z.Warmed39 (s.setVm vm).vm) (hown : (s.setVm vm).vm.findClass "com/example/corridor/corridor/iso20022/MarkupScannerCutPinLaw" = some m.cls) (hCv : CHr Z own_EL s.vm s.heap vm h), own_Goes p e below (own_EndW s Z own_EL (own_True n0) 16 33984) (T.setTop (mkF m 201 #[.val (.int p0), .val (.int p1), .val (.int p2), .val (.int v1), .val (.ref en), .val (.int w), .val (.int v2), .val (.int v3), .val (.ref b4), .val (.int v15), .val (.long v16), .second, .val (.long v17), .second, .val (.ref b18), .val (.int 10), .unset, .unset, .unset, .unset] [])) := by
    intro v1 en w v2 v3 b4 v15 v16 v17 b18 EC k4 T locs h vm k0 HW hEC gn_b18 hv16 hv17 X eT N Zh Ih Gh hS hk hZ hown hCv
    refine own_g (T.setTop (mkF m 203 #[.val (.int p0), .val (.int p1), .val (.int p2), .val (.int v1), .val (.ref en), .val (.int w), .val (.int v2), .val (.int v3), .val (.ref b4), .val (.int v15), .val (.long v16), .second, .val (.long v17), .second, .val (.ref b18), .val (.int 10), .unset, .unset, .unset, .unset] [(.ref b18)])) (fun _ k => XS.aload X.here hx rfl (hb hby at_201) rfl rfl k) ?_
    refine own_g (T.setTop (mkF m 205 #[.val (.int p0), .val (.int p1), .val (.int p2), .val (.int v1), .val (.ref en), .val (.int w), .val (.int v2), .val (.int v3), .val (.ref b4), .val (.int v15), .val (.long v16), .second, .val (.long v17), .second, .val (.ref b18), .val (.int 10), .unset, .unset, .unset, .unset] [(.ref b4), (.ref b18)])) (fun _ k => XS.aload X.here hx rfl (hb hby at_203) rfl rfl k) ?_
    refine own_g (T.setTop (mkF m 207 #[.val (.int p0), .val (.int p1), .val (.int p2), .val (.int v1), .val (.ref en), .val (.int w), .val (.int v2), .val (.int v3), .val (.ref b4), .val (.int v15), .val (.long v16), .second, .val (.long v17), .second, .val (.ref b18), .val (.int 10), .unset, .unset, .unset, .unset] [(.int 10), (.ref b4), (.ref b18)])) (fun _ k => XS.bipush X.here hx rfl (hb hby at_205) k) ?_
    refine own_g (T.setTop (mkF m 209 #[.val (.int p0), .val (.int p1), .val (.int p2), .val (.int v1), .val (.ref en), .val (.int w), .val (.int v2), .val (.int v3), .val (.ref b4), .val (.int v15), .val (.long v16), .second, .val (.long v17), .second, .val (.ref b18), .val (.int 10), .unset, .unset, .unset, .unset] [(.int 10), (.int 10), (.ref b4), (.ref b18)])) (fun _ k => XS.bipush X.here hx rfl (hb hby at_207) k) ?_
    refine own_g (T.setTop (mkF m 211 #[.val (.int p0), .val (.int p1), .val (.int p2), .val (.int v1), .val (.ref en), .val (.int w), .val (.int v2), .val (.int v3), .val (.ref b4), .val (.int v15), .val (.long v16), .second, .val (.long v17), .second, .val (.ref b18), .val (.int 10), .unset, .unset, .unset, .unset] [(.int v2), (.int 10), (.int 10), (.ref b4), (.ref b18)])) (fun _ k => XS.iload X.here hx rfl (hb hby at_209) rfl k) ?_
    refine own_g (T.setTop (mkF m 212 #[.val (.int p0), .val (.int p1), .val (.int p2), .val (.int v1), .val (.ref en), .val (.int w), .val (.int v2), .val (.int v3), .val (.ref b4), .val (.int v15), .val (.long v16), .second, .val (.long v17), .second, .val (.ref b18), .val (.int 10), .unset, .unset, .unset, .unset] [(.int ((10 : Int32) + v2)), (.int 10), (.ref b4), (.ref b18)])) (fun _ k => XS.iadd X.here hx rfl (hb hby at_211) rfl k) ?_
    refine own_g (T.setTop (mkF m 214 #[.val (.int p0), .val (.int p1), .val (.int p2), .val (.int v1), .val (.ref en), .val (.int w), .val (.int v2), .val (.int v3), .val (.ref b4), .val (.int v15), .val (.long v16), .second, .val (.long v17), .second, .val (.ref b18), .val (.int 10), .unset, .unset, .unset, .unset] [(.ref en), (.int ((10 : Int32) + v2)), (.int 10), (.ref b4), (.ref b18)])) (fun _ k => XS.aload X.here hx rfl (hb hby at_212) rfl rfl k) ?_
    obtain ⟨cq21, kq21, qk21a, qk21b, qk21c⟩ := isOf hZ eT Gh.1
    obtain ⟨_, _, ⟨T21, L21, k21, n21⟩, -, X21, ⟨Lc21, hQ21, l21, y21, z21⟩, st21⟩ := X.virtualBack hx (y := (⟨"com/example/corridor/corridor/iso20022/MarkupScanner", "scan", "([CIILcom/example/corridor/corridor/iso20022/MarkupScanner$Encoding;)I"⟩ : MethodName)) (z := (⟨"com/example/corridor/corridor/iso20022/MarkupScanner", "scan", "([CIILcom/example/corridor/corridor/iso20022/MarkupScanner$Encoding;)I"⟩ : MethodName)) hown (mvT hZ (own_w hw 27 rfl)) (mvT hZ (own_w hw 28 rfl)) (notFace_of_selects (args := #[]) (mvT hZ (own_w hw 30 rfl))) (mvT hZ (own_w hw 30 rfl)) (mvT hZ (own_w hw 29 rfl)) (by decide) (backOf (W := 0) (scanB l Z a0 hw [] b18 b4 (10 : Int32) ((10 : Int32) + v2) en k4 v3 EC w sa (.int 0) (.long 1) (.long (own_lx v3 (1 : Int64))) (.ref b4) (.int 0) ((0 : Int64) + ((((10 : Int32) - (0 : Int32)).toInt64) * (w.toInt64))) (.long 0) (.ref en) (.int w) (.int 6) (own_mk v3) ((0 : Int64) + ((((9 : Int32) - (0 : Int32)).toInt64) * (w.toInt64))) (nar .char v3) (.long ((0 : Int64) + ((((0 : Int32) - (0 : Int32)).toInt64) * (w.toInt64)))) (.int 0) (.int 0) (.int 0) (.int 0) (.int 0) ((9 : Int32) + v2) h n0 Zh Ih Gh gn_b18 (own_HC2 HW) (by decide) (by have hA := HW.1; have hB := HW.2; have := own_s9 HW; omega) (by have hA := HW.1; have hB := HW.2; have := own_s10 HW; have := (by decide : (10 : Int32).toInt = 10); omega) (by have hA := HW.1; have hB := HW.2; have := own_s10 HW; have := (by decide : (10 : Int32).toInt = 10); omega) (by have hA := HW.1; have hB := HW.2; have := own_s9 HW; have := own_s10 HW; omega) (fun q => absurd q (by have hA := HW.1; have hB := HW.2; have := own_s9 HW; have := (by decide : (10 : Int32).toInt = 10); omega)) (fun q => absurd q (by have hA := HW.1; have hB := HW.2; have := own_s9 HW; have := (by decide : (10 : Int32).toInt = 10); omega)) hEC) hZ (own_w hw 31 rfl) (own_w hw 7 rfl) (by decide) (by decide)) qk21a qk21c (g := (mkF m 214 #[.val (.int p0), .val (.int p1), .val (.int p2), .val (.int v1), .val (.ref en), .val (.int w), .val (.int v2), .val (.int v3), .val (.ref b4), .val (.int v15), .val (.long v16), .second, .val (.long v17), .second, .val (.ref b18), .val (.int 10), .unset, .unset, .unset, .unset] [(.ref en), (.int ((10 : Int32) + v2)), (.int 10), (.ref b4), (.ref b18)])) rfl (by rw [hml]; rfl) (Steps.refl _) (argsL := [(.ref b4), (.int 10), (.int ((10 : Int32) + v2)), (.ref en)]) (rest := []) (lenOf pd16 rfl) rfl (by show 2 * 0 + _ ≤ _; exact Nat.le_of_eq rfl) (hb hby at_214) (fun _ _ => ⟨rfl, eT, (by decide : 14 + 0 ≤ _), (by decide : 16586 + 0 ≤ _)⟩)
    dsimp only [Pt.U, Pt.locs, Pt.cells, Pt.slots] at X21 l21 y21 z21 st21 hQ21
    subst l21 y21 z21
    obtain ⟨pv21, rfl, Nq21, Kq21, Gq21⟩ := hQ21
    have N21 := Fr.app N Nq21
    have I21 : own_I Z T21.heap b18 b4 k4 v3 en EC w sa := Ih.keep Kq21 Gh.1
    have G21 : own_G Z T21.heap b18 [(.ref (sa 9)), (.int 0), (.int (-1)), (.long 1), (.long (own_lx v3 (1 : Int64))), (.ref b4), (.int 10), (.long (((0 : Int64) + ((((10 : Int32) - (0 : Int32)).toInt64) * (w.toInt64))) + (((((9 : Int32) + v2) - (10 : Int32)).toInt64) * (w.toInt64)))), (.long ((0 : Int64) + ((((10 : Int32) - (0 : Int32)).toInt64) * (w.toInt64)))), (.ref en), (.int w), (.int 1), (.int 0), (.int 6), (.int 0), (.long ((0 : Int64) + ((((9 : Int32) - (0 : Int32)).toInt64) * (w.toInt64)))), (.int pv21), (.long ((0 : Int64) + ((((0 : Int32) - (0 : Int32)).toInt64) * (w.toInt64)))), (.int 0), (.int 0), (.int 0), (.int 0), (.int 0)] := Gq21
    have hCt21 := hCv.trans (CHr.keep Kq21 (own_safe1 hZ.alike Gh.1) hCv.1)
    have Z21 : n0 ≤ T21.heap.size := Nat.le_trans Zh Kq21.1
    refine own_g (T21.setTop (mkF m 217 #[.val (.int p0), .val (.int p1), .val (.int p2), .val (.int v1), .val (.ref en), .val (.int w), .val (.int v2), .val (.int v3), .val (.ref b4), .val (.int v15), .val (.long v16), .second, .val (.long v17), .second, .val (.ref b18), .val (.int 10), .unset, .unset, .unset, .unset] [(.int ((9 : Int32) + v2))])) (fun _ k => st21.trans k) ?_
    generalize hv22 : ((9 : Int32) + v2) = v22
    refine own_g (T21.setTop (mkF m 219 #[.val (.int p0), .val (.int p1), .val (.int p2), .val (.int v1), .val (.ref en), .val (.int w), .val (.int v2), .val (.int v3), .val (.ref b4), .val (.int v15), .val (.long v16), .second, .val (.long v17), .second, .val (.ref b18), .val (.int 10), .val (.int v22), .unset, .unset, .unset] [])) (fun _ k => XS.istore X21.here hx rfl (hb hby at_217) rfl (l' := #[.val (.int p0), .val (.int p1), .val (.int p2), .val (.int v1), .val (.ref en), .val (.int w), .val (.int v2), .val (.int v3), .val (.ref b4), .val (.int v15), .val (.long v16), .second, .val (.long v17), .second, .val (.ref b18), .val (.int 10), .val (.int v22), .unset, .unset, .unset]) rfl k) ?_
    exact seg219 v1 en w v2 v3 b4 v15 v16 v17 b18 v22 EC k4 pv21 _ _ _ _ _ HW hEC gn_b18 hv16 hv17 hv22 X21 rfl N21 Z21 I21 G21 hS (by exact (Nat.le_trans hk Kq21.1)) hZ hown hCt21
  have seg187 : ∀ (v1 : Int32) (en : Addr) (w : Int32) (v2 : Int32) (v3 : Int32) (b4 : Addr) (v15 : Int32) (v16 : Int64) (v17 : Int64) (b18 : Addr) (EC : String) (k4 : ClassId) (T : State) (locs : List Loc) (h : Heap) (vm : Vm) (k0 : Nat) (HW : own_W w v2 v15) (hEC : EC = "com/example/corridor/corridor/iso20022/MarkupScanner$Encoding" ∨ EC = "com/example/corridor/corridor/iso20022/MarkupScanner$Encoding$1" ∨ EC = "com/example/corridor/corridor/iso20022/MarkupScanner$Encoding$2") (gn_b18 : n0 ≤ b18) (hv16 : (own_lx v3 (1 : Int64)) = v16) (hv17 : ((((9 : Int32) + v2).toInt64) * (w.toInt64)) = v17) (X : Stand p l e room_1 (s.setVm vm) m #[(.int p0), (.int p1), (.int p2)] below meth c T locs 2 16418) (eT : T.heap = h) (N : Fr n0 locs) (Zh : n0 ≤ h.size) (Ih : own_I Z h b18 b4 k4 v3 en EC w sa) (Gh : own_G Z h b18 [(.ref (sa 0)), (.int 1), (.int (-1)), (.long 1), (.long 1), .null, (.int 0), (.long 0), (.long 0), .null, (.int 0), (.int 0), (.int 0), (.int 0), (.int 0), (.long 0), (.int 0), (.long 0), (.int 0), (.int 0), (.int 0), (.int 0), (.int 0)]) (hS : s.Since vm k0) (hk : k0 ≤ h.size) (hZ : Z.Warmed39 (s.setVm vm).vm) (hown : (s.setVm vm).vm.findClass "com/example/corridor/corridor/iso20022/MarkupScannerCutPinLaw" = some m.cls) (hCv : CHr Z own_EL s.vm s.heap vm h) (S_Cs : Sta Z h "java/lang/String" "COMPACT_STRINGS" "Z" (.int wC)) (S_Fs : Sta Z h "jdk/internal/util/Preconditions" "SIOOBE_FORMATTER" "Ljava/util/function/BiFunction;" wF), own_Goes p e below (own_EndW s Z own_EL (own_True n0) 16 33984) (T.setTop (mkF m 187 #[.val (.int p0), .val (.int p1), .val (.int p2), .val (.int v1), .val (.ref en), .val (.int w), .val (.int v2), .val (.int v3), .val (.ref b4), .val (.int v15), .val (.long v16), .second, .val (.long v17), .second, .val (.ref b18), .unset, .unset, .unset, .unset, .unset] [])) := by
    intro v1 en w v2 v3 b4 v15 v16 v17 b18 EC k4 T locs h vm k0 HW hEC gn_b18 hv16 hv17 X eT N Zh Ih Gh hS hk hZ hown hCv S_Cs S_Fs
    refine own_g (T.setTop (mkF m 189 #[.val (.int p0), .val (.int p1), .val (.int p2), .val (.int v1), .val (.ref en), .val (.int w), .val (.int v2), .val (.int v3), .val (.ref b4), .val (.int v15), .val (.long v16), .second, .val (.long v17), .second, .val (.ref b18), .unset, .unset, .unset, .unset, .unset] [(.ref b18)])) (fun _ k => XS.aload X.here hx rfl (hb hby at_187) rfl rfl k) ?_
    refine own_g (T.setTop (mkF m 191 #[.val (.int p0), .val (.int p1), .val (.int p2), .val (.int v1), .val (.ref en), .val (.int w), .val (.int v2), .val (.int v3), .val (.ref b4), .val (.int v15), .val (.long v16), .second, .val (.long v17), .second, .val (.ref b18), .unset, .unset, .unset, .unset, .unset] [(.ref b4), (.ref b18)])) (fun _ k => XS.aload X.here hx rfl (hb hby at_189) rfl rfl k) ?_
    refine own_g (T.setTop (mkF m 192 #[.val (.int p0), .val (.int p1), .val (.int p2), .val (.int v1), .val (.ref en), .val (.int w), .val (.int v2), .val (.int v3), .val (.ref b4), .val (.int v15), .val (.long v16), .second, .val (.long v17), .second, .val (.ref b18), .unset, .unset, .unset, .unset, .unset] [(.int 0), (.ref b4), (.ref b18)])) (fun _ k => XS.iconst X.here hx rfl (hb hby at_191) k) ?_
    refine own_g (T.setTop (mkF m 194 #[.val (.int p0), .val (.int p1), .val (.int p2), .val (.int v1), .val (.ref en), .val (.int w), .val (.int v2), .val (.int v3), .val (.ref b4), .val (.int v15), .val (.long v16), .second, .val (.long v17), .second, .val (.ref b18), .unset, .unset, .unset, .unset, .unset] [(.int 10), (.int 0), (.ref b4), (.ref b18)])) (fun _ k => XS.bipush X.here hx rfl (hb hby at_192) k) ?_
    refine own_g (T.setTop (mkF m 196 #[.val (.int p0), .val (.int p1), .val (.int p2), .val (.int v1), .val (.ref en), .val (.int w), .val (.int v2), .val (.int v3), .val (.ref b4), .val (.int v15), .val (.long v16), .second, .val (.long v17), .second, .val (.ref b18), .unset, .unset, .unset, .unset, .unset] [(.ref en), (.int 10), (.int 0), (.ref b4), (.ref b18)])) (fun _ k => XS.aload X.here hx rfl (hb hby at_194) rfl rfl k) ?_
    obtain ⟨cq20, kq20, qk20a, qk20b, qk20c⟩ := isOf hZ eT Gh.1
    obtain ⟨_, _, ⟨T20, L20, k20, n20⟩, -, Xs20, hs20, hg20, ⟨Lc20, hQ20, l20, y20, z20, hD20⟩, st20⟩ := X.virtualBackS hx (y := (⟨"com/example/corridor/corridor/iso20022/MarkupScanner", "scan", "([CIILcom/example/corridor/corridor/iso20022/MarkupScanner$Encoding;)I"⟩ : MethodName)) (z := (⟨"com/example/corridor/corridor/iso20022/MarkupScanner", "scan", "([CIILcom/example/corridor/corridor/iso20022/MarkupScanner$Encoding;)I"⟩ : MethodName)) hown (mvT hZ (own_w hw 27 rfl)) (mvT hZ (own_w hw 28 rfl)) (notFace_of_selects (args := #[]) (mvT hZ (own_w hw 30 rfl))) (mvT hZ (own_w hw 30 rfl)) (mvT hZ (own_w hw 29 rfl)) (by decide) (backOfSH (W := 0) (s := s) (vm0 := vm) (scan1 l Z a0 hw [] b18 b4 en k4 v3 EC w sa wC wF h n0 Zh Ih Gh gn_b18 hEL hStr S_Cs hC S_Fs hG) hZ (own_w hw 31 rfl) (own_w hw 7 rfl) (by decide) (by decide) hEL hCv.1) qk20a qk20c (g := (mkF m 196 #[.val (.int p0), .val (.int p1), .val (.int p2), .val (.int v1), .val (.ref en), .val (.int w), .val (.int v2), .val (.int v3), .val (.ref b4), .val (.int v15), .val (.long v16), .second, .val (.long v17), .second, .val (.ref b18), .unset, .unset, .unset, .unset, .unset] [(.ref en), (.int 10), (.int 0), (.ref b4), (.ref b18)])) rfl (by rw [hml]; rfl) (Steps.refl _) (argsL := [(.ref b4), (.int 0), (.int 10), (.ref en)]) (rest := []) (lenOf pd16 rfl) rfl (by show 2 * 0 + _ ≤ _; exact Nat.le_of_eq rfl) (hb hby at_196) (fun _ _ => ⟨rfl, eT, (by decide : 2 + 12 ≤ _), (by decide : 16418 + 168 ≤ _)⟩)
    dsimp only [Pt.U, Pt.locs, Pt.cells, Pt.slots] at Xs20 hs20 hg20 l20 y20 z20 st20 hQ20 hD20
    subst l20 y20 z20
    obtain ⟨X20, hS20, hZ, hown⟩ := rebS hS (by rw [eT]; exact hk) Xs20 hs20 hg20 hZ hown
    have hCt20 := hCv.trans hD20
    obtain ⟨rfl, Nq20, Kq20, Gq20⟩ := hQ20
    have N20 := Fr.app N Nq20
    have I20 : own_I Z T20.heap b18 b4 k4 v3 en EC w sa := Ih.keep Kq20 Gh.1
    have G20 : own_G Z T20.heap b18 [(.ref (sa 9)), (.int 0), (.int (-1)), (.long 1), (.long (own_lx v3 (1 : Int64))), (.ref b4), (.int 0), (.long ((0 : Int64) + ((((10 : Int32) - (0 : Int32)).toInt64) * (w.toInt64)))), (.long 0), (.ref en), (.int w), (.int 0), (.int 0), (.int 6), (.int (own_mk v3)), (.long ((0 : Int64) + ((((9 : Int32) - (0 : Int32)).toInt64) * (w.toInt64)))), (.int (nar .char v3)), (.long ((0 : Int64) + ((((0 : Int32) - (0 : Int32)).toInt64) * (w.toInt64)))), (.int 0), (.int 0), (.int 0), (.int 0), (.int 0)] := Gq20
    have S_Cs_c20 := own_stk S_Cs Kq20 Gh.1
    have S_Fs_c20 := own_stk S_Fs Kq20 Gh.1
    have Z20 : n0 ≤ T20.heap.size := Nat.le_trans Zh Kq20.1
    refine own_g (T20.setTop (mkF m 199 #[.val (.int p0), .val (.int p1), .val (.int p2), .val (.int v1), .val (.ref en), .val (.int w), .val (.int v2), .val (.int v3), .val (.ref b4), .val (.int v15), .val (.long v16), .second, .val (.long v17), .second, .val (.ref b18), .unset, .unset, .unset, .unset, .unset] [(.int 10)])) (fun _ k => st20.trans k) ?_
    refine own_g (T20.setTop (mkF m 201 #[.val (.int p0), .val (.int p1), .val (.int p2), .val (.int v1), .val (.ref en), .val (.int w), .val (.int v2), .val (.int v3), .val (.ref b4), .val (.int v15), .val (.long v16), .second, .val (.long v17), .second, .val (.ref b18), .val (.int 10), .unset, .unset, .unset, .unset] [])) (fun _ k => XS.istore X20.here hx rfl (hb hby at_199) rfl (l' := #[.val (.int p0), .val (.int p1), .val (.int p2), .val (.int v1), .val (.ref en), .val (.int w), .val (.int v2), .val (.int v3), .val (.ref b4), .val (.int v15), .val (.long v16), .second, .val (.long v17), .second, .val (.ref b18), .val (.int 10), .unset, .unset, .unset, .unset]) rfl k) ?_
    exact seg201 v1 en w v2 v3 b4 v15 v16 v17 b18 EC k4 _ _ _ _ _ HW hEC gn_b18 hv16 hv17 X20 rfl N20 Z20 I20 G20 hS20 (by exact (Nat.le_refl _)) hZ hown hCt20
  have seg164 : ∀ (v1 : Int32) (en : Addr) (w : Int32) (v2 : Int32) (v3 : Int32) (b4 : Addr) (v15 : Int32) (EC : String) (k4 : ClassId) (T : State) (locs : List Loc) (h : Heap) (HW : own_W w v2 v15) (hEC : EC = "com/example/corridor/corridor/iso20022/MarkupScanner$Encoding" ∨ EC = "com/example/corridor/corridor/iso20022/MarkupScanner$Encoding$1" ∨ EC = "com/example/corridor/corridor/iso20022/MarkupScanner$Encoding$2") (X : Stand p l e room_1 (s.setVm s.vm) m #[(.int p0), (.int p1), (.int p2)] below meth c T locs 1 16394) (eT : T.heap = h) (N : Fr n0 locs) (Zh : n0 ≤ h.size) (Kh : Keep h0 h []) (f0_ : Sta Z h "java/lang/String" "COMPACT_STRINGS" "Z" (.int wC)) (f1_ : Sta Z h "jdk/internal/util/Preconditions" "SIOOBE_FORMATTER" "Ljava/util/function/BiFunction;" wF) (f2_ : own_J Z h h0.size en EC w sa) (f3_ : Arv Z h b4 k4 .char (16394 : Int32) (own_vs v3) (.int 0)), own_Goes p e below (own_EndW s Z own_EL (own_True n0) 16 33984) (T.setTop (mkF m 164 #[.val (.int p0), .val (.int p1), .val (.int p2), .val (.int v1), .val (.ref en), .val (.int w), .val (.int v2), .val (.int v3), .val (.ref b4), .val (.int v15), .unset, .unset, .unset, .unset, .unset, .unset, .unset, .unset, .unset, .unset] [(.long (own_lx v3 (1 : Int64)))])) := by
    intro v1 en w v2 v3 b4 v15 EC k4 T locs h HW hEC X eT N Zh Kh f0_ f1_ f2_ f3_
    generalize hv16 : (own_lx v3 (1 : Int64)) = v16
    refine own_g (T.setTop (mkF m 166 #[.val (.int p0), .val (.int p1), .val (.int p2), .val (.int v1), .val (.ref en), .val (.int w), .val (.int v2), .val (.int v3), .val (.ref b4), .val (.int v15), .val (.long v16), .second, .unset, .unset, .unset, .unset, .unset, .unset, .unset, .unset] [])) (fun _ k => XS.lstore X.here hx rfl (hb hby at_164) rfl (l' := #[.val (.int p0), .val (.int p1), .val (.int p2), .val (.int v1), .val (.ref en), .val (.int w), .val (.int v2), .val (.int v3), .val (.ref b4), .val (.int v15), .val (.long v16), .second, .unset, .unset, .unset, .unset, .unset, .unset, .unset, .unset]) rfl k) ?_
    refine own_g (T.setTop (mkF m 168 #[.val (.int p0), .val (.int p1), .val (.int p2), .val (.int v1), .val (.ref en), .val (.int w), .val (.int v2), .val (.int v3), .val (.ref b4), .val (.int v15), .val (.long v16), .second, .unset, .unset, .unset, .unset, .unset, .unset, .unset, .unset] [(.int 9)])) (fun _ k => XS.bipush X.here hx rfl (hb hby at_166) k) ?_
    refine own_g (T.setTop (mkF m 170 #[.val (.int p0), .val (.int p1), .val (.int p2), .val (.int v1), .val (.ref en), .val (.int w), .val (.int v2), .val (.int v3), .val (.ref b4), .val (.int v15), .val (.long v16), .second, .unset, .unset, .unset, .unset, .unset, .unset, .unset, .unset] [(.int v2), (.int 9)])) (fun _ k => XS.iload X.here hx rfl (hb hby at_168) rfl k) ?_
    refine own_g (T.setTop (mkF m 171 #[.val (.int p0), .val (.int p1), .val (.int p2), .val (.int v1), .val (.ref en), .val (.int w), .val (.int v2), .val (.int v3), .val (.ref b4), .val (.int v15), .val (.long v16), .second, .unset, .unset, .unset, .unset, .unset, .unset, .unset, .unset] [(.int ((9 : Int32) + v2))])) (fun _ k => XS.iadd X.here hx rfl (hb hby at_170) rfl k) ?_
    refine own_g (T.setTop (mkF m 172 #[.val (.int p0), .val (.int p1), .val (.int p2), .val (.int v1), .val (.ref en), .val (.int w), .val (.int v2), .val (.int v3), .val (.ref b4), .val (.int v15), .val (.long v16), .second, .unset, .unset, .unset, .unset, .unset, .unset, .unset, .unset] [(.long (((9 : Int32) + v2).toInt64))])) (fun _ k => XS.i2l X.here hx rfl (hb hby at_171) rfl k) ?_
    refine own_g (T.setTop (mkF m 174 #[.val (.int p0), .val (.int p1), .val (.int p2), .val (.int v1), .val (.ref en), .val (.int w), .val (.int v2), .val (.int v3), .val (.ref b4), .val (.int v15), .val (.long v16), .second, .unset, .unset, .unset, .unset, .unset, .unset, .unset, .unset] [(.int w), (.long (((9 : Int32) + v2).toInt64))])) (fun _ k => XS.iload X.here hx rfl (hb hby at_172) rfl k) ?_
    refine own_g (T.setTop (mkF m 175 #[.val (.int p0), .val (.int p1), .val (.int p2), .val (.int v1), .val (.ref en), .val (.int w), .val (.int v2), .val (.int v3), .val (.ref b4), .val (.int v15), .val (.long v16), .second, .unset, .unset, .unset, .unset, .unset, .unset, .unset, .unset] [(.long (w.toInt64)), (.long (((9 : Int32) + v2).toInt64))])) (fun _ k => XS.i2l X.here hx rfl (hb hby at_174) rfl k) ?_
    refine own_g (T.setTop (mkF m 176 #[.val (.int p0), .val (.int p1), .val (.int p2), .val (.int v1), .val (.ref en), .val (.int w), .val (.int v2), .val (.int v3), .val (.ref b4), .val (.int v15), .val (.long v16), .second, .unset, .unset, .unset, .unset, .unset, .unset, .unset, .unset] [(.long ((((9 : Int32) + v2).toInt64) * (w.toInt64)))])) (fun _ k => XS.lmul X.here hx rfl (hb hby at_175) rfl k) ?_
    generalize hv17 : ((((9 : Int32) + v2).toInt64) * (w.toInt64)) = v17
    refine own_g (T.setTop (mkF m 178 #[.val (.int p0), .val (.int p1), .val (.int p2), .val (.int v1), .val (.ref en), .val (.int w), .val (.int v2), .val (.int v3), .val (.ref b4), .val (.int v15), .val (.long v16), .second, .val (.long v17), .second, .unset, .unset, .unset, .unset, .unset, .unset] [])) (fun _ k => XS.lstore X.here hx rfl (hb hby at_176) rfl (l' := #[.val (.int p0), .val (.int p1), .val (.int p2), .val (.int v1), .val (.ref en), .val (.int w), .val (.int v2), .val (.int v3), .val (.ref b4), .val (.int v15), .val (.long v16), .second, .val (.long v17), .second, .unset, .unset, .unset, .unset, .unset, .unset]) rfl k) ?_
    obtain ⟨T18, h18, X18, e18, E18, A18, D18, -, st18⟩ := newO X hx hZ hown (own_w hw 5 rfl) (own_w hw 6 rfl) (own_w hw 7 rfl) eT (g := (mkF m 178 #[.val (.int p0), .val (.int p1), .val (.int p2), .val (.int v1), .val (.ref en), .val (.int w), .val (.int v2), .val (.int v3), .val (.ref b4), .val (.int v15), .val (.long v16), .second, .val (.long v17), .second, .unset, .unset, .unset, .unset, .unset, .unset] [])) rfl (hb hby at_178) (by decide) (by decide)
    obtain ⟨b18, g18⟩ : ∃ z, z = h.size := ⟨_, rfl⟩
    rw [← g18] at A18 D18 st18
    have gn_b18 : n0 ≤ b18 := Nat.le_trans Zh (Nat.le_of_eq g18.symm)
    have ne_b4_b18 : b4 ≠ b18 := Nat.ne_of_lt (Nat.lt_of_lt_of_le f3_.lt (Nat.le_of_eq g18.symm))
    have sz_b18 : h0.size ≤ b18 := Nat.le_trans Kh.1 (Nat.le_of_eq g18.symm)
    have f0__c18 : Sta Z h18 "java/lang/String" "COMPACT_STRINGS" "Z" (.int wC) := f0_.ext E18
    have f1__c18 : Sta Z h18 "jdk/internal/util/Preconditions" "SIOOBE_FORMATTER" "Ljava/util/function/BiFunction;" wF := f1_.ext E18
    have f2__c18 : own_J Z h18 h0.size en EC w sa := f2_.ext E18
    have f3__c18 : Arv Z h18 b4 k4 .char (16394 : Int32) (own_vs v3) (.int 0) := f3_.ext E18
    have Z18 : n0 ≤ h18.size := Nat.le_trans Zh E18.1
    have K18 : Keep h0 h18 [] := Kh.ext E18
    have F_state_b18 : Fld Z h18 b18 "com/example/corridor/corridor/iso20022/MarkupScanner" "state" "Lcom/example/corridor/corridor/iso20022/MarkupScanner$State;" .null := D18 (Or.inl (own_w hw 18 rfl)) (ty := (.object "com/example/corridor/corridor/iso20022/MarkupScanner$State")) (by decide)
    have F_textBegins_b18 : Fld Z h18 b18 "com/example/corridor/corridor/iso20022/MarkupScanner" "textBegins" "Z" (.int 0) := D18 (Or.inl (own_w hw 20 rfl)) (ty := .boolean) (by decide)
    have F_pieceIndex_b18 : Fld Z h18 b18 "com/example/corridor/corridor/iso20022/MarkupScanner" "pieceIndex" "I" (.int 0) := D18 (Or.inl (own_w hw 22 rfl)) (ty := .int) (by decide)
    have F_pieceLine_b18 : Fld Z h18 b18 "com/example/corridor/corridor/iso20022/MarkupScanner" "pieceLine" "J" (.long 0) := D18 (Or.inl (own_w hw 24 rfl)) (ty := .long) (by decide)
    have F_line_b18 : Fld Z h18 b18 "com/example/corridor/corridor/iso20022/MarkupScanner" "line" "J" (.long 0) := D18 (Or.inl (own_w hw 26 rfl)) (ty := .long) (by decide)
    have F_units_b18 : Fld Z h18 b18 "com/example/corridor/corridor/iso20022/MarkupScanner" "units" "[C" .null := D18 (Or.inl (own_w hw 33 rfl)) (ty := (.array .char)) (by decide)
    have F_from_b18 : Fld Z h18 b18 "com/example/corridor/corridor/iso20022/MarkupScanner" "from" "I" (.int 0) := D18 (Or.inl (own_w hw 35 rfl)) (ty := .int) (by decide)
    have F_offset_b18 : Fld Z h18 b18 "com/example/corridor/corridor/iso20022/MarkupScanner" "offset" "J" (.long 0) := D18 (Or.inl (own_w hw 37 rfl)) (ty := .long) (by decide)
    have F_fromOffset_b18 : Fld Z h18 b18 "com/example/corridor/corridor/iso20022/MarkupScanner" "fromOffset" "J" (.long 0) := D18 (Or.inl (own_w hw 39 rfl)) (ty := .long) (by decide)
    have F_encoding_b18 : Fld Z h18 b18 "com/example/corridor/corridor/iso20022/MarkupScanner" "encoding" "Lcom/example/corridor/corridor/iso20022/MarkupScanner$Encoding;" .null := D18 (Or.inl (own_w hw 41 rfl)) (ty := (.object "com/example/corridor/corridor/iso20022/MarkupScanner$Encoding")) (by decide)
    have F_width_b18 : Fld Z h18 b18 "com/example/corridor/corridor/iso20022/MarkupScanner" "width" "I" (.int 0) := D18 (Or.inl (own_w hw 45 rfl)) (ty := .int) (by decide)
    have F_cutReady_b18 : Fld Z h18 b18 "com/example/corridor/corridor/iso20022/MarkupScanner" "cutReady" "Z" (.int 0) := D18 (Or.inl (own_w hw 55 rfl)) (ty := .boolean) (by decide)
    have F_limited_b18 : Fld Z h18 b18 "com/example/corridor/corridor/iso20022/MarkupScanner" "limited" "Z" (.int 0) := D18 (Or.inl (own_w hw 74 rfl)) (ty := .boolean) (by decide)
    have F_opened_b18 : Fld Z h18 b18 "com/example/corridor/corridor/iso20022/MarkupScanner" "opened" "I" (.int 0) := D18 (Or.inl (own_w hw 84 rfl)) (ty := .int) (by decide)
    have F_marks_b18 : Fld Z h18 b18 "com/example/corridor/corridor/iso20022/MarkupScanner" "marks" "I" (.int 0) := D18 (Or.inl (own_w hw 135 rfl)) (ty := .int) (by decide)
    have F_cdataOffset_b18 : Fld Z h18 b18 "com/example/corridor/corridor/iso20022/MarkupScanner" "cdataOffset" "J" (.long 0) := D18 (Or.inl (own_w hw 141 rfl)) (ty := .long) (by decide)
    have F_previous_b18 : Fld Z h18 b18 "com/example/corridor/corridor/iso20022/MarkupScanner" "previous" "C" (.int 0) := D18 (Or.inl (own_w hw 161 rfl)) (ty := .char) (by decide)
    have F_pieceOffset_b18 : Fld Z h18 b18 "com/example/corridor/corridor/iso20022/MarkupScanner" "pieceOffset" "J" (.long 0) := D18 (Or.inl (own_w hw 163 rfl)) (ty := .long) (by decide)
    have F_nameIndex_b18 : Fld Z h18 b18 "com/example/corridor/corridor/iso20022/MarkupScanner" "nameIndex" "I" (.int 0) := D18 (Or.inl (own_w hw 210 rfl)) (ty := .int) (by decide)
    have F_nameContinued_b18 : Fld Z h18 b18 "com/example/corridor/corridor/iso20022/MarkupScanner" "nameContinued" "I" (.int 0) := D18 (Or.inl (own_w hw 212 rfl)) (ty := .int) (by decide)
    have F_quote_b18 : Fld Z h18 b18 "com/example/corridor/corridor/iso20022/MarkupScanner" "quote" "C" (.int 0) := D18 (Or.inl (own_w hw 215 rfl)) (ty := .char) (by decide)
    have F_inTarget_b18 : Fld Z h18 b18 "com/example/corridor/corridor/iso20022/MarkupScanner" "inTarget" "Z" (.int 0) := D18 (Or.inl (own_w hw 217 rfl)) (ty := .boolean) (by decide)
    have F_depth_b18 : Fld Z h18 b18 "com/example/corridor/corridor/iso20022/MarkupScanner" "depth" "I" (.int 0) := D18 (Or.inl (own_w hw 219 rfl)) (ty := .int) (by decide)
    refine own_g (T18.setTop (mkF m 181 #[.val (.int p0), .val (.int p1), .val (.int p2), .val (.int v1), .val (.ref en), .val (.int w), .val (.int v2), .val (.int v3), .val (.ref b4), .val (.int v15), .val (.long v16), .second, .val (.long v17), .second, .unset, .unset, .unset, .unset, .unset, .unset] [(.ref b18)])) (st18) ?_
    have Gb : own_G Z h18 b18 [.null, (.int 0), (.int 0), (.long 0), (.long 0), .null, (.int 0), (.long 0), (.long 0), .null, (.int 0), (.int 0), (.int 0), (.int 0), (.int 0), (.long 0), (.int 0), (.long 0), (.int 0), (.int 0), (.int 0), (.int 0), (.int 0)] := own_G.of A18 F_state_b18 F_textBegins_b18 F_pieceIndex_b18 F_pieceLine_b18 F_line_b18 F_units_b18 F_from_b18 F_offset_b18 F_fromOffset_b18 F_encoding_b18 F_width_b18 F_cutReady_b18 F_limited_b18 F_opened_b18 F_marks_b18 F_cdataOffset_b18 F_previous_b18 F_pieceOffset_b18 F_nameIndex_b18 F_nameContinued_b18 F_quote_b18 F_inTarget_b18 F_depth_b18
    have Ib : own_I Z h18 b18 b4 k4 v3 en EC w sa := own_J.I f2__c18 sz_b18 f3__c18 ne_b4_b18
    have hCn := hC0.trans (CHr.keep K18 own_nilS hC0.1)
    refine own_g (T18.setTop (mkF m 182 #[.val (.int p0), .val (.int p1), .val (.int p2), .val (.int v1), .val (.ref en), .val (.int w), .val (.int v2), .val (.int v3), .val (.ref b4), .val (.int v15), .val (.long v16), .second, .val (.long v17), .second, .unset, .unset, .unset, .unset, .unset, .unset] [(.ref b18), (.ref b18)])) (fun _ k => XS.dup X18.here hx rfl (hb hby at_181) rfl rfl k) ?_
    obtain ⟨_, _, ⟨T19, L19, k19, n19⟩, -, X19, ⟨Lc19, hQ19, l19, y19, z19⟩, st19⟩ := X18.specialBack hx (y := (⟨"com/example/corridor/corridor/iso20022/MarkupScanner", "<init>", "()V"⟩ : MethodName)) rfl hown (mvT hZ (own_w hw 8 rfl)) (mvT hZ (own_w hw 9 rfl)) (mvT hZ (own_w hw 10 rfl)) (by decide) (backOf (W := 1) (ini l Z a0 hw [] b18 b4 k4 v3 en EC w sa h18 n0 Z18 Ib Gb gn_b18) hZ (own_w hw 10 rfl) (own_w hw 7 rfl) (by decide) (by decide)) (g := (mkF m 182 #[.val (.int p0), .val (.int p1), .val (.int p2), .val (.int v1), .val (.ref en), .val (.int w), .val (.int v2), .val (.int v3), .val (.ref b4), .val (.int v15), .val (.long v16), .second, .val (.long v17), .second, .unset, .unset, .unset, .unset, .unset, .unset] [(.ref b18), (.ref b18)])) rfl (by rw [hml]; rfl) (Steps.refl _) (a := b18) (argsL := []) (rest := [(.ref b18)]) (lenOf pd15 rfl) rfl (by show 2 * 0 + _ ≤ _; exact Nat.le_of_eq rfl) (hb hby at_182) (fun _ _ => ⟨rfl, e18, (by decide : 2 + 0 ≤ _), (by decide : 16418 + 0 ≤ _)⟩)
    dsimp only [Pt.U, Pt.locs, Pt.cells, Pt.slots] at X19 l19 y19 z19 st19 hQ19
    subst l19 y19 z19
    obtain ⟨rfl, Nq19, Kq19, Gq19⟩ := hQ19
    have N19 := Fr.app N Nq19
    have I19 : own_I Z T19.heap b18 b4 k4 v3 en EC w sa := Ib.keep Kq19 Gb.1
    have G19 : own_G Z T19.heap b18 [(.ref (sa 0)), (.int 1), (.int (-1)), (.long 1), (.long 1), .null, (.int 0), (.long 0), (.long 0), .null, (.int 0), (.int 0), (.int 0), (.int 0), (.int 0), (.long 0), (.int 0), (.long 0), (.int 0), (.int 0), (.int 0), (.int 0), (.int 0)] := Gq19
    have f0__c19 := own_stk f0__c18 Kq19 Gb.1
    have f1__c19 := own_stk f1__c18 Kq19 Gb.1
    have hCt19 := hCn.trans (CHr.keep Kq19 (own_safe1 hZ.alike Gb.1) hCn.1)
    have Z19 : n0 ≤ T19.heap.size := Nat.le_trans Z18 Kq19.1
    refine own_g (T19.setTop (mkF m 185 #[.val (.int p0), .val (.int p1), .val (.int p2), .val (.int v1), .val (.ref en), .val (.int w), .val (.int v2), .val (.int v3), .val (.ref b4), .val (.int v15), .val (.long v16), .second, .val (.long v17), .second, .unset, .unset, .unset, .unset, .unset, .unset] [(.ref b18)])) (fun _ k => st19.trans k) ?_
    refine own_g (T19.setTop (mkF m 187 #[.val (.int p0), .val (.int p1), .val (.int p2), .val (.int v1), .val (.ref en), .val (.int w), .val (.int v2), .val (.int v3), .val (.ref b4), .val (.int v15), .val (.long v16), .second, .val (.long v17), .second, .val (.ref b18), .unset, .unset, .unset, .unset, .unset] [])) (fun _ k => XS.astore X19.here hx rfl (hb hby at_185) rfl rfl (l' := #[.val (.int p0), .val (.int p1), .val (.int p2), .val (.int v1), .val (.ref en), .val (.int w), .val (.int v2), .val (.int v3), .val (.ref b4), .val (.int v15), .val (.long v16), .second, .val (.long v17), .second, .val (.ref b18), .unset, .unset, .unset, .unset, .unset]) rfl k) ?_
    exact seg187 v1 en w v2 v3 b4 v15 v16 v17 b18 EC k4 _ _ _ _ _ HW hEC gn_b18 hv16 hv17 X19 rfl N19 Z19 I19 G19 hS0 (by exact (Nat.le_trans (Nat.zero_le _) Kq19.1)) hZ hown hCt19 f0__c19 f1__c19
  have j45 : ∀ (v1 : Int32) (en : Addr) (EC : String) (w : Int32) (T : State) (X : Stand p l e room_1 (s.setVm s.vm) m #[(.int p0), (.int p1), (.int p2)] below meth c T [] 0 0) (eT : T.heap = h0) (J : own_J Z h0 h0.size en EC w sa) (hEC : EC = "com/example/corridor/corridor/iso20022/MarkupScanner$Encoding" ∨ EC = "com/example/corridor/corridor/iso20022/MarkupScanner$Encoding$1" ∨ EC = "com/example/corridor/corridor/iso20022/MarkupScanner$Encoding$2") (hw1 : w = (1 : Int32) ∨ w = (2 : Int32)), own_Goes p e below (own_EndW s Z own_EL (own_True n0) 16 33984) (T.setTop (mkF m 45 #[.val (.int p0), .val (.int p1), .val (.int p2), .val (.int v1), .val (.ref en), .val (.int w), .unset, .unset, .unset, .unset, .unset, .unset, .unset, .unset, .unset, .unset, .unset, .unset, .unset, .unset] [])) := by
    intro v1 en EC w T X eT J hEC hw1
    refine own_g (T.setTop (mkF m 48 #[.val (.int p0), .val (.int p1), .val (.int p2), .val (.int v1), .val (.ref en), .val (.int w), .unset, .unset, .unset, .unset, .unset, .unset, .unset, .unset, .unset, .unset, .unset, .unset, .unset, .unset] [(.int 8192)])) (fun _ k => XS.sipush X.here hx rfl (hb hby at_45) k) ?_
    refine own_g (T.setTop (mkF m 50 #[.val (.int p0), .val (.int p1), .val (.int p2), .val (.int v1), .val (.ref en), .val (.int w), .unset, .unset, .unset, .unset, .unset, .unset, .unset, .unset, .unset, .unset, .unset, .unset, .unset, .unset] [(.int w), (.int 8192)])) (fun _ k => XS.iload X.here hx rfl (hb hby at_48) rfl k) ?_
    refine own_g (T.setTop (mkF m 51 #[.val (.int p0), .val (.int p1), .val (.int p2), .val (.int v1), .val (.ref en), .val (.int w), .unset, .unset, .unset, .unset, .unset, .unset, .unset, .unset, .unset, .unset, .unset, .unset, .unset, .unset] [(.int ((8192 : Int32) / w))])) (fun _ k => XS.idiv X.here hx rfl (hb hby at_50) rfl (own_wnz hw1) k) ?_
    generalize hv2 : ((8192 : Int32) / w) = v2
    refine own_g (T.setTop (mkF m 53 #[.val (.int p0), .val (.int p1), .val (.int p2), .val (.int v1), .val (.ref en), .val (.int w), .val (.int v2), .unset, .unset, .unset, .unset, .unset, .unset, .unset, .unset, .unset, .unset, .unset, .unset, .unset] [])) (fun _ k => XS.istore X.here hx rfl (hb hby at_51) rfl (l' := #[.val (.int p0), .val (.int p1), .val (.int p2), .val (.int v1), .val (.ref en), .val (.int w), .val (.int v2), .unset, .unset, .unset, .unset, .unset, .unset, .unset, .unset, .unset, .unset, .unset, .unset, .unset]) rfl k) ?_
    refine own_g (T.setTop (mkF m 54 #[.val (.int p0), .val (.int p1), .val (.int p2), .val (.int v1), .val (.ref en), .val (.int w), .val (.int v2), .unset, .unset, .unset, .unset, .unset, .unset, .unset, .unset, .unset, .unset, .unset, .unset, .unset] [(.int p1)])) (fun _ k => XS.iloadN X.here hx rfl (hb hby at_53) rfl k) ?_
    refine own_g (T.setTop (mkF m 57 #[.val (.int p0), .val (.int p1), .val (.int p2), .val (.int v1), .val (.ref en), .val (.int w), .val (.int v2), .unset, .unset, .unset, .unset, .unset, .unset, .unset, .unset, .unset, .unset, .unset, .unset, .unset] [(.int 255), (.int p1)])) (fun _ k => XS.sipush X.here hx rfl (hb hby at_54) k) ?_
    refine own_g (T.setTop (mkF m 58 #[.val (.int p0), .val (.int p1), .val (.int p2), .val (.int v1), .val (.ref en), .val (.int w), .val (.int v2), .unset, .unset, .unset, .unset, .unset, .unset, .unset, .unset, .unset, .unset, .unset, .unset, .unset] [(.int (p1 &&& (255 : Int32)))])) (fun _ k => XS.iand X.here hx rfl (hb hby at_57) rfl k) ?_
    refine own_g (T.setTop (mkF m 59 #[.val (.int p0), .val (.int p1), .val (.int p2), .val (.int v1), .val (.ref en), .val (.int w), .val (.int v2), .unset, .unset, .unset, .unset, .unset, .unset, .unset, .unset, .unset, .unset, .unset, .unset, .unset] [(.int ((p1 &&& (255 : Int32)).toUInt32.toUInt16.toUInt32.toInt32))])) (fun _ k => XS.i2c X.here hx rfl (hb hby at_58) rfl k) ?_
    generalize hv3 : ((p1 &&& (255 : Int32)).toUInt32.toUInt16.toUInt32.toInt32) = v3
    refine own_g (T.setTop (mkF m 61 #[.val (.int p0), .val (.int p1), .val (.int p2), .val (.int v1), .val (.ref en), .val (.int w), .val (.int v2), .val (.int v3), .unset, .unset, .unset, .unset, .unset, .unset, .unset, .unset, .unset, .unset, .unset, .unset] [])) (fun _ k => XS.istore X.here hx rfl (hb hby at_59) rfl (l' := #[.val (.int p0), .val (.int p1), .val (.int p2), .val (.int v1), .val (.ref en), .val (.int w), .val (.int v2), .val (.int v3), .unset, .unset, .unset, .unset, .unset, .unset, .unset, .unset, .unset, .unset, .unset, .unset]) rfl k) ?_
    refine own_g (T.setTop (mkF m 64 #[.val (.int p0), .val (.int p1), .val (.int p2), .val (.int v1), .val (.ref en), .val (.int w), .val (.int v2), .val (.int v3), .unset, .unset, .unset, .unset, .unset, .unset, .unset, .unset, .unset, .unset, .unset, .unset] [(.int 16394)])) (fun _ k => XS.sipush X.here hx rfl (hb hby at_61) k) ?_
    obtain ⟨T4, h4, k4, X4, e4, E4, A4, st4⟩ := newP X hx hZ (own_w hw 4 rfl) eT (g := (mkF m 64 #[.val (.int p0), .val (.int p1), .val (.int p2), .val (.int v1), .val (.ref en), .val (.int w), .val (.int v2), .val (.int v3), .unset, .unset, .unset, .unset, .unset, .unset, .unset, .unset, .unset, .unset, .unset, .unset] [(.int 16394)])) rfl (hb hby at_64) rfl (by decide) (cap := 16394) (by decide) (by decide) (by decide) (by decide)
    obtain ⟨b4, g4⟩ : ∃ z, z = h0.size := ⟨_, rfl⟩
    rw [← g4] at A4 st4
    have gn_b4 : n0 ≤ b4 := Nat.le_trans Z0 (Nat.le_of_eq g4.symm)
    have sz_b4 : h0.size ≤ b4 := Nat.le_trans K0.1 (Nat.le_of_eq g4.symm)
    have S_C_c4 : Sta Z h4 "java/lang/String" "COMPACT_STRINGS" "Z" (.int wC) := S_C.ext E4
    have S_F_c4 : Sta Z h4 "jdk/internal/util/Preconditions" "SIOOBE_FORMATTER" "Ljava/util/function/BiFunction;" wF := S_F.ext E4
    have J_c4 : own_J Z h4 h0.size en EC w sa := J.ext E4
    have Z4 : n0 ≤ h4.size := Nat.le_trans Z0 E4.1
    have K4 : Keep h0 h4 [] := K0.ext E4
    have V_b4 : Arv Z h4 b4 k4 .char (16394 : Int32) [(.int 0), (.int 0), (.int 0), (.int 0), (.int 0), (.int 0), (.int 0), (.int 0), (.int 0), (.int 0)] (.int 0) := (Arv.new A4 (by decide)).pad (pad_rep [] (.int 0) 10)
    refine own_g (T4.setTop (mkF m 66 #[.val (.int p0), .val (.int p1), .val (.int p2), .val (.int v1), .val (.ref en), .val (.int w), .val (.int v2), .val (.int v3), .unset, .unset, .unset, .unset, .unset, .unset, .unset, .unset, .unset, .unset, .unset, .unset] [(.ref b4)])) (st4) ?_
    refine own_g (T4.setTop (mkF m 68 #[.val (.int p0), .val (.int p1), .val (.int p2), .val (.int v1), .val (.ref en), .val (.int w), .val (.int v2), .val (.int v3), .val (.ref b4), .unset, .unset, .unset, .unset, .unset, .unset, .unset, .unset, .unset, .unset, .unset] [])) (fun _ k => XS.astore X4.here hx rfl (hb hby at_66) rfl rfl (l' := #[.val (.int p0), .val (.int p1), .val (.int p2), .val (.int v1), .val (.ref en), .val (.int w), .val (.int v2), .val (.int v3), .val (.ref b4), .unset, .unset, .unset, .unset, .unset, .unset, .unset, .unset, .unset, .unset, .unset]) rfl k) ?_
    refine own_g (T4.setTop (mkF m 70 #[.val (.int p0), .val (.int p1), .val (.int p2), .val (.int v1), .val (.ref en), .val (.int w), .val (.int v2), .val (.int v3), .val (.ref b4), .unset, .unset, .unset, .unset, .unset, .unset, .unset, .unset, .unset, .unset, .unset] [(.ref b4)])) (fun _ k => XS.aload X4.here hx rfl (hb hby at_68) rfl rfl k) ?_
    refine own_g (T4.setTop (mkF m 71 #[.val (.int p0), .val (.int p1), .val (.int p2), .val (.int v1), .val (.ref en), .val (.int w), .val (.int v2), .val (.int v3), .val (.ref b4), .unset, .unset, .unset, .unset, .unset, .unset, .unset, .unset, .unset, .unset, .unset] [(.int 0), (.ref b4)])) (fun _ k => XS.iconst X4.here hx rfl (hb hby at_70) k) ?_
    refine own_g (T4.setTop (mkF m 73 #[.val (.int p0), .val (.int p1), .val (.int p2), .val (.int v1), .val (.ref en), .val (.int w), .val (.int v2), .val (.int v3), .val (.ref b4), .unset, .unset, .unset, .unset, .unset, .unset, .unset, .unset, .unset, .unset, .unset] [(.int 60), (.int 0), (.ref b4)])) (fun _ k => XS.bipush X4.here hx rfl (hb hby at_71) k) ?_
    obtain ⟨cl5, Ar5, qk5, S5, N5_, Ha5, G5⟩ := id V_b4
    have hin5 : ¬ ((0 : Int32) < 0 ∨ cl5.slots.size ≤ ((0 : Int32)).toNatClampNeg) := inb_of S5 ⟨by decide, by decide⟩
    obtain ⟨T5, h5, X5, e5, W5, st5⟩ := stC X4 hx hZ e4 Ar5 (j := (0 : Int32)) hin5 (g := (mkF m 73 #[.val (.int p0), .val (.int p1), .val (.int p2), .val (.int v1), .val (.ref en), .val (.int w), .val (.int v2), .val (.int v3), .val (.ref b4), .unset, .unset, .unset, .unset, .unset, .unset, .unset, .unset, .unset, .unset, .unset] [(.int 60), (.int 0), (.ref b4)])) rfl rfl (hb hby at_73)
    have V5_b4 : Arv Z h5 b4 k4 .char (16394 : Int32) [(.int (nar .char (60 : Int32))), (.int 0), (.int 0), (.int 0), (.int 0), (.int 0), (.int 0), (.int 0), (.int 0), (.int 0)] (.int 0) := Arv.set Ar5 qk5 S5 N5_ Ha5 G5 (fits_nar_char _) W5 0 rfl (Nat.le_of_ble_eq_true rfl)
    have S_C_c5 : Sta Z h5 "java/lang/String" "COMPACT_STRINGS" "Z" (.int wC) := S_C_c4.wr W5
    have S_F_c5 : Sta Z h5 "jdk/internal/util/Preconditions" "SIOOBE_FORMATTER" "Ljava/util/function/BiFunction;" wF := S_F_c4.wr W5
    have J_c5 : own_J Z h5 h0.size en EC w sa := own_J.wr J_c4 W5 sz_b4
    have N5 := Fr.snoc X5 N0 gn_b4
    have Z5 : n0 ≤ h5.size := Nat.le_trans Z4 (Keep.of_wr W5).1
    have K5 : Keep h0 h5 [] := K4.wr W5 (Or.inr sz_b4)
    refine own_g (T5.setTop (mkF m 74 #[.val (.int p0), .val (.int p1), .val (.int p2), .val (.int v1), .val (.ref en), .val (.int w), .val (.int v2), .val (.int v3), .val (.ref b4), .unset, .unset, .unset, .unset, .unset, .unset, .unset, .unset, .unset, .unset, .unset] [])) (st5) ?_
    refine own_g (T5.setTop (mkF m 76 #[.val (.int p0), .val (.int p1), .val (.int p2), .val (.int v1), .val (.ref en), .val (.int w), .val (.int v2), .val (.int v3), .val (.ref b4), .unset, .unset, .unset, .unset, .unset, .unset, .unset, .unset, .unset, .unset, .unset] [(.ref b4)])) (fun _ k => XS.aload X5.here hx rfl (hb hby at_74) rfl rfl k) ?_
    refine own_g (T5.setTop (mkF m 77 #[.val (.int p0), .val (.int p1), .val (.int p2), .val (.int v1), .val (.ref en), .val (.int w), .val (.int v2), .val (.int v3), .val (.ref b4), .unset, .unset, .unset, .unset, .unset, .unset, .unset, .unset, .unset, .unset, .unset] [(.int 1), (.ref b4)])) (fun _ k => XS.iconst X5.here hx rfl (hb hby at_76) k) ?_
    refine own_g (T5.setTop (mkF m 79 #[.val (.int p0), .val (.int p1), .val (.int p2), .val (.int v1), .val (.ref en), .val (.int w), .val (.int v2), .val (.int v3), .val (.ref b4), .unset, .unset, .unset, .unset, .unset, .unset, .unset, .unset, .unset, .unset, .unset] [(.int 33), (.int 1), (.ref b4)])) (fun _ k => XS.bipush X5.here hx rfl (hb hby at_77) k) ?_
    obtain ⟨cl6, Ar6, qk6, S6, N6_, Ha6, G6⟩ := id V5_b4
    have hin6 : ¬ ((1 : Int32) < 0 ∨ cl6.slots.size ≤ ((1 : Int32)).toNatClampNeg) := inb_of S6 ⟨by decide, by decide⟩
    obtain ⟨T6, h6, X6, e6, W6, st6⟩ := stC X5 hx hZ e5 Ar6 (j := (1 : Int32)) hin6 (g := (mkF m 79 #[.val (.int p0), .val (.int p1), .val (.int p2), .val (.int v1), .val (.ref en), .val (.int w), .val (.int v2), .val (.int v3), .val (.ref b4), .unset, .unset, .unset, .unset, .unset, .unset, .unset, .unset, .unset, .unset, .unset] [(.int 33), (.int 1), (.ref b4)])) rfl rfl (hb hby at_79)
    have V6_b4 : Arv Z h6 b4 k4 .char (16394 : Int32) [(.int (nar .char (60 : Int32))), (.int (nar .char (33 : Int32))), (.int 0), (.int 0), (.int 0), (.int 0), (.int 0), (.int 0), (.int 0), (.int 0)] (.int 0) := Arv.set Ar6 qk6 S6 N6_ Ha6 G6 (fits_nar_char _) W6 1 rfl (Nat.le_of_ble_eq_true rfl)
    have S_C_c6 : Sta Z h6 "java/lang/String" "COMPACT_STRINGS" "Z" (.int wC) := S_C_c5.wr W6
    have S_F_c6 : Sta Z h6 "jdk/internal/util/Preconditions" "SIOOBE_FORMATTER" "Ljava/util/function/BiFunction;" wF := S_F_c5.wr W6
    have J_c6 : own_J Z h6 h0.size en EC w sa := own_J.wr J_c5 W6 sz_b4
    have N6 := Fr.snoc X6 N5 gn_b4
    have Z6 : n0 ≤ h6.size := Nat.le_trans Z5 (Keep.of_wr W6).1
    have K6 : Keep h0 h6 [] := K5.wr W6 (Or.inr sz_b4)
    refine own_g (T6.setTop (mkF m 80 #[.val (.int p0), .val (.int p1), .val (.int p2), .val (.int v1), .val (.ref en), .val (.int w), .val (.int v2), .val (.int v3), .val (.ref b4), .unset, .unset, .unset, .unset, .unset, .unset, .unset, .unset, .unset, .unset, .unset] [])) (st6) ?_
    refine own_g (T6.setTop (mkF m 82 #[.val (.int p0), .val (.int p1), .val (.int p2), .val (.int v1), .val (.ref en), .val (.int w), .val (.int v2), .val (.int v3), .val (.ref b4), .unset, .unset, .unset, .unset, .unset, .unset, .unset, .unset, .unset, .unset, .unset] [(.ref b4)])) (fun _ k => XS.aload X6.here hx rfl (hb hby at_80) rfl rfl k) ?_
    refine own_g (T6.setTop (mkF m 83 #[.val (.int p0), .val (.int p1), .val (.int p2), .val (.int v1), .val (.ref en), .val (.int w), .val (.int v2), .val (.int v3), .val (.ref b4), .unset, .unset, .unset, .unset, .unset, .unset, .unset, .unset, .unset, .unset, .unset] [(.int 2), (.ref b4)])) (fun _ k => XS.iconst X6.here hx rfl (hb hby at_82) k) ?_
    refine own_g (T6.setTop (mkF m 85 #[.val (.int p0), .val (.int p1), .val (.int p2), .val (.int v1), .val (.ref en), .val (.int w), .val (.int v2), .val (.int v3), .val (.ref b4), .unset, .unset, .unset, .unset, .unset, .unset, .unset, .unset, .unset, .unset, .unset] [(.int 91), (.int 2), (.ref b4)])) (fun _ k => XS.bipush X6.here hx rfl (hb hby at_83) k) ?_
    obtain ⟨cl7, Ar7, qk7, S7, N7_, Ha7, G7⟩ := id V6_b4
    have hin7 : ¬ ((2 : Int32) < 0 ∨ cl7.slots.size ≤ ((2 : Int32)).toNatClampNeg) := inb_of S7 ⟨by decide, by decide⟩
    obtain ⟨T7, h7, X7, e7, W7, st7⟩ := stC X6 hx hZ e6 Ar7 (j := (2 : Int32)) hin7 (g := (mkF m 85 #[.val (.int p0), .val (.int p1), .val (.int p2), .val (.int v1), .val (.ref en), .val (.int w), .val (.int v2), .val (.int v3), .val (.ref b4), .unset, .unset, .unset, .unset, .unset, .unset, .unset, .unset, .unset, .unset, .unset] [(.int 91), (.int 2), (.ref b4)])) rfl rfl (hb hby at_85)
    have V7_b4 : Arv Z h7 b4 k4 .char (16394 : Int32) [(.int (nar .char (60 : Int32))), (.int (nar .char (33 : Int32))), (.int (nar .char (91 : Int32))), (.int 0), (.int 0), (.int 0), (.int 0), (.int 0), (.int 0), (.int 0)] (.int 0) := Arv.set Ar7 qk7 S7 N7_ Ha7 G7 (fits_nar_char _) W7 2 rfl (Nat.le_of_ble_eq_true rfl)
    have S_C_c7 : Sta Z h7 "java/lang/String" "COMPACT_STRINGS" "Z" (.int wC) := S_C_c6.wr W7
    have S_F_c7 : Sta Z h7 "jdk/internal/util/Preconditions" "SIOOBE_FORMATTER" "Ljava/util/function/BiFunction;" wF := S_F_c6.wr W7
    have J_c7 : own_J Z h7 h0.size en EC w sa := own_J.wr J_c6 W7 sz_b4
    have N7 := Fr.snoc X7 N6 gn_b4
    have Z7 : n0 ≤ h7.size := Nat.le_trans Z6 (Keep.of_wr W7).1
    have K7 : Keep h0 h7 [] := K6.wr W7 (Or.inr sz_b4)
    refine own_g (T7.setTop (mkF m 86 #[.val (.int p0), .val (.int p1), .val (.int p2), .val (.int v1), .val (.ref en), .val (.int w), .val (.int v2), .val (.int v3), .val (.ref b4), .unset, .unset, .unset, .unset, .unset, .unset, .unset, .unset, .unset, .unset, .unset] [])) (st7) ?_
    refine own_g (T7.setTop (mkF m 88 #[.val (.int p0), .val (.int p1), .val (.int p2), .val (.int v1), .val (.ref en), .val (.int w), .val (.int v2), .val (.int v3), .val (.ref b4), .unset, .unset, .unset, .unset, .unset, .unset, .unset, .unset, .unset, .unset, .unset] [(.ref b4)])) (fun _ k => XS.aload X7.here hx rfl (hb hby at_86) rfl rfl k) ?_
    refine own_g (T7.setTop (mkF m 89 #[.val (.int p0), .val (.int p1), .val (.int p2), .val (.int v1), .val (.ref en), .val (.int w), .val (.int v2), .val (.int v3), .val (.ref b4), .unset, .unset, .unset, .unset, .unset, .unset, .unset, .unset, .unset, .unset, .unset] [(.int 3), (.ref b4)])) (fun _ k => XS.iconst X7.here hx rfl (hb hby at_88) k) ?_
    refine own_g (T7.setTop (mkF m 91 #[.val (.int p0), .val (.int p1), .val (.int p2), .val (.int v1), .val (.ref en), .val (.int w), .val (.int v2), .val (.int v3), .val (.ref b4), .unset, .unset, .unset, .unset, .unset, .unset, .unset, .unset, .unset, .unset, .unset] [(.int 67), (.int 3), (.ref b4)])) (fun _ k => XS.bipush X7.here hx rfl (hb hby at_89) k) ?_
    obtain ⟨cl8, Ar8, qk8, S8, N8_, Ha8, G8⟩ := id V7_b4
    have hin8 : ¬ ((3 : Int32) < 0 ∨ cl8.slots.size ≤ ((3 : Int32)).toNatClampNeg) := inb_of S8 ⟨by decide, by decide⟩
    obtain ⟨T8, h8, X8, e8, W8, st8⟩ := stC X7 hx hZ e7 Ar8 (j := (3 : Int32)) hin8 (g := (mkF m 91 #[.val (.int p0), .val (.int p1), .val (.int p2), .val (.int v1), .val (.ref en), .val (.int w), .val (.int v2), .val (.int v3), .val (.ref b4), .unset, .unset, .unset, .unset, .unset, .unset, .unset, .unset, .unset, .unset, .unset] [(.int 67), (.int 3), (.ref b4)])) rfl rfl (hb hby at_91)
    have V8_b4 : Arv Z h8 b4 k4 .char (16394 : Int32) [(.int (nar .char (60 : Int32))), (.int (nar .char (33 : Int32))), (.int (nar .char (91 : Int32))), (.int (nar .char (67 : Int32))), (.int 0), (.int 0), (.int 0), (.int 0), (.int 0), (.int 0)] (.int 0) := Arv.set Ar8 qk8 S8 N8_ Ha8 G8 (fits_nar_char _) W8 3 rfl (Nat.le_of_ble_eq_true rfl)
    have S_C_c8 : Sta Z h8 "java/lang/String" "COMPACT_STRINGS" "Z" (.int wC) := S_C_c7.wr W8
    have S_F_c8 : Sta Z h8 "jdk/internal/util/Preconditions" "SIOOBE_FORMATTER" "Ljava/util/function/BiFunction;" wF := S_F_c7.wr W8
    have J_c8 : own_J Z h8 h0.size en EC w sa := own_J.wr J_c7 W8 sz_b4
    have N8 := Fr.snoc X8 N7 gn_b4
    have Z8 : n0 ≤ h8.size := Nat.le_trans Z7 (Keep.of_wr W8).1
    have K8 : Keep h0 h8 [] := K7.wr W8 (Or.inr sz_b4)
    refine own_g (T8.setTop (mkF m 92 #[.val (.int p0), .val (.int p1), .val (.int p2), .val (.int v1), .val (.ref en), .val (.int w), .val (.int v2), .val (.int v3), .val (.ref b4), .unset, .unset, .unset, .unset, .unset, .unset, .unset, .unset, .unset, .unset, .unset] [])) (st8) ?_
    refine own_g (T8.setTop (mkF m 94 #[.val (.int p0), .val (.int p1), .val (.int p2), .val (.int v1), .val (.ref en), .val (.int w), .val (.int v2), .val (.int v3), .val (.ref b4), .unset, .unset, .unset, .unset, .unset, .unset, .unset, .unset, .unset, .unset, .unset] [(.ref b4)])) (fun _ k => XS.aload X8.here hx rfl (hb hby at_92) rfl rfl k) ?_
    refine own_g (T8.setTop (mkF m 95 #[.val (.int p0), .val (.int p1), .val (.int p2), .val (.int v1), .val (.ref en), .val (.int w), .val (.int v2), .val (.int v3), .val (.ref b4), .unset, .unset, .unset, .unset, .unset, .unset, .unset, .unset, .unset, .unset, .unset] [(.int 4), (.ref b4)])) (fun _ k => XS.iconst X8.here hx rfl (hb hby at_94) k) ?_
    refine own_g (T8.setTop (mkF m 97 #[.val (.int p0), .val (.int p1), .val (.int p2), .val (.int v1), .val (.ref en), .val (.int w), .val (.int v2), .val (.int v3), .val (.ref b4), .unset, .unset, .unset, .unset, .unset, .unset, .unset, .unset, .unset, .unset, .unset] [(.int 68), (.int 4), (.ref b4)])) (fun _ k => XS.bipush X8.here hx rfl (hb hby at_95) k) ?_
    obtain ⟨cl9, Ar9, qk9, S9, N9_, Ha9, G9⟩ := id V8_b4
    have hin9 : ¬ ((4 : Int32) < 0 ∨ cl9.slots.size ≤ ((4 : Int32)).toNatClampNeg) := inb_of S9 ⟨by decide, by decide⟩
    obtain ⟨T9, h9, X9, e9, W9, st9⟩ := stC X8 hx hZ e8 Ar9 (j := (4 : Int32)) hin9 (g := (mkF m 97 #[.val (.int p0), .val (.int p1), .val (.int p2), .val (.int v1), .val (.ref en), .val (.int w), .val (.int v2), .val (.int v3), .val (.ref b4), .unset, .unset, .unset, .unset, .unset, .unset, .unset, .unset, .unset, .unset, .unset] [(.int 68), (.int 4), (.ref b4)])) rfl rfl (hb hby at_97)
    have V9_b4 : Arv Z h9 b4 k4 .char (16394 : Int32) [(.int (nar .char (60 : Int32))), (.int (nar .char (33 : Int32))), (.int (nar .char (91 : Int32))), (.int (nar .char (67 : Int32))), (.int (nar .char (68 : Int32))), (.int 0), (.int 0), (.int 0), (.int 0), (.int 0)] (.int 0) := Arv.set Ar9 qk9 S9 N9_ Ha9 G9 (fits_nar_char _) W9 4 rfl (Nat.le_of_ble_eq_true rfl)
    have S_C_c9 : Sta Z h9 "java/lang/String" "COMPACT_STRINGS" "Z" (.int wC) := S_C_c8.wr W9
    have S_F_c9 : Sta Z h9 "jdk/internal/util/Preconditions" "SIOOBE_FORMATTER" "Ljava/util/function/BiFunction;" wF := S_F_c8.wr W9
    have J_c9 : own_J Z h9 h0.size en EC w sa := own_J.wr J_c8 W9 sz_b4
    have N9 := Fr.snoc X9 N8 gn_b4
    have Z9 : n0 ≤ h9.size := Nat.le_trans Z8 (Keep.of_wr W9).1
    have K9 : Keep h0 h9 [] := K8.wr W9 (Or.inr sz_b4)
    refine own_g (T9.setTop (mkF m 98 #[.val (.int p0), .val (.int p1), .val (.int p2), .val (.int v1), .val (.ref en), .val (.int w), .val (.int v2), .val (.int v3), .val (.ref b4), .unset, .unset, .unset, .unset, .unset, .unset, .unset, .unset, .unset, .unset, .unset] [])) (st9) ?_
    refine own_g (T9.setTop (mkF m 100 #[.val (.int p0), .val (.int p1), .val (.int p2), .val (.int v1), .val (.ref en), .val (.int w), .val (.int v2), .val (.int v3), .val (.ref b4), .unset, .unset, .unset, .unset, .unset, .unset, .unset, .unset, .unset, .unset, .unset] [(.ref b4)])) (fun _ k => XS.aload X9.here hx rfl (hb hby at_98) rfl rfl k) ?_
    refine own_g (T9.setTop (mkF m 101 #[.val (.int p0), .val (.int p1), .val (.int p2), .val (.int v1), .val (.ref en), .val (.int w), .val (.int v2), .val (.int v3), .val (.ref b4), .unset, .unset, .unset, .unset, .unset, .unset, .unset, .unset, .unset, .unset, .unset] [(.int 5), (.ref b4)])) (fun _ k => XS.iconst X9.here hx rfl (hb hby at_100) k) ?_
    refine own_g (T9.setTop (mkF m 103 #[.val (.int p0), .val (.int p1), .val (.int p2), .val (.int v1), .val (.ref en), .val (.int w), .val (.int v2), .val (.int v3), .val (.ref b4), .unset, .unset, .unset, .unset, .unset, .unset, .unset, .unset, .unset, .unset, .unset] [(.int 65), (.int 5), (.ref b4)])) (fun _ k => XS.bipush X9.here hx rfl (hb hby at_101) k) ?_
    obtain ⟨cl10, Ar10, qk10, S10, N10_, Ha10, G10⟩ := id V9_b4
    have hin10 : ¬ ((5 : Int32) < 0 ∨ cl10.slots.size ≤ ((5 : Int32)).toNatClampNeg) := inb_of S10 ⟨by decide, by decide⟩
    obtain ⟨T10, h10, X10, e10, W10, st10⟩ := stC X9 hx hZ e9 Ar10 (j := (5 : Int32)) hin10 (g := (mkF m 103 #[.val (.int p0), .val (.int p1), .val (.int p2), .val (.int v1), .val (.ref en), .val (.int w), .val (.int v2), .val (.int v3), .val (.ref b4), .unset, .unset, .unset, .unset, .unset, .unset, .unset, .unset, .unset, .unset, .unset] [(.int 65), (.int 5), (.ref b4)])) rfl rfl (hb hby at_103)
    have V10_b4 : Arv Z h10 b4 k4 .char (16394 : Int32) [(.int (nar .char (60 : Int32))), (.int (nar .char (33 : Int32))), (.int (nar .char (91 : Int32))), (.int (nar .char (67 : Int32))), (.int (nar .char (68 : Int32))), (.int (nar .char (65 : Int32))), (.int 0), (.int 0), (.int 0), (.int 0)] (.int 0) := Arv.set Ar10 qk10 S10 N10_ Ha10 G10 (fits_nar_char _) W10 5 rfl (Nat.le_of_ble_eq_true rfl)
    have S_C_c10 : Sta Z h10 "java/lang/String" "COMPACT_STRINGS" "Z" (.int wC) := S_C_c9.wr W10
    have S_F_c10 : Sta Z h10 "jdk/internal/util/Preconditions" "SIOOBE_FORMATTER" "Ljava/util/function/BiFunction;" wF := S_F_c9.wr W10
    have J_c10 : own_J Z h10 h0.size en EC w sa := own_J.wr J_c9 W10 sz_b4
    have N10 := Fr.snoc X10 N9 gn_b4
    have Z10 : n0 ≤ h10.size := Nat.le_trans Z9 (Keep.of_wr W10).1
    have K10 : Keep h0 h10 [] := K9.wr W10 (Or.inr sz_b4)
    refine own_g (T10.setTop (mkF m 104 #[.val (.int p0), .val (.int p1), .val (.int p2), .val (.int v1), .val (.ref en), .val (.int w), .val (.int v2), .val (.int v3), .val (.ref b4), .unset, .unset, .unset, .unset, .unset, .unset, .unset, .unset, .unset, .unset, .unset] [])) (st10) ?_
    refine own_g (T10.setTop (mkF m 106 #[.val (.int p0), .val (.int p1), .val (.int p2), .val (.int v1), .val (.ref en), .val (.int w), .val (.int v2), .val (.int v3), .val (.ref b4), .unset, .unset, .unset, .unset, .unset, .unset, .unset, .unset, .unset, .unset, .unset] [(.ref b4)])) (fun _ k => XS.aload X10.here hx rfl (hb hby at_104) rfl rfl k) ?_
    refine own_g (T10.setTop (mkF m 108 #[.val (.int p0), .val (.int p1), .val (.int p2), .val (.int v1), .val (.ref en), .val (.int w), .val (.int v2), .val (.int v3), .val (.ref b4), .unset, .unset, .unset, .unset, .unset, .unset, .unset, .unset, .unset, .unset, .unset] [(.int 6), (.ref b4)])) (fun _ k => XS.bipush X10.here hx rfl (hb hby at_106) k) ?_
    refine own_g (T10.setTop (mkF m 110 #[.val (.int p0), .val (.int p1), .val (.int p2), .val (.int v1), .val (.ref en), .val (.int w), .val (.int v2), .val (.int v3), .val (.ref b4), .unset, .unset, .unset, .unset, .unset, .unset, .unset, .unset, .unset, .unset, .unset] [(.int 84), (.int 6), (.ref b4)])) (fun _ k => XS.bipush X10.here hx rfl (hb hby at_108) k) ?_
    obtain ⟨cl11, Ar11, qk11, S11, N11_, Ha11, G11⟩ := id V10_b4
    have hin11 : ¬ ((6 : Int32) < 0 ∨ cl11.slots.size ≤ ((6 : Int32)).toNatClampNeg) := inb_of S11 ⟨by decide, by decide⟩
    obtain ⟨T11, h11, X11, e11, W11, st11⟩ := stC X10 hx hZ e10 Ar11 (j := (6 : Int32)) hin11 (g := (mkF m 110 #[.val (.int p0), .val (.int p1), .val (.int p2), .val (.int v1), .val (.ref en), .val (.int w), .val (.int v2), .val (.int v3), .val (.ref b4), .unset, .unset, .unset, .unset, .unset, .unset, .unset, .unset, .unset, .unset, .unset] [(.int 84), (.int 6), (.ref b4)])) rfl rfl (hb hby at_110)
    have V11_b4 : Arv Z h11 b4 k4 .char (16394 : Int32) [(.int (nar .char (60 : Int32))), (.int (nar .char (33 : Int32))), (.int (nar .char (91 : Int32))), (.int (nar .char (67 : Int32))), (.int (nar .char (68 : Int32))), (.int (nar .char (65 : Int32))), (.int (nar .char (84 : Int32))), (.int 0), (.int 0), (.int 0)] (.int 0) := Arv.set Ar11 qk11 S11 N11_ Ha11 G11 (fits_nar_char _) W11 6 rfl (Nat.le_of_ble_eq_true rfl)
    have S_C_c11 : Sta Z h11 "java/lang/String" "COMPACT_STRINGS" "Z" (.int wC) := S_C_c10.wr W11
    have S_F_c11 : Sta Z h11 "jdk/internal/util/Preconditions" "SIOOBE_FORMATTER" "Ljava/util/function/BiFunction;" wF := S_F_c10.wr W11
    have J_c11 : own_J Z h11 h0.size en EC w sa := own_J.wr J_c10 W11 sz_b4
    have N11 := Fr.snoc X11 N10 gn_b4
    have Z11 : n0 ≤ h11.size := Nat.le_trans Z10 (Keep.of_wr W11).1
    have K11 : Keep h0 h11 [] := K10.wr W11 (Or.inr sz_b4)
    refine own_g (T11.setTop (mkF m 111 #[.val (.int p0), .val (.int p1), .val (.int p2), .val (.int v1), .val (.ref en), .val (.int w), .val (.int v2), .val (.int v3), .val (.ref b4), .unset, .unset, .unset, .unset, .unset, .unset, .unset, .unset, .unset, .unset, .unset] [])) (st11) ?_
    refine own_g (T11.setTop (mkF m 113 #[.val (.int p0), .val (.int p1), .val (.int p2), .val (.int v1), .val (.ref en), .val (.int w), .val (.int v2), .val (.int v3), .val (.ref b4), .unset, .unset, .unset, .unset, .unset, .unset, .unset, .unset, .unset, .unset, .unset] [(.ref b4)])) (fun _ k => XS.aload X11.here hx rfl (hb hby at_111) rfl rfl k) ?_
    refine own_g (T11.setTop (mkF m 115 #[.val (.int p0), .val (.int p1), .val (.int p2), .val (.int v1), .val (.ref en), .val (.int w), .val (.int v2), .val (.int v3), .val (.ref b4), .unset, .unset, .unset, .unset, .unset, .unset, .unset, .unset, .unset, .unset, .unset] [(.int 7), (.ref b4)])) (fun _ k => XS.bipush X11.here hx rfl (hb hby at_113) k) ?_
    refine own_g (T11.setTop (mkF m 117 #[.val (.int p0), .val (.int p1), .val (.int p2), .val (.int v1), .val (.ref en), .val (.int w), .val (.int v2), .val (.int v3), .val (.ref b4), .unset, .unset, .unset, .unset, .unset, .unset, .unset, .unset, .unset, .unset, .unset] [(.int 65), (.int 7), (.ref b4)])) (fun _ k => XS.bipush X11.here hx rfl (hb hby at_115) k) ?_
    obtain ⟨cl12, Ar12, qk12, S12, N12_, Ha12, G12⟩ := id V11_b4
    have hin12 : ¬ ((7 : Int32) < 0 ∨ cl12.slots.size ≤ ((7 : Int32)).toNatClampNeg) := inb_of S12 ⟨by decide, by decide⟩
    obtain ⟨T12, h12, X12, e12, W12, st12⟩ := stC X11 hx hZ e11 Ar12 (j := (7 : Int32)) hin12 (g := (mkF m 117 #[.val (.int p0), .val (.int p1), .val (.int p2), .val (.int v1), .val (.ref en), .val (.int w), .val (.int v2), .val (.int v3), .val (.ref b4), .unset, .unset, .unset, .unset, .unset, .unset, .unset, .unset, .unset, .unset, .unset] [(.int 65), (.int 7), (.ref b4)])) rfl rfl (hb hby at_117)
    have V12_b4 : Arv Z h12 b4 k4 .char (16394 : Int32) [(.int (nar .char (60 : Int32))), (.int (nar .char (33 : Int32))), (.int (nar .char (91 : Int32))), (.int (nar .char (67 : Int32))), (.int (nar .char (68 : Int32))), (.int (nar .char (65 : Int32))), (.int (nar .char (84 : Int32))), (.int (nar .char (65 : Int32))), (.int 0), (.int 0)] (.int 0) := Arv.set Ar12 qk12 S12 N12_ Ha12 G12 (fits_nar_char _) W12 7 rfl (Nat.le_of_ble_eq_true rfl)
    have S_C_c12 : Sta Z h12 "java/lang/String" "COMPACT_STRINGS" "Z" (.int wC) := S_C_c11.wr W12
    have S_F_c12 : Sta Z h12 "jdk/internal/util/Preconditions" "SIOOBE_FORMATTER" "Ljava/util/function/BiFunction;" wF := S_F_c11.wr W12
    have J_c12 : own_J Z h12 h0.size en EC w sa := own_J.wr J_c11 W12 sz_b4
    have N12 := Fr.snoc X12 N11 gn_b4
    have Z12 : n0 ≤ h12.size := Nat.le_trans Z11 (Keep.of_wr W12).1
    have K12 : Keep h0 h12 [] := K11.wr W12 (Or.inr sz_b4)
    refine own_g (T12.setTop (mkF m 118 #[.val (.int p0), .val (.int p1), .val (.int p2), .val (.int v1), .val (.ref en), .val (.int w), .val (.int v2), .val (.int v3), .val (.ref b4), .unset, .unset, .unset, .unset, .unset, .unset, .unset, .unset, .unset, .unset, .unset] [])) (st12) ?_
    refine own_g (T12.setTop (mkF m 120 #[.val (.int p0), .val (.int p1), .val (.int p2), .val (.int v1), .val (.ref en), .val (.int w), .val (.int v2), .val (.int v3), .val (.ref b4), .unset, .unset, .unset, .unset, .unset, .unset, .unset, .unset, .unset, .unset, .unset] [(.ref b4)])) (fun _ k => XS.aload X12.here hx rfl (hb hby at_118) rfl rfl k) ?_
    refine own_g (T12.setTop (mkF m 122 #[.val (.int p0), .val (.int p1), .val (.int p2), .val (.int v1), .val (.ref en), .val (.int w), .val (.int v2), .val (.int v3), .val (.ref b4), .unset, .unset, .unset, .unset, .unset, .unset, .unset, .unset, .unset, .unset, .unset] [(.int 8), (.ref b4)])) (fun _ k => XS.bipush X12.here hx rfl (hb hby at_120) k) ?_
    refine own_g (T12.setTop (mkF m 124 #[.val (.int p0), .val (.int p1), .val (.int p2), .val (.int v1), .val (.ref en), .val (.int w), .val (.int v2), .val (.int v3), .val (.ref b4), .unset, .unset, .unset, .unset, .unset, .unset, .unset, .unset, .unset, .unset, .unset] [(.int 91), (.int 8), (.ref b4)])) (fun _ k => XS.bipush X12.here hx rfl (hb hby at_122) k) ?_
    obtain ⟨cl13, Ar13, qk13, S13, N13_, Ha13, G13⟩ := id V12_b4
    have hin13 : ¬ ((8 : Int32) < 0 ∨ cl13.slots.size ≤ ((8 : Int32)).toNatClampNeg) := inb_of S13 ⟨by decide, by decide⟩
    obtain ⟨T13, h13, X13, e13, W13, st13⟩ := stC X12 hx hZ e12 Ar13 (j := (8 : Int32)) hin13 (g := (mkF m 124 #[.val (.int p0), .val (.int p1), .val (.int p2), .val (.int v1), .val (.ref en), .val (.int w), .val (.int v2), .val (.int v3), .val (.ref b4), .unset, .unset, .unset, .unset, .unset, .unset, .unset, .unset, .unset, .unset, .unset] [(.int 91), (.int 8), (.ref b4)])) rfl rfl (hb hby at_124)
    have V13_b4 : Arv Z h13 b4 k4 .char (16394 : Int32) [(.int (nar .char (60 : Int32))), (.int (nar .char (33 : Int32))), (.int (nar .char (91 : Int32))), (.int (nar .char (67 : Int32))), (.int (nar .char (68 : Int32))), (.int (nar .char (65 : Int32))), (.int (nar .char (84 : Int32))), (.int (nar .char (65 : Int32))), (.int (nar .char (91 : Int32))), (.int 0)] (.int 0) := Arv.set Ar13 qk13 S13 N13_ Ha13 G13 (fits_nar_char _) W13 8 rfl (Nat.le_of_ble_eq_true rfl)
    have S_C_c13 : Sta Z h13 "java/lang/String" "COMPACT_STRINGS" "Z" (.int wC) := S_C_c12.wr W13
    have S_F_c13 : Sta Z h13 "jdk/internal/util/Preconditions" "SIOOBE_FORMATTER" "Ljava/util/function/BiFunction;" wF := S_F_c12.wr W13
    have J_c13 : own_J Z h13 h0.size en EC w sa := own_J.wr J_c12 W13 sz_b4
    have N13 := Fr.snoc X13 N12 gn_b4
    have Z13 : n0 ≤ h13.size := Nat.le_trans Z12 (Keep.of_wr W13).1
    have K13 : Keep h0 h13 [] := K12.wr W13 (Or.inr sz_b4)
    refine own_g (T13.setTop (mkF m 125 #[.val (.int p0), .val (.int p1), .val (.int p2), .val (.int v1), .val (.ref en), .val (.int w), .val (.int v2), .val (.int v3), .val (.ref b4), .unset, .unset, .unset, .unset, .unset, .unset, .unset, .unset, .unset, .unset, .unset] [])) (st13) ?_
    refine own_g (T13.setTop (mkF m 127 #[.val (.int p0), .val (.int p1), .val (.int p2), .val (.int v1), .val (.ref en), .val (.int w), .val (.int v2), .val (.int v3), .val (.ref b4), .unset, .unset, .unset, .unset, .unset, .unset, .unset, .unset, .unset, .unset, .unset] [(.ref b4)])) (fun _ k => XS.aload X13.here hx rfl (hb hby at_125) rfl rfl k) ?_
    refine own_g (T13.setTop (mkF m 129 #[.val (.int p0), .val (.int p1), .val (.int p2), .val (.int v1), .val (.ref en), .val (.int w), .val (.int v2), .val (.int v3), .val (.ref b4), .unset, .unset, .unset, .unset, .unset, .unset, .unset, .unset, .unset, .unset, .unset] [(.int 9), (.ref b4)])) (fun _ k => XS.bipush X13.here hx rfl (hb hby at_127) k) ?_
    refine own_g (T13.setTop (mkF m 131 #[.val (.int p0), .val (.int p1), .val (.int p2), .val (.int v1), .val (.ref en), .val (.int w), .val (.int v2), .val (.int v3), .val (.ref b4), .unset, .unset, .unset, .unset, .unset, .unset, .unset, .unset, .unset, .unset, .unset] [(.int v3), (.int 9), (.ref b4)])) (fun _ k => XS.iload X13.here hx rfl (hb hby at_129) rfl k) ?_
    obtain ⟨cl14, Ar14, qk14, S14, N14_, Ha14, G14⟩ := id V13_b4
    have hin14 : ¬ ((9 : Int32) < 0 ∨ cl14.slots.size ≤ ((9 : Int32)).toNatClampNeg) := inb_of S14 ⟨by decide, by decide⟩
    obtain ⟨T14, h14, X14, e14, W14, st14⟩ := stC X13 hx hZ e13 Ar14 (j := (9 : Int32)) hin14 (g := (mkF m 131 #[.val (.int p0), .val (.int p1), .val (.int p2), .val (.int v1), .val (.ref en), .val (.int w), .val (.int v2), .val (.int v3), .val (.ref b4), .unset, .unset, .unset, .unset, .unset, .unset, .unset, .unset, .unset, .unset, .unset] [(.int v3), (.int 9), (.ref b4)])) rfl rfl (hb hby at_131)
    have V14_b4 : Arv Z h14 b4 k4 .char (16394 : Int32) [(.int (nar .char (60 : Int32))), (.int (nar .char (33 : Int32))), (.int (nar .char (91 : Int32))), (.int (nar .char (67 : Int32))), (.int (nar .char (68 : Int32))), (.int (nar .char (65 : Int32))), (.int (nar .char (84 : Int32))), (.int (nar .char (65 : Int32))), (.int (nar .char (91 : Int32))), (.int (nar .char v3))] (.int 0) := Arv.set Ar14 qk14 S14 N14_ Ha14 G14 (fits_nar_char _) W14 9 rfl (Nat.le_of_ble_eq_true rfl)
    have S_C_c14 : Sta Z h14 "java/lang/String" "COMPACT_STRINGS" "Z" (.int wC) := S_C_c13.wr W14
    have S_F_c14 : Sta Z h14 "jdk/internal/util/Preconditions" "SIOOBE_FORMATTER" "Ljava/util/function/BiFunction;" wF := S_F_c13.wr W14
    have J_c14 : own_J Z h14 h0.size en EC w sa := own_J.wr J_c13 W14 sz_b4
    have N14 := Fr.snoc X14 N13 gn_b4
    have Z14 : n0 ≤ h14.size := Nat.le_trans Z13 (Keep.of_wr W14).1
    have K14 : Keep h0 h14 [] := K13.wr W14 (Or.inr sz_b4)
    refine own_g (T14.setTop (mkF m 132 #[.val (.int p0), .val (.int p1), .val (.int p2), .val (.int v1), .val (.ref en), .val (.int w), .val (.int v2), .val (.int v3), .val (.ref b4), .unset, .unset, .unset, .unset, .unset, .unset, .unset, .unset, .unset, .unset, .unset] [])) (st14) ?_
    refine own_g (T14.setTop (mkF m 133 #[.val (.int p0), .val (.int p1), .val (.int p2), .val (.int v1), .val (.ref en), .val (.int w), .val (.int v2), .val (.int v3), .val (.ref b4), .unset, .unset, .unset, .unset, .unset, .unset, .unset, .unset, .unset, .unset, .unset] [(.int 1)])) (fun _ k => XS.iconst X14.here hx rfl (hb hby at_132) k) ?_
    refine own_g (T14.setTop (mkF m 134 #[.val (.int p0), .val (.int p1), .val (.int p2), .val (.int v1), .val (.ref en), .val (.int w), .val (.int v2), .val (.int v3), .val (.ref b4), .unset, .unset, .unset, .unset, .unset, .unset, .unset, .unset, .unset, .unset, .unset] [(.int p2), (.int 1)])) (fun _ k => XS.iloadN X14.here hx rfl (hb hby at_133) rfl k) ?_
    refine own_g (T14.setTop (mkF m 136 #[.val (.int p0), .val (.int p1), .val (.int p2), .val (.int v1), .val (.ref en), .val (.int w), .val (.int v2), .val (.int v3), .val (.ref b4), .unset, .unset, .unset, .unset, .unset, .unset, .unset, .unset, .unset, .unset, .unset] [(.int 2147483647), (.int p2), (.int 1)])) (X14.ldcInt hx hown (mvT hZ (own_w hw 0 rfl)) (g := (mkF m 134 #[.val (.int p0), .val (.int p1), .val (.int p2), .val (.int v1), .val (.ref en), .val (.int w), .val (.int v2), .val (.int v3), .val (.ref b4), .unset, .unset, .unset, .unset, .unset, .unset, .unset, .unset, .unset, .unset, .unset] [(.int p2), (.int 1)])) rfl (hb hby at_134)) ?_
    refine own_g (T14.setTop (mkF m 137 #[.val (.int p0), .val (.int p1), .val (.int p2), .val (.int v1), .val (.ref en), .val (.int w), .val (.int v2), .val (.int v3), .val (.ref b4), .unset, .unset, .unset, .unset, .unset, .unset, .unset, .unset, .unset, .unset, .unset] [(.int (p2 &&& (2147483647 : Int32))), (.int 1)])) (fun _ k => XS.iand X14.here hx rfl (hb hby at_136) rfl k) ?_
    refine own_g (T14.setTop (mkF m 139 #[.val (.int p0), .val (.int p1), .val (.int p2), .val (.int v1), .val (.ref en), .val (.int w), .val (.int v2), .val (.int v3), .val (.ref b4), .unset, .unset, .unset, .unset, .unset, .unset, .unset, .unset, .unset, .unset, .unset] [(.int v2), (.int (p2 &&& (2147483647 : Int32))), (.int 1)])) (fun _ k => XS.iload X14.here hx rfl (hb hby at_137) rfl k) ?_
    refine own_g (T14.setTop (mkF m 140 #[.val (.int p0), .val (.int p1), .val (.int p2), .val (.int v1), .val (.ref en), .val (.int w), .val (.int v2), .val (.int v3), .val (.ref b4), .unset, .unset, .unset, .unset, .unset, .unset, .unset, .unset, .unset, .unset, .unset] [(.int ((p2 &&& (2147483647 : Int32)) % v2)), (.int 1)])) (fun _ k => iremM X14 hx rfl (hb hby at_139) rfl (own_lnz hw1 hv2) k) ?_
    refine own_g (T14.setTop (mkF m 141 #[.val (.int p0), .val (.int p1), .val (.int p2), .val (.int v1), .val (.ref en), .val (.int w), .val (.int v2), .val (.int v3), .val (.ref b4), .unset, .unset, .unset, .unset, .unset, .unset, .unset, .unset, .unset, .unset, .unset] [(.int ((1 : Int32) + ((p2 &&& (2147483647 : Int32)) % v2)))])) (fun _ k => XS.iadd X14.here hx rfl (hb hby at_140) rfl k) ?_
    generalize hv15 : ((1 : Int32) + ((p2 &&& (2147483647 : Int32)) % v2)) = v15
    refine own_g (T14.setTop (mkF m 143 #[.val (.int p0), .val (.int p1), .val (.int p2), .val (.int v1), .val (.ref en), .val (.int w), .val (.int v2), .val (.int v3), .val (.ref b4), .val (.int v15), .unset, .unset, .unset, .unset, .unset, .unset, .unset, .unset, .unset, .unset] [])) (fun _ k => XS.istore X14.here hx rfl (hb hby at_141) rfl (l' := #[.val (.int p0), .val (.int p1), .val (.int p2), .val (.int v1), .val (.ref en), .val (.int w), .val (.int v2), .val (.int v3), .val (.ref b4), .val (.int v15), .unset, .unset, .unset, .unset, .unset, .unset, .unset, .unset, .unset, .unset]) rfl k) ?_
    have HW := own_Wof hw1 hv2 hv15
    have hcu : nar .char v3 = v3 := own_chr hv3
    have Vu : Arv Z h14 b4 k4 .char (16394 : Int32) (own_vs v3) (.int 0) := by
      have q := V14_b4
      rw [show nar .char (33 : Int32) = (33 : Int32) from by decide, show nar .char (60 : Int32) = (60 : Int32) from by decide, show nar .char (65 : Int32) = (65 : Int32) from by decide, show nar .char (67 : Int32) = (67 : Int32) from by decide, show nar .char (68 : Int32) = (68 : Int32) from by decide, show nar .char (84 : Int32) = (84 : Int32) from by decide, show nar .char (91 : Int32) = (91 : Int32) from by decide, hcu] at q
      exact q
    refine own_g (T14.setTop (mkF m 145 #[.val (.int p0), .val (.int p1), .val (.int p2), .val (.int v1), .val (.ref en), .val (.int w), .val (.int v2), .val (.int v3), .val (.ref b4), .val (.int v15), .unset, .unset, .unset, .unset, .unset, .unset, .unset, .unset, .unset, .unset] [(.int v3)])) (fun _ k => XS.iload X14.here hx rfl (hb hby at_143) rfl k) ?_
    refine own_g (T14.setTop (mkF m 147 #[.val (.int p0), .val (.int p1), .val (.int p2), .val (.int v1), .val (.ref en), .val (.int w), .val (.int v2), .val (.int v3), .val (.ref b4), .val (.int v15), .unset, .unset, .unset, .unset, .unset, .unset, .unset, .unset, .unset, .unset] [(.int 13), (.int v3)])) (fun _ k => XS.bipush X14.here hx rfl (hb hby at_145) k) ?_
    by_cases hc147 : v3 = (13 : Int32)
    · skip
      refine own_g (T14.setTop (mkF m 157 #[.val (.int p0), .val (.int p1), .val (.int p2), .val (.int v1), .val (.ref en), .val (.int w), .val (.int v2), .val (.int v3), .val (.ref b4), .val (.int v15), .unset, .unset, .unset, .unset, .unset, .unset, .unset, .unset, .unset, .unset] [])) (fun _ k => XS.icmpYes X14.here hx rfl (pc0 := 147) (pc' := 157) rfl (hb hby at_147) rfl (teq hc147).1 (by decide) (by decide) k) ?_
      refine own_g (T14.setTop (mkF m 160 #[.val (.int p0), .val (.int p1), .val (.int p2), .val (.int v1), .val (.ref en), .val (.int w), .val (.int v2), .val (.int v3), .val (.ref b4), .val (.int v15), .unset, .unset, .unset, .unset, .unset, .unset, .unset, .unset, .unset, .unset] [(.long 2)])) (X14.ldc2Long hx hown (mvT hZ (own_w hw 208 rfl)) (g := (mkF m 157 #[.val (.int p0), .val (.int p1), .val (.int p2), .val (.int v1), .val (.ref en), .val (.int w), .val (.int v2), .val (.int v3), .val (.ref b4), .val (.int v15), .unset, .unset, .unset, .unset, .unset, .unset, .unset, .unset, .unset, .unset] [])) rfl (hb hby at_157)) ?_
      refine own_g (T14.setTop (mkF m 164 #[.val (.int p0), .val (.int p1), .val (.int p2), .val (.int v1), .val (.ref en), .val (.int w), .val (.int v2), .val (.int v3), .val (.ref b4), .val (.int v15), .unset, .unset, .unset, .unset, .unset, .unset, .unset, .unset, .unset, .unset] [(.long 2)])) (fun _ k => XS.goto X14.here hx rfl (pc0 := 160) (pc' := 164) rfl (hb hby at_160) (by decide) (by decide) k) ?_
      rw [show (2 : Int64) = own_lx v3 (1 : Int64) from own_l13 hc147]
      exact seg164 v1 en w v2 v3 b4 v15 EC k4 _ _ _ HW hEC X14 e14 N14 Z14 K14 S_C_c14 S_F_c14 J_c14 Vu
    · skip
      refine own_g (T14.setTop (mkF m 150 #[.val (.int p0), .val (.int p1), .val (.int p2), .val (.int v1), .val (.ref en), .val (.int w), .val (.int v2), .val (.int v3), .val (.ref b4), .val (.int v15), .unset, .unset, .unset, .unset, .unset, .unset, .unset, .unset, .unset, .unset] [])) (fun _ k => XS.icmpNo X14.here hx rfl (hb hby at_147) rfl (feq hc147).1 k) ?_
      refine own_g (T14.setTop (mkF m 152 #[.val (.int p0), .val (.int p1), .val (.int p2), .val (.int v1), .val (.ref en), .val (.int w), .val (.int v2), .val (.int v3), .val (.ref b4), .val (.int v15), .unset, .unset, .unset, .unset, .unset, .unset, .unset, .unset, .unset, .unset] [(.int v3)])) (fun _ k => XS.iload X14.here hx rfl (hb hby at_150) rfl k) ?_
      refine own_g (T14.setTop (mkF m 154 #[.val (.int p0), .val (.int p1), .val (.int p2), .val (.int v1), .val (.ref en), .val (.int w), .val (.int v2), .val (.int v3), .val (.ref b4), .val (.int v15), .unset, .unset, .unset, .unset, .unset, .unset, .unset, .unset, .unset, .unset] [(.int 10), (.int v3)])) (fun _ k => XS.bipush X14.here hx rfl (hb hby at_152) k) ?_
      by_cases hc154 : v3 = (10 : Int32)
      · skip
        refine own_g (T14.setTop (mkF m 157 #[.val (.int p0), .val (.int p1), .val (.int p2), .val (.int v1), .val (.ref en), .val (.int w), .val (.int v2), .val (.int v3), .val (.ref b4), .val (.int v15), .unset, .unset, .unset, .unset, .unset, .unset, .unset, .unset, .unset, .unset] [])) (fun _ k => XS.icmpNo X14.here hx rfl (hb hby at_154) rfl (teq hc154).2 k) ?_
        refine own_g (T14.setTop (mkF m 160 #[.val (.int p0), .val (.int p1), .val (.int p2), .val (.int v1), .val (.ref en), .val (.int w), .val (.int v2), .val (.int v3), .val (.ref b4), .val (.int v15), .unset, .unset, .unset, .unset, .unset, .unset, .unset, .unset, .unset, .unset] [(.long 2)])) (X14.ldc2Long hx hown (mvT hZ (own_w hw 208 rfl)) (g := (mkF m 157 #[.val (.int p0), .val (.int p1), .val (.int p2), .val (.int v1), .val (.ref en), .val (.int w), .val (.int v2), .val (.int v3), .val (.ref b4), .val (.int v15), .unset, .unset, .unset, .unset, .unset, .unset, .unset, .unset, .unset, .unset] [])) rfl (hb hby at_157)) ?_
        refine own_g (T14.setTop (mkF m 164 #[.val (.int p0), .val (.int p1), .val (.int p2), .val (.int v1), .val (.ref en), .val (.int w), .val (.int v2), .val (.int v3), .val (.ref b4), .val (.int v15), .unset, .unset, .unset, .unset, .unset, .unset, .unset, .unset, .unset, .unset] [(.long 2)])) (fun _ k => XS.goto X14.here hx rfl (pc0 := 160) (pc' := 164) rfl (hb hby at_160) (by decide) (by decide) k) ?_
        rw [show (2 : Int64) = own_lx v3 (1 : Int64) from own_l10 hc154]
        exact seg164 v1 en w v2 v3 b4 v15 EC k4 _ _ _ HW hEC X14 e14 N14 Z14 K14 S_C_c14 S_F_c14 J_c14 Vu
      · skip
        refine own_g (T14.setTop (mkF m 163 #[.val (.int p0), .val (.int p1), .val (.int p2), .val (.int v1), .val (.ref en), .val (.int w), .val (.int v2), .val (.int v3), .val (.ref b4), .val (.int v15), .unset, .unset, .unset, .unset, .unset, .unset, .unset, .unset, .unset, .unset] [])) (fun _ k => XS.icmpYes X14.here hx rfl (pc0 := 154) (pc' := 163) rfl (hb hby at_154) rfl (feq hc154).2 (by decide) (by decide) k) ?_
        refine own_g (T14.setTop (mkF m 164 #[.val (.int p0), .val (.int p1), .val (.int p2), .val (.int v1), .val (.ref en), .val (.int w), .val (.int v2), .val (.int v3), .val (.ref b4), .val (.int v15), .unset, .unset, .unset, .unset, .unset, .unset, .unset, .unset, .unset, .unset] [(.long 1)])) (fun _ k => XS.lconst X14.here hx rfl (hb hby at_163) k) ?_
        rw [show (1 : Int64) = own_lx v3 (1 : Int64) from own_lno hc147 hc154]
        exact seg164 v1 en w v2 v3 b4 v15 EC k4 _ _ _ HW hEC X14 e14 N14 Z14 K14 S_C_c14 S_F_c14 J_c14 Vu
  show own_Goes p e below (own_EndW s Z own_EL (own_True n0) 16 33984) _
  refine own_g (s₁.setTop (mkF m 0 #[.val (.int p0), .val (.int p1), .val (.int p2), .unset, .unset, .unset, .unset, .unset, .unset, .unset, .unset, .unset, .unset, .unset, .unset, .unset, .unset, .unset, .unset, .unset] [])) (fun t k => castTop (ef_rm0 m p0 p1 p2) k) ?_
  refine own_g (s₁.setTop (mkF m 1 #[.val (.int p0), .val (.int p1), .val (.int p2), .unset, .unset, .unset, .unset, .unset, .unset, .unset, .unset, .unset, .unset, .unset, .unset, .unset, .unset, .unset, .unset, .unset] [(.int p0)])) (fun _ k => XS.iloadN X0.here hx rfl (hb hby at_0) rfl k) ?_
  refine own_g (s₁.setTop (mkF m 3 #[.val (.int p0), .val (.int p1), .val (.int p2), .unset, .unset, .unset, .unset, .unset, .unset, .unset, .unset, .unset, .unset, .unset, .unset, .unset, .unset, .unset, .unset, .unset] [(.int 2147483647), (.int p0)])) (X0.ldcInt hx hown (mvT hZ (own_w hw 0 rfl)) (g := (mkF m 1 #[.val (.int p0), .val (.int p1), .val (.int p2), .unset, .unset, .unset, .unset, .unset, .unset, .unset, .unset, .unset, .unset, .unset, .unset, .unset, .unset, .unset, .unset, .unset] [(.int p0)])) rfl (hb hby at_1)) ?_
  refine own_g (s₁.setTop (mkF m 4 #[.val (.int p0), .val (.int p1), .val (.int p2), .unset, .unset, .unset, .unset, .unset, .unset, .unset, .unset, .unset, .unset, .unset, .unset, .unset, .unset, .unset, .unset, .unset] [(.int (p0 &&& (2147483647 : Int32)))])) (fun _ k => XS.iand X0.here hx rfl (hb hby at_3) rfl k) ?_
  refine own_g (s₁.setTop (mkF m 5 #[.val (.int p0), .val (.int p1), .val (.int p2), .unset, .unset, .unset, .unset, .unset, .unset, .unset, .unset, .unset, .unset, .unset, .unset, .unset, .unset, .unset, .unset, .unset] [(.int 3), (.int (p0 &&& (2147483647 : Int32)))])) (fun _ k => XS.iconst X0.here hx rfl (hb hby at_4) k) ?_
  refine own_g (s₁.setTop (mkF m 6 #[.val (.int p0), .val (.int p1), .val (.int p2), .unset, .unset, .unset, .unset, .unset, .unset, .unset, .unset, .unset, .unset, .unset, .unset, .unset, .unset, .unset, .unset, .unset] [(.int ((p0 &&& (2147483647 : Int32)) % (3 : Int32)))])) (fun _ k => iremM X0 hx rfl (hb hby at_5) rfl (by decide) k) ?_
  generalize hv1 : ((p0 &&& (2147483647 : Int32)) % (3 : Int32)) = v1
  refine own_g (s₁.setTop (mkF m 7 #[.val (.int p0), .val (.int p1), .val (.int p2), .val (.int v1), .unset, .unset, .unset, .unset, .unset, .unset, .unset, .unset, .unset, .unset, .unset, .unset, .unset, .unset, .unset, .unset] [])) (fun _ k => XS.istoreN X0.here hx rfl (hb hby at_6) rfl (l' := #[.val (.int p0), .val (.int p1), .val (.int p2), .val (.int v1), .unset, .unset, .unset, .unset, .unset, .unset, .unset, .unset, .unset, .unset, .unset, .unset, .unset, .unset, .unset, .unset]) rfl k) ?_
  refine own_g (s₁.setTop (mkF m 8 #[.val (.int p0), .val (.int p1), .val (.int p2), .val (.int v1), .unset, .unset, .unset, .unset, .unset, .unset, .unset, .unset, .unset, .unset, .unset, .unset, .unset, .unset, .unset, .unset] [(.int v1)])) (fun _ k => XS.iloadN X0.here hx rfl (hb hby at_7) rfl k) ?_
  by_cases hc8 : v1 = (0 : Int32)
  · skip
    refine own_g (s₁.setTop (mkF m 11 #[.val (.int p0), .val (.int p1), .val (.int p2), .val (.int v1), .unset, .unset, .unset, .unset, .unset, .unset, .unset, .unset, .unset, .unset, .unset, .unset, .unset, .unset, .unset, .unset] [])) (fun _ k => XS.ifNo X0.here hx rfl (hb hby at_8) rfl ((if0 _ _).trans (teq hc8).2) k) ?_
    obtain ⟨T32, X32, e32, st32⟩ := getS2 X0 hx hZ hown (host := "") (Or.inl (own_w hw 1 rfl)) Via.refl e0 S_BYTES (g := (mkF m 11 #[.val (.int p0), .val (.int p1), .val (.int p2), .val (.int v1), .unset, .unset, .unset, .unset, .unset, .unset, .unset, .unset, .unset, .unset, .unset, .unset, .unset, .unset, .unset, .unset] [])) rfl (hb hby at_11)
    refine own_g (T32.setTop (mkF m 14 #[.val (.int p0), .val (.int p1), .val (.int p2), .val (.int v1), .unset, .unset, .unset, .unset, .unset, .unset, .unset, .unset, .unset, .unset, .unset, .unset, .unset, .unset, .unset, .unset] [(.ref s_BYTES)])) (st32) ?_
    refine own_g (T32.setTop (mkF m 31 #[.val (.int p0), .val (.int p1), .val (.int p2), .val (.int v1), .unset, .unset, .unset, .unset, .unset, .unset, .unset, .unset, .unset, .unset, .unset, .unset, .unset, .unset, .unset, .unset] [(.ref s_BYTES)])) (fun _ k => XS.goto X32.here hx rfl (pc0 := 14) (pc' := 31) rfl (hb hby at_14) (by decide) (by decide) k) ?_
    refine own_g (T32.setTop (mkF m 33 #[.val (.int p0), .val (.int p1), .val (.int p2), .val (.int v1), .val (.ref s_BYTES), .unset, .unset, .unset, .unset, .unset, .unset, .unset, .unset, .unset, .unset, .unset, .unset, .unset, .unset, .unset] [])) (fun _ k => XS.astore X32.here hx rfl (hb hby at_31) rfl rfl (l' := #[.val (.int p0), .val (.int p1), .val (.int p2), .val (.int v1), .val (.ref s_BYTES), .unset, .unset, .unset, .unset, .unset, .unset, .unset, .unset, .unset, .unset, .unset, .unset, .unset, .unset, .unset]) rfl k) ?_
    refine own_g (T32.setTop (mkF m 34 #[.val (.int p0), .val (.int p1), .val (.int p2), .val (.int v1), .val (.ref s_BYTES), .unset, .unset, .unset, .unset, .unset, .unset, .unset, .unset, .unset, .unset, .unset, .unset, .unset, .unset, .unset] [(.int v1)])) (fun _ k => XS.iloadN X32.here hx rfl (hb hby at_33) rfl k) ?_
    refine own_g (T32.setTop (mkF m 35 #[.val (.int p0), .val (.int p1), .val (.int p2), .val (.int v1), .val (.ref s_BYTES), .unset, .unset, .unset, .unset, .unset, .unset, .unset, .unset, .unset, .unset, .unset, .unset, .unset, .unset, .unset] [(.int 2), (.int v1)])) (fun _ k => XS.iconst X32.here hx rfl (hb hby at_34) k) ?_
    refine own_g (T32.setTop (mkF m 42 #[.val (.int p0), .val (.int p1), .val (.int p2), .val (.int v1), .val (.ref s_BYTES), .unset, .unset, .unset, .unset, .unset, .unset, .unset, .unset, .unset, .unset, .unset, .unset, .unset, .unset, .unset] [])) (fun _ k => XS.icmpYes X32.here hx rfl (pc0 := 35) (pc' := 42) rfl (hb hby at_35) rfl (feq (by rw [hc8]; decide : ¬ (v1 = (2 : Int32)))).2 (by decide) (by decide) k) ?_
    refine own_g (T32.setTop (mkF m 43 #[.val (.int p0), .val (.int p1), .val (.int p2), .val (.int v1), .val (.ref s_BYTES), .unset, .unset, .unset, .unset, .unset, .unset, .unset, .unset, .unset, .unset, .unset, .unset, .unset, .unset, .unset] [(.int 1)])) (fun _ k => XS.iconst X32.here hx rfl (hb hby at_42) k) ?_
    refine own_g (T32.setTop (mkF m 45 #[.val (.int p0), .val (.int p1), .val (.int p2), .val (.int v1), .val (.ref s_BYTES), .val (.int 1), .unset, .unset, .unset, .unset, .unset, .unset, .unset, .unset, .unset, .unset, .unset, .unset, .unset, .unset] [])) (fun _ k => XS.istore X32.here hx rfl (hb hby at_43) rfl (l' := #[.val (.int p0), .val (.int p1), .val (.int p2), .val (.int v1), .val (.ref s_BYTES), .val (.int 1), .unset, .unset, .unset, .unset, .unset, .unset, .unset, .unset, .unset, .unset, .unset, .unset, .unset, .unset]) rfl k) ?_
    exact j45 _ _ _ _ _ X32 e32 J_BYTES (Or.inl rfl) (Or.inl rfl)
  · skip
    refine own_g (s₁.setTop (mkF m 17 #[.val (.int p0), .val (.int p1), .val (.int p2), .val (.int v1), .unset, .unset, .unset, .unset, .unset, .unset, .unset, .unset, .unset, .unset, .unset, .unset, .unset, .unset, .unset, .unset] [])) (fun _ k => XS.ifYes X0.here hx rfl (pc0 := 8) (pc' := 17) rfl (hb hby at_8) rfl ((if0 _ _).trans (feq hc8).2) (by decide) (by decide) k) ?_
    refine own_g (s₁.setTop (mkF m 18 #[.val (.int p0), .val (.int p1), .val (.int p2), .val (.int v1), .unset, .unset, .unset, .unset, .unset, .unset, .unset, .unset, .unset, .unset, .unset, .unset, .unset, .unset, .unset, .unset] [(.int v1)])) (fun _ k => XS.iloadN X0.here hx rfl (hb hby at_17) rfl k) ?_
    refine own_g (s₁.setTop (mkF m 19 #[.val (.int p0), .val (.int p1), .val (.int p2), .val (.int v1), .unset, .unset, .unset, .unset, .unset, .unset, .unset, .unset, .unset, .unset, .unset, .unset, .unset, .unset, .unset, .unset] [(.int 1), (.int v1)])) (fun _ k => XS.iconst X0.here hx rfl (hb hby at_18) k) ?_
    by_cases hc19 : v1 = (1 : Int32)
    · skip
      refine own_g (s₁.setTop (mkF m 22 #[.val (.int p0), .val (.int p1), .val (.int p2), .val (.int v1), .unset, .unset, .unset, .unset, .unset, .unset, .unset, .unset, .unset, .unset, .unset, .unset, .unset, .unset, .unset, .unset] [])) (fun _ k => XS.icmpNo X0.here hx rfl (hb hby at_19) rfl (teq hc19).2 k) ?_
      obtain ⟨T33, X33, e33, st33⟩ := getS2 X0 hx hZ hown (host := "") (Or.inl (own_w hw 189 rfl)) Via.refl e0 S_UTF_8 (g := (mkF m 22 #[.val (.int p0), .val (.int p1), .val (.int p2), .val (.int v1), .unset, .unset, .unset, .unset, .unset, .unset, .unset, .unset, .unset, .unset, .unset, .unset, .unset, .unset, .unset, .unset] [])) rfl (hb hby at_22)
      refine own_g (T33.setTop (mkF m 25 #[.val (.int p0), .val (.int p1), .val (.int p2), .val (.int v1), .unset, .unset, .unset, .unset, .unset, .unset, .unset, .unset, .unset, .unset, .unset, .unset, .unset, .unset, .unset, .unset] [(.ref s_UTF_8)])) (st33) ?_
      refine own_g (T33.setTop (mkF m 31 #[.val (.int p0), .val (.int p1), .val (.int p2), .val (.int v1), .unset, .unset, .unset, .unset, .unset, .unset, .unset, .unset, .unset, .unset, .unset, .unset, .unset, .unset, .unset, .unset] [(.ref s_UTF_8)])) (fun _ k => XS.goto X33.here hx rfl (pc0 := 25) (pc' := 31) rfl (hb hby at_25) (by decide) (by decide) k) ?_
      refine own_g (T33.setTop (mkF m 33 #[.val (.int p0), .val (.int p1), .val (.int p2), .val (.int v1), .val (.ref s_UTF_8), .unset, .unset, .unset, .unset, .unset, .unset, .unset, .unset, .unset, .unset, .unset, .unset, .unset, .unset, .unset] [])) (fun _ k => XS.astore X33.here hx rfl (hb hby at_31) rfl rfl (l' := #[.val (.int p0), .val (.int p1), .val (.int p2), .val (.int v1), .val (.ref s_UTF_8), .unset, .unset, .unset, .unset, .unset, .unset, .unset, .unset, .unset, .unset, .unset, .unset, .unset, .unset, .unset]) rfl k) ?_
      refine own_g (T33.setTop (mkF m 34 #[.val (.int p0), .val (.int p1), .val (.int p2), .val (.int v1), .val (.ref s_UTF_8), .unset, .unset, .unset, .unset, .unset, .unset, .unset, .unset, .unset, .unset, .unset, .unset, .unset, .unset, .unset] [(.int v1)])) (fun _ k => XS.iloadN X33.here hx rfl (hb hby at_33) rfl k) ?_
      refine own_g (T33.setTop (mkF m 35 #[.val (.int p0), .val (.int p1), .val (.int p2), .val (.int v1), .val (.ref s_UTF_8), .unset, .unset, .unset, .unset, .unset, .unset, .unset, .unset, .unset, .unset, .unset, .unset, .unset, .unset, .unset] [(.int 2), (.int v1)])) (fun _ k => XS.iconst X33.here hx rfl (hb hby at_34) k) ?_
      refine own_g (T33.setTop (mkF m 42 #[.val (.int p0), .val (.int p1), .val (.int p2), .val (.int v1), .val (.ref s_UTF_8), .unset, .unset, .unset, .unset, .unset, .unset, .unset, .unset, .unset, .unset, .unset, .unset, .unset, .unset, .unset] [])) (fun _ k => XS.icmpYes X33.here hx rfl (pc0 := 35) (pc' := 42) rfl (hb hby at_35) rfl (feq (by rw [hc19]; decide : ¬ (v1 = (2 : Int32)))).2 (by decide) (by decide) k) ?_
      refine own_g (T33.setTop (mkF m 43 #[.val (.int p0), .val (.int p1), .val (.int p2), .val (.int v1), .val (.ref s_UTF_8), .unset, .unset, .unset, .unset, .unset, .unset, .unset, .unset, .unset, .unset, .unset, .unset, .unset, .unset, .unset] [(.int 1)])) (fun _ k => XS.iconst X33.here hx rfl (hb hby at_42) k) ?_
      refine own_g (T33.setTop (mkF m 45 #[.val (.int p0), .val (.int p1), .val (.int p2), .val (.int v1), .val (.ref s_UTF_8), .val (.int 1), .unset, .unset, .unset, .unset, .unset, .unset, .unset, .unset, .unset, .unset, .unset, .unset, .unset, .unset] [])) (fun _ k => XS.istore X33.here hx rfl (hb hby at_43) rfl (l' := #[.val (.int p0), .val (.int p1), .val (.int p2), .val (.int v1), .val (.ref s_UTF_8), .val (.int 1), .unset, .unset, .unset, .unset, .unset, .unset, .unset, .unset, .unset, .unset, .unset, .unset, .unset, .unset]) rfl k) ?_
      exact j45 _ _ _ _ _ X33 e33 J_UTF_8 (Or.inr (Or.inl rfl)) (Or.inl rfl)
    · skip
      refine own_g (s₁.setTop (mkF m 28 #[.val (.int p0), .val (.int p1), .val (.int p2), .val (.int v1), .unset, .unset, .unset, .unset, .unset, .unset, .unset, .unset, .unset, .unset, .unset, .unset, .unset, .unset, .unset, .unset] [])) (fun _ k => XS.icmpYes X0.here hx rfl (pc0 := 19) (pc' := 28) rfl (hb hby at_19) rfl (feq hc19).2 (by decide) (by decide) k) ?_
      obtain ⟨T34, X34, e34, st34⟩ := getS2 X0 hx hZ hown (host := "") (Or.inl (own_w hw 196 rfl)) Via.refl e0 S_UTF_16 (g := (mkF m 28 #[.val (.int p0), .val (.int p1), .val (.int p2), .val (.int v1), .unset, .unset, .unset, .unset, .unset, .unset, .unset, .unset, .unset, .unset, .unset, .unset, .unset, .unset, .unset, .unset] [])) rfl (hb hby at_28)
      refine own_g (T34.setTop (mkF m 31 #[.val (.int p0), .val (.int p1), .val (.int p2), .val (.int v1), .unset, .unset, .unset, .unset, .unset, .unset, .unset, .unset, .unset, .unset, .unset, .unset, .unset, .unset, .unset, .unset] [(.ref s_UTF_16)])) (st34) ?_
      refine own_g (T34.setTop (mkF m 33 #[.val (.int p0), .val (.int p1), .val (.int p2), .val (.int v1), .val (.ref s_UTF_16), .unset, .unset, .unset, .unset, .unset, .unset, .unset, .unset, .unset, .unset, .unset, .unset, .unset, .unset, .unset] [])) (fun _ k => XS.astore X34.here hx rfl (hb hby at_31) rfl rfl (l' := #[.val (.int p0), .val (.int p1), .val (.int p2), .val (.int v1), .val (.ref s_UTF_16), .unset, .unset, .unset, .unset, .unset, .unset, .unset, .unset, .unset, .unset, .unset, .unset, .unset, .unset, .unset]) rfl k) ?_
      refine own_g (T34.setTop (mkF m 34 #[.val (.int p0), .val (.int p1), .val (.int p2), .val (.int v1), .val (.ref s_UTF_16), .unset, .unset, .unset, .unset, .unset, .unset, .unset, .unset, .unset, .unset, .unset, .unset, .unset, .unset, .unset] [(.int v1)])) (fun _ k => XS.iloadN X34.here hx rfl (hb hby at_33) rfl k) ?_
      refine own_g (T34.setTop (mkF m 35 #[.val (.int p0), .val (.int p1), .val (.int p2), .val (.int v1), .val (.ref s_UTF_16), .unset, .unset, .unset, .unset, .unset, .unset, .unset, .unset, .unset, .unset, .unset, .unset, .unset, .unset, .unset] [(.int 2), (.int v1)])) (fun _ k => XS.iconst X34.here hx rfl (hb hby at_34) k) ?_
      refine own_g (T34.setTop (mkF m 38 #[.val (.int p0), .val (.int p1), .val (.int p2), .val (.int v1), .val (.ref s_UTF_16), .unset, .unset, .unset, .unset, .unset, .unset, .unset, .unset, .unset, .unset, .unset, .unset, .unset, .unset, .unset] [])) (fun _ k => XS.icmpNo X34.here hx rfl (hb hby at_35) rfl (teq (own_k3 hv1 hc8 hc19 : v1 = (2 : Int32))).2 k) ?_
      refine own_g (T34.setTop (mkF m 39 #[.val (.int p0), .val (.int p1), .val (.int p2), .val (.int v1), .val (.ref s_UTF_16), .unset, .unset, .unset, .unset, .unset, .unset, .unset, .unset, .unset, .unset, .unset, .unset, .unset, .unset, .unset] [(.int 2)])) (fun _ k => XS.iconst X34.here hx rfl (hb hby at_38) k) ?_
      refine own_g (T34.setTop (mkF m 43 #[.val (.int p0), .val (.int p1), .val (.int p2), .val (.int v1), .val (.ref s_UTF_16), .unset, .unset, .unset, .unset, .unset, .unset, .unset, .unset, .unset, .unset, .unset, .unset, .unset, .unset, .unset] [(.int 2)])) (fun _ k => XS.goto X34.here hx rfl (pc0 := 39) (pc' := 43) rfl (hb hby at_39) (by decide) (by decide) k) ?_
      refine own_g (T34.setTop (mkF m 45 #[.val (.int p0), .val (.int p1), .val (.int p2), .val (.int v1), .val (.ref s_UTF_16), .val (.int 2), .unset, .unset, .unset, .unset, .unset, .unset, .unset, .unset, .unset, .unset, .unset, .unset, .unset, .unset] [])) (fun _ k => XS.istore X34.here hx rfl (hb hby at_43) rfl (l' := #[.val (.int p0), .val (.int p1), .val (.int p2), .val (.int v1), .val (.ref s_UTF_16), .val (.int 2), .unset, .unset, .unset, .unset, .unset, .unset, .unset, .unset, .unset, .unset, .unset, .unset, .unset, .unset]) rfl k) ?_
      exact j45 _ _ _ _ _ X34 e34 J_UTF_16 (Or.inr (Or.inr rfl)) (Or.inr rfl)
set_option maxRecDepth 65536 in
set_option maxHeartbeats 40000000 in
theorem comes_1 {Post : Tables → Env → Array Value → State → Outcome → State → Prop} (hpost : ∀ tb e args s v u, (limb_1_1.after args s (.returned v) u = true ∧ limb_1_2.after args s (.returned v) u = true ∧ True) → ReturnedEndW s (.returned v) u (Jvm.fieldLocs frame_1_writes args s ++ Jvm.arrayLocs frame_1_arrays args s ++ Jvm.staticLocs frame_1_statics s) 16 33984 → Post tb e args s (.returned v) u) :
    ArmFor flags0 classFile x code maxLocals ret World_1 tables_1 room_1 Calls_1 rest_1 Pre_1 Post := by
  intro l hfl _ _ p e ha hc hk s m args below hf hA hF happ hP
  obtain ⟨hcalls, hrest, hpre⟩ := hP
  obtain ⟨-, -, -, hnamed, -, -, -, hat⟩ := (Spec.applies_iff hf).mp happ
  obtain ⟨hg, hn⟩ := and_e (Cond.before_iff.mp (show (Jvm.Cond.and given_1 narrow_1).before args s = true from hpre))
  obtain ⟨gc, g0⟩ := and_e hg
  obtain ⟨ga0, g1⟩ := and_e g0
  obtain ⟨ga1, g2⟩ := and_e g1
  obtain ⟨w0, w1, w2, rfl⟩ : ∃ w0 w1 w2 : Value, args = #[w0, w1, w2] := by
    have hs : args.size = 3 := by simpa [Cond.value, given_1] using gc
    obtain ⟨L⟩ := args
    match L, hs with
    | [w0, w1, w2], _ => exact ⟨w0, w1, w2, rfl⟩
  have hw := fun d (hd : d ∈ tables_1) => atoms_spec (ws := Jvm.Cond.code x code maxLocals ret :: tables_1) hat d (List.mem_cons_of_mem _ hd)
  obtain ⟨i0, ei0⟩ := is_v ga0
  obtain rfl : w0 = (.int i0) := Option.some.inj ei0
  obtain ⟨i1, ei1⟩ := is_v ga1
  obtain rfl : w1 = (.int i1) := Option.some.inj ei1
  obtain ⟨i2, ei2⟩ := is_v g2
  obtain rfl : w2 = (.int i2) := Option.some.inj ei2
  obtain ⟨hsets, hown0⟩ := atoms_of _ (rest_1_c_eq ▸ (show rest_1_c.before _ s = true from hrest))
  have hStr : ∀ a ∈ Bundle.stringAtoms, a.before #[.int i0, .int i1, .int i2] s = true := by
    intro a ha
    simp only [Bundle.stringAtoms, Bundle.sN, List.mem_cons, List.not_mem_nil, or_false] at ha
    rcases ha with rfl | rfl | rfl | rfl | rfl | rfl | rfl
    all_goals first | exact hw _ (List.mem_of_getElem? (i := 92) rfl) | exact hw _ (List.mem_of_getElem? (i := 93) rfl) | exact hw _ (List.mem_of_getElem? (i := 94) rfl) | exact hw _ (List.mem_of_getElem? (i := 95) rfl) | exact hw _ (List.mem_of_getElem? (i := 96) rfl) | exact hw _ (List.mem_of_getElem? (i := 97) rfl) | exact hw _ (List.mem_of_getElem? (i := 98) rfl)
  have hEL : EW s #[.int i0, .int i1, .int i2] own_EL := EW.cons (own_w hw 91 rfl) (by decide) EW.nil
  have hS := fun d hd => Cond.before_iff.mp (hsets d hd)
  obtain ⟨wC, ewC⟩ := is_v (hS _ (List.mem_of_getElem? (i := 1) rfl))
  have S_C := Sta.start ewC (Or.inl (hsets _ (List.mem_of_getElem? (i := 0) rfl)))
  have hC : ¬ (wC = (0 : Int32)) := fun q => by
    have h2 := hS _ (List.mem_of_getElem? (i := 2) rfl)
    have h3 := not_v h2
    rw [eq_i ewC (Term.int_eval (0)) (by rw [q])] at h3
    cases h3
  obtain ⟨wF, ewF, hG⟩ := isR_v (hS _ (List.mem_of_getElem? (i := 8) rfl))
  have S_F := Sta.start ewF (Or.inl (hsets _ (List.mem_of_getElem? (i := 7) rfl)))
  have hCH : CHv s own_EL s.vm s.heap := CHv.start hEL (fun p hp => hcalls.1 p hp) (hsets _ (List.mem_of_getElem? (i := 2) rfl)) (own_w hw 94 rfl) (own_w hw 93 rfl)
  obtain ⟨E_BYTES, r0⟩ := and_e hn
  obtain ⟨E_TEXT, r1⟩ := and_e r0
  obtain ⟨O_BYTES, r2⟩ := and_e r1
  obtain ⟨E_TAG, r3⟩ := and_e r2
  obtain ⟨O_TEXT, r4⟩ := and_e r3
  obtain ⟨O_TAG, r5⟩ := and_e r4
  obtain ⟨E_PROCESSING_INSTRUCTION, r6⟩ := and_e r5
  obtain ⟨O_PROCESSING_INSTRUCTION, r7⟩ := and_e r6
  obtain ⟨E_OPEN, r8⟩ := and_e r7
  obtain ⟨O_OPEN, r9⟩ := and_e r8
  obtain ⟨E_BANG, r10⟩ := and_e r9
  obtain ⟨O_BANG, r11⟩ := and_e r10
  obtain ⟨E_CDATA_OPEN, r12⟩ := and_e r11
  obtain ⟨O_CDATA_OPEN, r13⟩ := and_e r12
  obtain ⟨E_CDATA, r14⟩ := and_e r13
  obtain ⟨O_CDATA, r15⟩ := and_e r14
  obtain ⟨E_UTF_8, r16⟩ := and_e r15
  obtain ⟨O_UTF_8, r17⟩ := and_e r16
  obtain ⟨E_UTF_16, r18⟩ := and_e r17
  have O_UTF_16 := r18
  obtain ⟨s_BYTES, ev_BYTES⟩ := exa_v E_BYTES
  have S_BYTES := Sta.start ev_BYTES (Or.inr ⟨(own_w hw 2 rfl), (own_w hw 3 rfl)⟩)
  have Ex_BYTES := Exa.start ev_BYTES E_BYTES
  have Or_BYTES := own_ord O_BYTES ev_BYTES
  obtain ⟨s_TEXT, ev_TEXT⟩ := exa_v E_TEXT
  have S_TEXT := Sta.start ev_TEXT (Or.inr ⟨(own_w hw 15 rfl), (own_w hw 16 rfl)⟩)
  have Ex_TEXT := Exa.start ev_TEXT E_TEXT
  have Or_TEXT := own_ord O_TEXT ev_TEXT
  obtain ⟨s_TAG, ev_TAG⟩ := exa_v E_TAG
  have S_TAG := Sta.start ev_TAG (Or.inr ⟨(own_w hw 15 rfl), (own_w hw 51 rfl)⟩)
  have Ex_TAG := Exa.start ev_TAG E_TAG
  have Or_TAG := own_ord O_TAG ev_TAG
  obtain ⟨s_PROCESSING_INSTRUCTION, ev_PROCESSING_INSTRUCTION⟩ := exa_v E_PROCESSING_INSTRUCTION
  have S_PROCESSING_INSTRUCTION := Sta.start ev_PROCESSING_INSTRUCTION (Or.inr ⟨(own_w hw 15 rfl), (own_w hw 53 rfl)⟩)
  have Ex_PROCESSING_INSTRUCTION := Exa.start ev_PROCESSING_INSTRUCTION E_PROCESSING_INSTRUCTION
  have Or_PROCESSING_INSTRUCTION := own_ord O_PROCESSING_INSTRUCTION ev_PROCESSING_INSTRUCTION
  obtain ⟨s_OPEN, ev_OPEN⟩ := exa_v E_OPEN
  have S_OPEN := Sta.start ev_OPEN (Or.inr ⟨(own_w hw 15 rfl), (own_w hw 76 rfl)⟩)
  have Ex_OPEN := Exa.start ev_OPEN E_OPEN
  have Or_OPEN := own_ord O_OPEN ev_OPEN
  obtain ⟨s_BANG, ev_BANG⟩ := exa_v E_BANG
  have S_BANG := Sta.start ev_BANG (Or.inr ⟨(own_w hw 15 rfl), (own_w hw 78 rfl)⟩)
  have Ex_BANG := Exa.start ev_BANG E_BANG
  have Or_BANG := own_ord O_BANG ev_BANG
  obtain ⟨s_CDATA_OPEN, ev_CDATA_OPEN⟩ := exa_v E_CDATA_OPEN
  have S_CDATA_OPEN := Sta.start ev_CDATA_OPEN (Or.inr ⟨(own_w hw 15 rfl), (own_w hw 86 rfl)⟩)
  have Ex_CDATA_OPEN := Exa.start ev_CDATA_OPEN E_CDATA_OPEN
  have Or_CDATA_OPEN := own_ord O_CDATA_OPEN ev_CDATA_OPEN
  obtain ⟨s_CDATA, ev_CDATA⟩ := exa_v E_CDATA
  have S_CDATA := Sta.start ev_CDATA (Or.inr ⟨(own_w hw 15 rfl), (own_w hw 143 rfl)⟩)
  have Ex_CDATA := Exa.start ev_CDATA E_CDATA
  have Or_CDATA := own_ord O_CDATA ev_CDATA
  obtain ⟨s_UTF_8, ev_UTF_8⟩ := exa_v E_UTF_8
  have S_UTF_8 := Sta.start ev_UTF_8 (Or.inr ⟨(own_w hw 2 rfl), (own_w hw 190 rfl)⟩)
  have Ex_UTF_8 := Exa.start ev_UTF_8 E_UTF_8
  have Or_UTF_8 := own_ord O_UTF_8 ev_UTF_8
  obtain ⟨s_UTF_16, ev_UTF_16⟩ := exa_v E_UTF_16
  have S_UTF_16 := Sta.start ev_UTF_16 (Or.inr ⟨(own_w hw 2 rfl), (own_w hw 197 rfl)⟩)
  have Ex_UTF_16 := Exa.start ev_UTF_16 E_UTF_16
  have Or_UTF_16 := own_ord O_UTF_16 ev_UTF_16
  have J_BYTES : own_J s s.heap s.heap.size s_BYTES "com/example/corridor/corridor/iso20022/MarkupScanner$Encoding" (1 : Int32) (own_sa s_TEXT s_OPEN s_TAG s_BANG s_CDATA_OPEN s_PROCESSING_INSTRUCTION s_CDATA) := own_J.of S_TEXT Ex_TEXT Or_TEXT Ex_TEXT.lt S_OPEN Ex_OPEN Or_OPEN Ex_OPEN.lt S_TAG Ex_TAG Or_TAG Ex_TAG.lt S_BANG Ex_BANG Or_BANG Ex_BANG.lt S_CDATA_OPEN Ex_CDATA_OPEN Or_CDATA_OPEN Ex_CDATA_OPEN.lt S_PROCESSING_INSTRUCTION Ex_PROCESSING_INSTRUCTION Or_PROCESSING_INSTRUCTION Ex_PROCESSING_INSTRUCTION.lt S_CDATA Ex_CDATA Or_CDATA Ex_CDATA.lt Ex_BYTES Or_BYTES Ex_BYTES.lt
  have J_UTF_8 : own_J s s.heap s.heap.size s_UTF_8 "com/example/corridor/corridor/iso20022/MarkupScanner$Encoding$1" (1 : Int32) (own_sa s_TEXT s_OPEN s_TAG s_BANG s_CDATA_OPEN s_PROCESSING_INSTRUCTION s_CDATA) := own_J.of S_TEXT Ex_TEXT Or_TEXT Ex_TEXT.lt S_OPEN Ex_OPEN Or_OPEN Ex_OPEN.lt S_TAG Ex_TAG Or_TAG Ex_TAG.lt S_BANG Ex_BANG Or_BANG Ex_BANG.lt S_CDATA_OPEN Ex_CDATA_OPEN Or_CDATA_OPEN Ex_CDATA_OPEN.lt S_PROCESSING_INSTRUCTION Ex_PROCESSING_INSTRUCTION Or_PROCESSING_INSTRUCTION Ex_PROCESSING_INSTRUCTION.lt S_CDATA Ex_CDATA Or_CDATA Ex_CDATA.lt Ex_UTF_8 Or_UTF_8 Ex_UTF_8.lt
  have J_UTF_16 : own_J s s.heap s.heap.size s_UTF_16 "com/example/corridor/corridor/iso20022/MarkupScanner$Encoding$2" (2 : Int32) (own_sa s_TEXT s_OPEN s_TAG s_BANG s_CDATA_OPEN s_PROCESSING_INSTRUCTION s_CDATA) := own_J.of S_TEXT Ex_TEXT Or_TEXT Ex_TEXT.lt S_OPEN Ex_OPEN Or_OPEN Ex_OPEN.lt S_TAG Ex_TAG Or_TAG Ex_TAG.lt S_BANG Ex_BANG Or_BANG Ex_BANG.lt S_CDATA_OPEN Ex_CDATA_OPEN Or_CDATA_OPEN Ex_CDATA_OPEN.lt S_PROCESSING_INSTRUCTION Ex_PROCESSING_INSTRUCTION Or_PROCESSING_INSTRUCTION Ex_PROCESSING_INSTRUCTION.lt S_CDATA Ex_CDATA Or_CDATA Ex_CDATA.lt Ex_UTF_16 Or_UTF_16 Ex_UTF_16.lt
  obtain ⟨n, o, h1, h2, h3, _, L, rfl, ⟨rfl, N⟩, -, hq⟩ := rm0 l s _ hw tables_1 i0 i1 i2 wC wF (own_sa s_TEXT s_OPEN s_TAG s_BANG s_CDATA_OPEN s_PROCESSING_INSTRUCTION s_CDATA) s_BYTES s_UTF_8 s_UTF_16 s.heap s.heap.size (Nat.le_refl _) hEL hStr S_C hC S_F hG S_BYTES S_UTF_8 S_UTF_16 J_BYTES J_UTF_8 J_UTF_16 p e ha hc hk s m _ below hf ((Spec.applies_iff_loose hf).mp happ).1 ⟨rfl, State.Warmed39.refl s, rfl, hCH⟩ trivial
  refine ⟨n, _, h1, h2, h3, hpost _ _ _ _ _ _ ⟨Cond.after_iff.mpr rfl, Cond.after_iff.mpr (eq_i res_at (Term.int_eval (1)) rfl), trivial⟩ ⟨hq.1, hq.2.1, hq.2.2.1, (hq.2.2.2.sift fun y hy => Or.inr (N y hy)).mono (by decide) (by decide)⟩⟩
theorem main_1_1 : Claimed_1_1 := comes_1 fun _ _ _ _ _ _ h hF => ⟨h.1, hF⟩
theorem main_1_2 : Claimed_1_2 := comes_1 fun _ _ _ _ _ _ h hF => ⟨h.2.1, hF⟩
end Jvm.Pilot.@@N@@
namespace Jvm.Pilot.@@N@@
open Jvm Jvm.ClassFile Sem Op Lib Jvm.Free Jvm.Stand Jvm.Pilot.@@N@@.Jvm.D
/-! MADE BY PROGRAM (witnessworld.py) out of the Statement's table words and the real class files: 25 classes; the members and pool entries that the words name. The judged class is class 1, her method 1. -/
namespace start1
open Jvm.ClassFile
def u (s : String) : CpInfo := .utf8 (stringToUtf16 s)
/-- a pool by its gaps: so many unusable entries, then the entry; so many at the end -/
def gap : Nat → List CpInfo → List CpInfo
  | 0, r => r
  | n + 1, r => .unusable :: gap n r
def poolList (es : List (Nat × CpInfo)) (last : Nat) : List CpInfo := es.foldr (fun e r => gap e.1 (e.2 :: r)) (gap last [])
def pool (es : List (Nat × CpInfo)) (last : Nat) : Array CpInfo := ⟨poolList es last⟩
def fileOf (pool : Array CpInfo) (this : Nat) (attrs : Array Attribute := #[]) (ms : Array MethodInfo := #[]) (fl : Nat := 33) (sup : Nat := 0) (ifs : Array Nat := #[]) (fds : Array FieldInfo := #[]) : ClassFile where
  minorVersion := 0
  majorVersion := 65
  constantPool := pool
  accessFlags := fl
  thisClass := this
  superClass := sup
  interfaces := ifs
  fields := fds
  methods := ms
  attributes := attrs
def plain (name : String) (sup : Option ClassId) : Class where
  name := name
  kind := .ordinary
  loader := none
  accessFlags := 33
  super := sup
  interfaces := #[]
  cf := none
  fields := #[]
  methods := #[]
  instanceTypes := #[]
  staticTypes := #[]
  resolved := #[]
  callSites := []
  init := .initialized
  statics := none
  mirror := none

def pool0 : Array CpInfo := pool [(5, u "<init>"), (0, u "()V"), (1, .class_ 10), (1, u "java/lang/Object")] 113

def k0c0 : Code := { maxStack := 0, maxLocals := 1, code := object_method_1_code, exceptionTable := #[], attributes := #[] }
def k0m0 : Method := { name := "<init>", desc := "()V", sig := { parameters := [], returnType := none }, accessFlags := 1, code := some k0c0 }
/-- java/lang/Object -/
def k0 : Class := { plain "java/lang/Object" none with
  accessFlags := 33
  interfaces := #[]
  cf := some (fileOf pool0 8 #[] #[{ accessFlags := 1, nameIndex := 5, descriptorIndex := 6, attributes := #[] }] 33 0 #[] #[])
  fields := #[]
  methods := #[k0m0]
  instanceTypes := #[]
  staticTypes := #[]
  resolved := Array.replicate 124 none
  statics := none }

def pool1 : Array CpInfo := pool [(2, .class_ 4), (0, .nameAndType 5 6), (0, u "java/lang/Object"), (0, u "<init>"), (0, u "()V"), (0, .integer 2147483647), (0, .fieldref 9 10), (0, .class_ 11), (0, .nameAndType 12 13), (0, u "com/example/corridor/corridor/iso20022/MarkupScanner$Encoding"), (0, u "BYTES"), (0, u "Lcom/example/corridor/corridor/iso20022/MarkupScanner$Encoding;"), (0, .fieldref 9 15), (0, .nameAndType 16 13), (0, u "UTF_8"), (0, .fieldref 9 18), (0, .nameAndType 19 13), (0, u "UTF_16"), (0, .long 2), (1, .class_ 23), (0, u "com/example/corridor/corridor/iso20022/MarkupScanner"), (0, .methodref 22 3), (0, .methodref 22 26), (0, .nameAndType 27 28), (0, u "scan"), (0, u "([CIILcom/example/corridor/corridor/iso20022/MarkupScanner$Encoding;)I"), (0, .methodref 22 30), (0, .nameAndType 31 6), (0, u "cut"), (0, .methodref 22 33), (0, .nameAndType 34 35), (0, u "cutReady"), (0, u "()Z"), (0, .methodref 22 37), (0, .nameAndType 38 39), (0, u "pieceOffset"), (0, u "()J"), (0, .methodref 22 41), (0, .nameAndType 42 39), (0, u "line"), (0, .class_ 44), (0, u "com/example/corridor/corridor/iso20022/MarkupScannerCutPinLaw"), (2, u "law"), (0, u "(III)Z")] 10

def k1m0 : Method := { name := "<init>", desc := "()V", sig := { parameters := [], returnType := none }, accessFlags := 1, code := none }
def k1c1 : Code := { maxStack := 6, maxLocals := 20, code := code, exceptionTable := #[], attributes := #[] }
def k1m1 : Method := { name := "law", desc := "(III)Z", sig := { parameters := [.int, .int, .int], returnType := some .boolean }, accessFlags := 9, code := some k1c1 }
/-- com/example/corridor/corridor/iso20022/MarkupScannerCutPinLaw -/
def k1 : Class := { plain "com/example/corridor/corridor/iso20022/MarkupScannerCutPinLaw" (some 0) with
  accessFlags := 49
  interfaces := #[]
  cf := some (fileOf pool1 43 #[] #[{ accessFlags := 1, nameIndex := 5, descriptorIndex := 6, attributes := #[] }, { accessFlags := 9, nameIndex := 47, descriptorIndex := 48, attributes := #[] }] 49 2 #[] #[])
  fields := #[]
  methods := #[k1m0, k1m1]
  instanceTypes := #[]
  staticTypes := #[]
  resolved := Array.replicate 59 none
  statics := none }

def pool2 : Array CpInfo := pool [(1, .class_ 2), (0, u "java/lang/constant/Constable"), (0, .class_ 4), (0, u "java/lang/Object")] 6

/-- java/lang/constant/Constable -/
def k2 : Class := { plain "java/lang/constant/Constable" (some 0) with
  accessFlags := 1537
  interfaces := #[]
  cf := some (fileOf pool2 1 #[] #[] 1537 3 #[] #[])
  fields := #[]
  methods := #[]
  instanceTypes := #[]
  staticTypes := #[]
  resolved := Array.replicate 11 none
  statics := none }

def pool3 : Array CpInfo := pool [(1, .class_ 2), (0, u "java/lang/Comparable"), (0, .class_ 4), (0, u "java/lang/Object")] 7

/-- java/lang/Comparable -/
def k3 : Class := { plain "java/lang/Comparable" (some 0) with
  accessFlags := 1537
  interfaces := #[]
  cf := some (fileOf pool3 1 #[] #[] 1537 3 #[] #[])
  fields := #[]
  methods := #[]
  instanceTypes := #[]
  staticTypes := #[]
  resolved := Array.replicate 12 none
  statics := none }

def pool4 : Array CpInfo := pool [(1, .class_ 2), (0, u "java/io/Serializable"), (0, .class_ 4), (0, u "java/lang/Object")] 2

/-- java/io/Serializable -/
def k4 : Class := { plain "java/io/Serializable" (some 0) with
  accessFlags := 1537
  interfaces := #[]
  cf := some (fileOf pool4 1 #[] #[] 1537 3 #[] #[])
  fields := #[]
  methods := #[]
  instanceTypes := #[]
  staticTypes := #[]
  resolved := Array.replicate 7 none
  statics := none }

def pool5 : Array CpInfo := pool [(2, .class_ 4), (1, u "java/lang/Enum"), (0, u "name"), (0, u "Ljava/lang/String;"), (0, .fieldref 2 8), (0, .nameAndType 9 10), (0, u "ordinal"), (0, u "I"), (1, .class_ 14), (1, u "java/lang/Object"), (4, u "hash"), (86, .class_ 108), (1, u "java/lang/Enum$EnumDesc"), (2, .class_ 112), (0, u "java/lang/constant/Constable"), (0, .class_ 114), (0, u "java/lang/Comparable"), (0, .class_ 116), (0, u "java/io/Serializable"), (9, u "()I")] 77

def k5c0 : Code := { maxStack := 1, maxLocals := 1, code := jdk_37_method_2_code, exceptionTable := #[], attributes := #[] }
def k5m0 : Method := { name := "ordinal", desc := "()I", sig := { parameters := [], returnType := some .int }, accessFlags := 17, code := some k5c0 }
/-- java/lang/Enum -/
def k5 : Class := { plain "java/lang/Enum" (some 0) with
  accessFlags := 1057
  interfaces := #[2, 3, 4]
  cf := some (fileOf pool5 2 #[.nestMembers #[106]] #[{ accessFlags := 17, nameIndex := 9, descriptorIndex := 126, attributes := #[] }] 1057 12 #[111, 113, 115] #[{ accessFlags := 18, nameIndex := 5, descriptorIndex := 6, attributes := #[] }, { accessFlags := 18, nameIndex := 9, descriptorIndex := 10, attributes := #[] }, { accessFlags := 2, nameIndex := 19, descriptorIndex := 10, attributes := #[] }])
  fields := #[{ name := "name", type := (.object "java/lang/String"), accessFlags := 18, slot := 0, constantValue := 0 }, { name := "ordinal", type := .int, accessFlags := 18, slot := 1, constantValue := 0 }, { name := "hash", type := .int, accessFlags := 2, slot := 2, constantValue := 0 }]
  methods := #[k5m0]
  instanceTypes := #[(.object "java/lang/String"), .int, .int]
  staticTypes := #[]
  resolved := Array.replicate 204 none
  statics := none }

def pool6 : Array CpInfo := pool [(1, .class_ 2), (0, u "com/example/corridor/corridor/iso20022/MarkupScanner$Encoding"), (2, u "BYTES"), (0, u "Lcom/example/corridor/corridor/iso20022/MarkupScanner$Encoding;"), (2, u "UTF_8"), (2, u "UTF_16"), (2, u "$VALUES"), (0, u "[Lcom/example/corridor/corridor/iso20022/MarkupScanner$Encoding;"), (6, .class_ 25), (1, u "java/lang/Enum"), (8, u "width"), (0, u "I"), (23, u "begins"), (0, u "(C)Z"), (6, .class_ 68), (0, u "com/example/corridor/corridor/iso20022/MarkupScanner")] 3

def k6c0 : Code := { maxStack := 1, maxLocals := 2, code := prog_35_method_4_code, exceptionTable := #[], attributes := #[] }
def k6m0 : Method := { name := "begins", desc := "(C)Z", sig := { parameters := [.char], returnType := some .boolean }, accessFlags := 0, code := some k6c0 }
/-- com/example/corridor/corridor/iso20022/MarkupScanner$Encoding -/
def k6 : Class := { plain "com/example/corridor/corridor/iso20022/MarkupScanner$Encoding" (some 5) with
  accessFlags := 16416
  interfaces := #[]
  cf := some (fileOf pool6 1 #[.nestHost 67] #[{ accessFlags := 0, nameIndex := 59, descriptorIndex := 60, attributes := #[] }] 16416 23 #[] #[{ accessFlags := 16409, nameIndex := 5, descriptorIndex := 6, attributes := #[] }, { accessFlags := 16409, nameIndex := 9, descriptorIndex := 6, attributes := #[] }, { accessFlags := 16409, nameIndex := 12, descriptorIndex := 6, attributes := #[] }, { accessFlags := 16, nameIndex := 34, descriptorIndex := 35, attributes := #[] }, { accessFlags := 4122, nameIndex := 15, descriptorIndex := 16, attributes := #[] }])
  fields := #[{ name := "BYTES", type := (.object "com/example/corridor/corridor/iso20022/MarkupScanner$Encoding"), accessFlags := 16409, slot := 0, constantValue := 0 }, { name := "UTF_8", type := (.object "com/example/corridor/corridor/iso20022/MarkupScanner$Encoding"), accessFlags := 16409, slot := 1, constantValue := 0 }, { name := "UTF_16", type := (.object "com/example/corridor/corridor/iso20022/MarkupScanner$Encoding"), accessFlags := 16409, slot := 2, constantValue := 0 }, { name := "width", type := .int, accessFlags := 16, slot := 3, constantValue := 0 }, { name := "$VALUES", type := (.array (.object "com/example/corridor/corridor/iso20022/MarkupScanner$Encoding")), accessFlags := 4122, slot := 3, constantValue := 0 }]
  methods := #[k6m0]
  instanceTypes := #[(.object "java/lang/String"), .int, .int, .int]
  staticTypes := #[(.object "com/example/corridor/corridor/iso20022/MarkupScanner$Encoding"), (.object "com/example/corridor/corridor/iso20022/MarkupScanner$Encoding"), (.object "com/example/corridor/corridor/iso20022/MarkupScanner$Encoding"), (.array (.object "com/example/corridor/corridor/iso20022/MarkupScanner$Encoding"))]
  resolved := Array.replicate 72 none
  statics := some 0 }

def pool7 : Array CpInfo := pool [(1, .methodref 2 3), (0, .class_ 4), (0, .nameAndType 5 6), (0, u "java/lang/Object"), (0, u "<init>"), (0, u "()V"), (0, .fieldref 8 9), (0, .class_ 10), (0, .nameAndType 11 12), (0, u "com/example/corridor/corridor/iso20022/MarkupScanner$State"), (0, u "TEXT"), (0, u "Lcom/example/corridor/corridor/iso20022/MarkupScanner$State;"), (0, .fieldref 14 15), (0, .class_ 16), (0, .nameAndType 17 12), (0, u "com/example/corridor/corridor/iso20022/MarkupScanner"), (0, u "state"), (0, .fieldref 14 19), (0, .nameAndType 20 21), (0, u "textBegins"), (0, u "Z"), (0, .fieldref 14 23), (0, .nameAndType 24 25), (0, u "pieceIndex"), (0, u "I"), (0, .fieldref 14 27), (0, .nameAndType 28 29), (0, u "pieceLine"), (0, u "J"), (0, .fieldref 14 31), (0, .nameAndType 32 29), (0, u "line"), (7, .fieldref 14 41), (0, .nameAndType 42 43), (0, u "units"), (0, u "[C"), (0, .fieldref 14 45), (0, .nameAndType 46 25), (0, u "from"), (0, .fieldref 14 48), (0, .nameAndType 49 29), (0, u "offset"), (0, .fieldref 14 51), (0, .nameAndType 52 29), (0, u "fromOffset"), (0, .fieldref 14 54), (0, .nameAndType 55 56), (0, u "encoding"), (0, u "Lcom/example/corridor/corridor/iso20022/MarkupScanner$Encoding;"), (0, .fieldref 58 59), (0, .class_ 60), (0, .nameAndType 61 25), (0, u "com/example/corridor/corridor/iso20022/MarkupScanner$Encoding"), (0, u "width"), (0, .fieldref 14 59), (0, .methodref 14 64), (0, .nameAndType 65 66), (0, u "inName"), (0, u "()Z"), (0, .fieldref 14 68), (0, .nameAndType 69 25), (0, u "nameIndex"), (0, .fieldref 14 71), (0, .nameAndType 72 21), (0, u "cutReady"), (0, .methodref 8 74), (0, .nameAndType 75 76), (0, u "ordinal"), (0, u "()I"), (0, .methodref 14 78), (0, .nameAndType 79 80), (0, u "content"), (0, u "(II)I"), (0, .methodref 14 82), (0, .nameAndType 83 80), (0, u "cdata"), (0, .methodref 14 85), (0, .nameAndType 86 87), (0, u "other"), (0, u "(I)I"), (0, .fieldref 14 89), (0, .nameAndType 90 91), (0, u "previous"), (0, u "C"), (0, .methodref 14 93), (0, .nameAndType 94 95), (0, u "offsetAt"), (0, u "(I)J"), (0, .fieldref 14 97), (0, .nameAndType 98 29), (0, u "pieceOffset"), (0, .fieldref 14 100), (0, .nameAndType 101 25), (0, u "nameContinued"), (3, .fieldref 14 106), (0, .nameAndType 107 21), (0, u "limited"), (0, .long 1048576), (5, .fieldref 14 115), (0, .nameAndType 116 29), (0, u "cdataOffset"), (0, .methodref 14 118), (0, .nameAndType 119 120), (0, u "previousUnit"), (0, u "(I)C"), (0, .methodref 14 122), (0, .nameAndType 123 124), (0, u "endsLine"), (0, u "(CC)Z"), (7, .fieldref 14 133), (0, .nameAndType 134 25), (0, u "depth"), (0, .methodref 14 136), (0, .nameAndType 137 138), (0, u "begin"), (0, u "(IZ)V"), (0, .methodref 14 140), (0, .nameAndType 141 142), (0, u "lineEnd"), (0, u "(CI)V"), (0, .fieldref 8 144), (0, .nameAndType 145 12), (0, u "OPEN"), (0, .fieldref 8 147), (0, .nameAndType 148 12), (0, u "BANG"), (0, .fieldref 14 150), (0, .nameAndType 151 25), (0, u "marks"), (0, .fieldref 8 153), (0, .nameAndType 154 12), (0, u "PROCESSING_INSTRUCTION"), (4, .fieldref 14 160), (0, .nameAndType 161 21), (0, u "inTarget"), (0, .fieldref 14 163), (0, .nameAndType 164 91), (0, u "quote"), (0, .fieldref 8 166), (0, .nameAndType 167 12), (0, u "TAG"), (24, .methodref 58 193), (0, .nameAndType 194 195), (0, u "begins"), (0, u "(C)Z"), (0, .long 8192), (1, .methodref 14 199), (0, .nameAndType 200 201), (0, u "closes"), (0, u "(CCI)Z"), (3, .fieldref 14 206), (0, .nameAndType 207 25), (0, u "opened"), (0, .fieldref 8 209), (0, .nameAndType 210 12), (0, u "CDATA_OPEN"), (7, .string 219), (0, u "CDATA["), (0, .methodref 221 222), (0, .class_ 223), (0, .nameAndType 224 120), (0, u "java/lang/String"), (0, u "charAt"), (0, .methodref 221 226), (0, .nameAndType 227 76), (0, u "length"), (0, .fieldref 8 229), (0, .nameAndType 230 12), (0, u "CDATA"), (15, u "brackets"), (3, u "MAX_MARKUP"), (2, u "MAX_NAME"), (1, u "CUT"), (1, u "MAX_UNITS"), (0, u "CDATA_OPENING"), (0, u "Ljava/lang/String;"), (2, u "scan"), (0, u "([CIILcom/example/corridor/corridor/iso20022/MarkupScanner$Encoding;)I"), (2, u "cut"), (0, u "()J"), (4, .class_ 273), (0, u "com/example/corridor/corridor/iso20022/MarkupScanner$Encoding$2"), (0, .class_ 275), (0, u "com/example/corridor/corridor/iso20022/MarkupScanner$Encoding$1")] 17

def k7c0 : Code := { maxStack := 3, maxLocals := 1, code := prog_34_method_1_code, exceptionTable := #[], attributes := #[] }
def k7m0 : Method := { name := "<init>", desc := "()V", sig := { parameters := [], returnType := none }, accessFlags := 0, code := some k7c0 }
def k7c1 : Code := { maxStack := 4, maxLocals := 6, code := prog_34_method_2_code, exceptionTable := #[], attributes := #[] }
def k7m1 : Method := { name := "scan", desc := "([CIILcom/example/corridor/corridor/iso20022/MarkupScanner$Encoding;)I", sig := { parameters := [(.array .char), .int, .int, (.object "com/example/corridor/corridor/iso20022/MarkupScanner$Encoding")], returnType := some .int }, accessFlags := 0, code := some k7c1 }
def k7c2 : Code := { maxStack := 1, maxLocals := 1, code := prog_34_method_3_code, exceptionTable := #[], attributes := #[] }
def k7m2 : Method := { name := "cutReady", desc := "()Z", sig := { parameters := [], returnType := some .boolean }, accessFlags := 0, code := some k7c2 }
def k7c3 : Code := { maxStack := 3, maxLocals := 1, code := prog_34_method_4_code, exceptionTable := #[], attributes := #[] }
def k7m3 : Method := { name := "cut", desc := "()V", sig := { parameters := [], returnType := none }, accessFlags := 0, code := some k7c3 }
def k7c4 : Code := { maxStack := 2, maxLocals := 1, code := prog_34_method_5_code, exceptionTable := #[], attributes := #[] }
def k7m4 : Method := { name := "pieceOffset", desc := "()J", sig := { parameters := [], returnType := some .long }, accessFlags := 0, code := some k7c4 }
def k7c5 : Code := { maxStack := 2, maxLocals := 1, code := prog_34_method_6_code, exceptionTable := #[], attributes := #[] }
def k7m5 : Method := { name := "line", desc := "()J", sig := { parameters := [], returnType := some .long }, accessFlags := 0, code := some k7c5 }
def k7c6 : Code := { maxStack := 6, maxLocals := 2, code := prog_34_method_7_code, exceptionTable := #[], attributes := #[] }
def k7m6 : Method := { name := "offsetAt", desc := "(I)J", sig := { parameters := [.int], returnType := some .long }, accessFlags := 2, code := some k7c6 }
def k7c7 : Code := { maxStack := 3, maxLocals := 2, code := prog_34_method_8_code, exceptionTable := #[], attributes := #[] }
def k7m7 : Method := { name := "previousUnit", desc := "(I)C", sig := { parameters := [.int], returnType := some .char }, accessFlags := 2, code := some k7c7 }
def k7c8 : Code := { maxStack := 2, maxLocals := 2, code := prog_34_method_9_code, exceptionTable := #[], attributes := #[] }
def k7m8 : Method := { name := "endsLine", desc := "(CC)Z", sig := { parameters := [.char, .char], returnType := some .boolean }, accessFlags := 8, code := some k7c8 }
def k7c9 : Code := { maxStack := 5, maxLocals := 3, code := prog_34_method_10_code, exceptionTable := #[], attributes := #[] }
def k7m9 : Method := { name := "lineEnd", desc := "(CI)V", sig := { parameters := [.char, .int], returnType := none }, accessFlags := 2, code := some k7c9 }
def k7c10 : Code := { maxStack := 4, maxLocals := 3, code := prog_34_method_11_code, exceptionTable := #[], attributes := #[] }
def k7m10 : Method := { name := "begin", desc := "(IZ)V", sig := { parameters := [.int, .boolean], returnType := none }, accessFlags := 2, code := some k7c10 }
def k7c11 : Code := { maxStack := 4, maxLocals := 6, code := prog_34_method_14_code, exceptionTable := #[], attributes := #[] }
def k7m11 : Method := { name := "content", desc := "(II)I", sig := { parameters := [.int, .int], returnType := some .int }, accessFlags := 2, code := some k7c11 }
def k7c12 : Code := { maxStack := 2, maxLocals := 1, code := prog_34_method_21_code, exceptionTable := #[], attributes := #[] }
def k7m12 : Method := { name := "inName", desc := "()Z", sig := { parameters := [], returnType := some .boolean }, accessFlags := 2, code := some k7c12 }
def k7c13 : Code := { maxStack := 4, maxLocals := 5, code := prog_34_method_23_code, exceptionTable := #[], attributes := #[] }
def k7m13 : Method := { name := "cdata", desc := "(II)I", sig := { parameters := [.int, .int], returnType := some .int }, accessFlags := 2, code := some k7c13 }
def k7c14 : Code := { maxStack := 4, maxLocals := 3, code := prog_34_method_24_code, exceptionTable := #[], attributes := #[] }
def k7m14 : Method := { name := "other", desc := "(I)I", sig := { parameters := [.int], returnType := some .int }, accessFlags := 2, code := some k7c14 }
def k7c15 : Code := { maxStack := 3, maxLocals := 5, code := prog_34_method_25_code, exceptionTable := #[], attributes := #[] }
def k7m15 : Method := { name := "closes", desc := "(CCI)Z", sig := { parameters := [.char, .char, .int], returnType := some .boolean }, accessFlags := 2, code := some k7c15 }
/-- com/example/corridor/corridor/iso20022/MarkupScanner -/
def k7 : Class := { plain "com/example/corridor/corridor/iso20022/MarkupScanner" (some 0) with
  accessFlags := 48
  interfaces := #[]
  cf := some (fileOf pool7 14 #[.nestMembers #[8, 58, 272, 274]] #[{ accessFlags := 0, nameIndex := 5, descriptorIndex := 6, attributes := #[] }, { accessFlags := 0, nameIndex := 262, descriptorIndex := 263, attributes := #[] }, { accessFlags := 0, nameIndex := 72, descriptorIndex := 66, attributes := #[] }, { accessFlags := 0, nameIndex := 266, descriptorIndex := 6, attributes := #[] }, { accessFlags := 0, nameIndex := 98, descriptorIndex := 267, attributes := #[] }, { accessFlags := 0, nameIndex := 32, descriptorIndex := 267, attributes := #[] }, { accessFlags := 2, nameIndex := 94, descriptorIndex := 95, attributes := #[] }, { accessFlags := 2, nameIndex := 119, descriptorIndex := 120, attributes := #[] }, { accessFlags := 8, nameIndex := 123, descriptorIndex := 124, attributes := #[] }, { accessFlags := 2, nameIndex := 141, descriptorIndex := 142, attributes := #[] }, { accessFlags := 2, nameIndex := 137, descriptorIndex := 138, attributes := #[] }, { accessFlags := 2, nameIndex := 79, descriptorIndex := 80, attributes := #[] }, { accessFlags := 2, nameIndex := 65, descriptorIndex := 66, attributes := #[] }, { accessFlags := 2, nameIndex := 83, descriptorIndex := 80, attributes := #[] }, { accessFlags := 2, nameIndex := 86, descriptorIndex := 87, attributes := #[] }, { accessFlags := 2, nameIndex := 200, descriptorIndex := 201, attributes := #[] }] 48 2 #[] #[{ accessFlags := 24, nameIndex := 250, descriptorIndex := 25, attributes := #[] }, { accessFlags := 24, nameIndex := 253, descriptorIndex := 25, attributes := #[] }, { accessFlags := 24, nameIndex := 255, descriptorIndex := 25, attributes := #[] }, { accessFlags := 24, nameIndex := 257, descriptorIndex := 25, attributes := #[] }, { accessFlags := 26, nameIndex := 258, descriptorIndex := 259, attributes := #[] }, { accessFlags := 2, nameIndex := 17, descriptorIndex := 12, attributes := #[] }, { accessFlags := 2, nameIndex := 20, descriptorIndex := 21, attributes := #[] }, { accessFlags := 2, nameIndex := 134, descriptorIndex := 25, attributes := #[] }, { accessFlags := 2, nameIndex := 164, descriptorIndex := 91, attributes := #[] }, { accessFlags := 2, nameIndex := 151, descriptorIndex := 25, attributes := #[] }, { accessFlags := 2, nameIndex := 207, descriptorIndex := 25, attributes := #[] }, { accessFlags := 2, nameIndex := 246, descriptorIndex := 25, attributes := #[] }, { accessFlags := 2, nameIndex := 107, descriptorIndex := 21, attributes := #[] }, { accessFlags := 2, nameIndex := 24, descriptorIndex := 25, attributes := #[] }, { accessFlags := 2, nameIndex := 98, descriptorIndex := 29, attributes := #[] }, { accessFlags := 2, nameIndex := 28, descriptorIndex := 29, attributes := #[] }, { accessFlags := 2, nameIndex := 69, descriptorIndex := 25, attributes := #[] }, { accessFlags := 2, nameIndex := 101, descriptorIndex := 25, attributes := #[] }, { accessFlags := 2, nameIndex := 161, descriptorIndex := 21, attributes := #[] }, { accessFlags := 2, nameIndex := 116, descriptorIndex := 29, attributes := #[] }, { accessFlags := 2, nameIndex := 72, descriptorIndex := 21, attributes := #[] }, { accessFlags := 2, nameIndex := 32, descriptorIndex := 29, attributes := #[] }, { accessFlags := 2, nameIndex := 49, descriptorIndex := 29, attributes := #[] }, { accessFlags := 2, nameIndex := 90, descriptorIndex := 91, attributes := #[] }, { accessFlags := 2, nameIndex := 42, descriptorIndex := 43, attributes := #[] }, { accessFlags := 2, nameIndex := 46, descriptorIndex := 25, attributes := #[] }, { accessFlags := 2, nameIndex := 52, descriptorIndex := 29, attributes := #[] }, { accessFlags := 2, nameIndex := 55, descriptorIndex := 56, attributes := #[] }, { accessFlags := 2, nameIndex := 61, descriptorIndex := 25, attributes := #[] }])
  fields := #[{ name := "MAX_MARKUP", type := .int, accessFlags := 24, slot := 0, constantValue := 0 }, { name := "MAX_NAME", type := .int, accessFlags := 24, slot := 1, constantValue := 0 }, { name := "CUT", type := .int, accessFlags := 24, slot := 2, constantValue := 0 }, { name := "MAX_UNITS", type := .int, accessFlags := 24, slot := 3, constantValue := 0 }, { name := "CDATA_OPENING", type := (.object "java/lang/String"), accessFlags := 26, slot := 4, constantValue := 0 }, { name := "state", type := (.object "com/example/corridor/corridor/iso20022/MarkupScanner$State"), accessFlags := 2, slot := 0, constantValue := 0 }, { name := "textBegins", type := .boolean, accessFlags := 2, slot := 1, constantValue := 0 }, { name := "depth", type := .int, accessFlags := 2, slot := 2, constantValue := 0 }, { name := "quote", type := .char, accessFlags := 2, slot := 3, constantValue := 0 }, { name := "marks", type := .int, accessFlags := 2, slot := 4, constantValue := 0 }, { name := "opened", type := .int, accessFlags := 2, slot := 5, constantValue := 0 }, { name := "brackets", type := .int, accessFlags := 2, slot := 6, constantValue := 0 }, { name := "limited", type := .boolean, accessFlags := 2, slot := 7, constantValue := 0 }, { name := "pieceIndex", type := .int, accessFlags := 2, slot := 8, constantValue := 0 }, { name := "pieceOffset", type := .long, accessFlags := 2, slot := 9, constantValue := 0 }, { name := "pieceLine", type := .long, accessFlags := 2, slot := 10, constantValue := 0 }, { name := "nameIndex", type := .int, accessFlags := 2, slot := 11, constantValue := 0 }, { name := "nameContinued", type := .int, accessFlags := 2, slot := 12, constantValue := 0 }, { name := "inTarget", type := .boolean, accessFlags := 2, slot := 13, constantValue := 0 }, { name := "cdataOffset", type := .long, accessFlags := 2, slot := 14, constantValue := 0 }, { name := "cutReady", type := .boolean, accessFlags := 2, slot := 15, constantValue := 0 }, { name := "line", type := .long, accessFlags := 2, slot := 16, constantValue := 0 }, { name := "offset", type := .long, accessFlags := 2, slot := 17, constantValue := 0 }, { name := "previous", type := .char, accessFlags := 2, slot := 18, constantValue := 0 }, { name := "units", type := (.array .char), accessFlags := 2, slot := 19, constantValue := 0 }, { name := "from", type := .int, accessFlags := 2, slot := 20, constantValue := 0 }, { name := "fromOffset", type := .long, accessFlags := 2, slot := 21, constantValue := 0 }, { name := "encoding", type := (.object "com/example/corridor/corridor/iso20022/MarkupScanner$Encoding"), accessFlags := 2, slot := 22, constantValue := 0 }, { name := "width", type := .int, accessFlags := 2, slot := 23, constantValue := 0 }]
  methods := #[k7m0, k7m1, k7m2, k7m3, k7m4, k7m5, k7m6, k7m7, k7m8, k7m9, k7m10, k7m11, k7m12, k7m13, k7m14, k7m15]
  instanceTypes := #[(.object "com/example/corridor/corridor/iso20022/MarkupScanner$State"), .boolean, .int, .char, .int, .int, .int, .boolean, .int, .long, .long, .int, .int, .boolean, .long, .boolean, .long, .long, .char, (.array .char), .int, .long, (.object "com/example/corridor/corridor/iso20022/MarkupScanner$Encoding"), .int]
  staticTypes := #[.int, .int, .int, .int, (.object "java/lang/String")]
  resolved := Array.replicate 293 none
  statics := none }

def pool8 : Array CpInfo := pool [(1, .class_ 2), (0, u "com/example/corridor/corridor/iso20022/MarkupScanner$State"), (2, u "TEXT"), (0, u "Lcom/example/corridor/corridor/iso20022/MarkupScanner$State;"), (2, u "OPEN"), (2, u "TAG"), (2, u "BANG"), (2, u "BANG_DASH"), (2, u "CDATA_OPEN"), (2, u "COMMENT"), (2, u "PROCESSING_INSTRUCTION"), (2, u "DECLARATION"), (2, u "CDATA"), (2, u "$VALUES"), (0, u "[Lcom/example/corridor/corridor/iso20022/MarkupScanner$State;"), (6, .class_ 46), (1, u "java/lang/Enum"), (33, .class_ 81), (0, u "com/example/corridor/corridor/iso20022/MarkupScanner")] 2

/-- com/example/corridor/corridor/iso20022/MarkupScanner$State -/
def k8 : Class := { plain "com/example/corridor/corridor/iso20022/MarkupScanner$State" (some 5) with
  accessFlags := 16432
  interfaces := #[]
  cf := some (fileOf pool8 1 #[.nestHost 80] #[] 16432 44 #[] #[{ accessFlags := 16409, nameIndex := 5, descriptorIndex := 6, attributes := #[] }, { accessFlags := 16409, nameIndex := 9, descriptorIndex := 6, attributes := #[] }, { accessFlags := 16409, nameIndex := 12, descriptorIndex := 6, attributes := #[] }, { accessFlags := 16409, nameIndex := 15, descriptorIndex := 6, attributes := #[] }, { accessFlags := 16409, nameIndex := 18, descriptorIndex := 6, attributes := #[] }, { accessFlags := 16409, nameIndex := 21, descriptorIndex := 6, attributes := #[] }, { accessFlags := 16409, nameIndex := 24, descriptorIndex := 6, attributes := #[] }, { accessFlags := 16409, nameIndex := 27, descriptorIndex := 6, attributes := #[] }, { accessFlags := 16409, nameIndex := 30, descriptorIndex := 6, attributes := #[] }, { accessFlags := 16409, nameIndex := 33, descriptorIndex := 6, attributes := #[] }, { accessFlags := 4122, nameIndex := 36, descriptorIndex := 37, attributes := #[] }])
  fields := #[{ name := "TEXT", type := (.object "com/example/corridor/corridor/iso20022/MarkupScanner$State"), accessFlags := 16409, slot := 0, constantValue := 0 }, { name := "OPEN", type := (.object "com/example/corridor/corridor/iso20022/MarkupScanner$State"), accessFlags := 16409, slot := 1, constantValue := 0 }, { name := "TAG", type := (.object "com/example/corridor/corridor/iso20022/MarkupScanner$State"), accessFlags := 16409, slot := 2, constantValue := 0 }, { name := "BANG", type := (.object "com/example/corridor/corridor/iso20022/MarkupScanner$State"), accessFlags := 16409, slot := 3, constantValue := 0 }, { name := "BANG_DASH", type := (.object "com/example/corridor/corridor/iso20022/MarkupScanner$State"), accessFlags := 16409, slot := 4, constantValue := 0 }, { name := "CDATA_OPEN", type := (.object "com/example/corridor/corridor/iso20022/MarkupScanner$State"), accessFlags := 16409, slot := 5, constantValue := 0 }, { name := "COMMENT", type := (.object "com/example/corridor/corridor/iso20022/MarkupScanner$State"), accessFlags := 16409, slot := 6, constantValue := 0 }, { name := "PROCESSING_INSTRUCTION", type := (.object "com/example/corridor/corridor/iso20022/MarkupScanner$State"), accessFlags := 16409, slot := 7, constantValue := 0 }, { name := "DECLARATION", type := (.object "com/example/corridor/corridor/iso20022/MarkupScanner$State"), accessFlags := 16409, slot := 8, constantValue := 0 }, { name := "CDATA", type := (.object "com/example/corridor/corridor/iso20022/MarkupScanner$State"), accessFlags := 16409, slot := 9, constantValue := 0 }, { name := "$VALUES", type := (.array (.object "com/example/corridor/corridor/iso20022/MarkupScanner$State")), accessFlags := 4122, slot := 10, constantValue := 0 }]
  methods := #[]
  instanceTypes := #[(.object "java/lang/String"), .int, .int]
  staticTypes := #[(.object "com/example/corridor/corridor/iso20022/MarkupScanner$State"), (.object "com/example/corridor/corridor/iso20022/MarkupScanner$State"), (.object "com/example/corridor/corridor/iso20022/MarkupScanner$State"), (.object "com/example/corridor/corridor/iso20022/MarkupScanner$State"), (.object "com/example/corridor/corridor/iso20022/MarkupScanner$State"), (.object "com/example/corridor/corridor/iso20022/MarkupScanner$State"), (.object "com/example/corridor/corridor/iso20022/MarkupScanner$State"), (.object "com/example/corridor/corridor/iso20022/MarkupScanner$State"), (.object "com/example/corridor/corridor/iso20022/MarkupScanner$State"), (.object "com/example/corridor/corridor/iso20022/MarkupScanner$State"), (.array (.object "com/example/corridor/corridor/iso20022/MarkupScanner$State"))]
  resolved := Array.replicate 84 none
  statics := some 1 }

def pool9 : Array CpInfo := pool [(2, .class_ 4), (1, u "java/lang/CharSequence"), (42, .class_ 48), (0, u "java/lang/CharSequence$1CodePointIterator"), (10, .class_ 60), (0, u "java/lang/CharSequence$1CharIterator"), (5, .class_ 67), (0, u "java/lang/Object")] 63

/-- java/lang/CharSequence -/
def k9 : Class := { plain "java/lang/CharSequence" (some 0) with
  accessFlags := 1537
  interfaces := #[]
  cf := some (fileOf pool9 2 #[.nestMembers #[47, 59]] #[] 1537 66 #[] #[])
  fields := #[]
  methods := #[]
  instanceTypes := #[]
  staticTypes := #[]
  resolved := Array.replicate 131 none
  statics := none }

def pool10 : Array CpInfo := pool [(1, .class_ 2), (0, u "java/lang/constant/ConstantDesc"), (0, .class_ 4), (0, u "java/lang/Object")] 32

/-- java/lang/constant/ConstantDesc -/
def k10 : Class := { plain "java/lang/constant/ConstantDesc" (some 0) with
  accessFlags := 1537
  interfaces := #[]
  cf := some (fileOf pool10 1 #[] #[] 1537 3 #[] #[])
  fields := #[]
  methods := #[]
  instanceTypes := #[]
  staticTypes := #[]
  resolved := Array.replicate 37 none
  statics := none }

def pool11 : Array CpInfo := pool [(2, .class_ 4), (1, u "java/lang/Object"), (0, u "<init>"), (0, u "()V"), (2, .fieldref 10 11), (0, .class_ 12), (0, .nameAndType 13 14), (0, u "java/lang/String"), (0, u "value"), (0, u "[B"), (0, .fieldref 10 16), (0, .nameAndType 17 18), (0, u "coder"), (0, u "B"), (2, u "hash"), (0, u "I"), (2, u "hashIsZero"), (0, u "Z"), (11, .fieldref 10 39), (0, .nameAndType 40 26), (0, u "COMPACT_STRINGS"), (66, .class_ 109), (1, u "java/lang/StringLatin1"), (32, u "()Z"), (191, u "()I"), (0, .methodref 10 336), (0, .nameAndType 17 337), (0, u "()B"), (25, u "([BI)C"), (27, u "(II)V"), (35, u "(I)C"), (64, .methodref 10 493), (0, .nameAndType 494 142), (0, u "isLatin1"), (0, .methodref 107 496), (0, .nameAndType 497 363), (0, u "charAt"), (3, u "checkIndex"), (5, u "length"), (67, .class_ 576), (0, u "java/lang/CharSequence"), (22, u "CASE_INSENSITIVE_ORDER"), (0, u "Ljava/util/Comparator;"), (452, .fieldref 1054 1055), (0, .class_ 1056), (0, .nameAndType 1057 1058), (0, u "jdk/internal/util/Preconditions"), (0, u "SIOOBE_FORMATTER"), (0, u "Ljava/util/function/BiFunction;"), (0, .methodref 1054 1060), (0, .nameAndType 501 1061), (0, u "(IILjava/util/function/BiFunction;)I"), (39, u "serialPersistentFields"), (0, u "[Ljava/io/ObjectStreamField;"), (0, .class_ 1104), (0, u "java/lang/String$CaseInsensitiveComparator"), (1, .class_ 1107), (0, u "java/io/Serializable"), (0, .class_ 1109), (0, u "java/lang/Comparable"), (0, .class_ 1111), (0, u "java/lang/constant/Constable"), (0, .class_ 1113), (0, u "java/lang/constant/ConstantDesc"), (2, u "serialVersionUID"), (0, u "J"), (3, u "REPL"), (0, u "C"), (2, u "LATIN1"), (1, u "UTF16")] 323

def k11m0 : Method := { name := "<init>", desc := "()V", sig := { parameters := [], returnType := none }, accessFlags := 1, code := none }
def k11c1 : Code := { maxStack := 2, maxLocals := 1, code := jdk_42_method_54_code, exceptionTable := #[], attributes := #[] }
def k11m1 : Method := { name := "length", desc := "()I", sig := { parameters := [], returnType := some .int }, accessFlags := 1, code := some k11c1 }
def k11c2 : Code := { maxStack := 2, maxLocals := 2, code := jdk_42_method_56_code, exceptionTable := #[], attributes := #[] }
def k11m2 : Method := { name := "charAt", desc := "(I)C", sig := { parameters := [.int], returnType := some .char }, accessFlags := 1, code := some k11c2 }
def k11c3 : Code := { maxStack := 1, maxLocals := 1, code := jdk_42_method_152_code, exceptionTable := #[], attributes := #[] }
def k11m3 : Method := { name := "coder", desc := "()B", sig := { parameters := [], returnType := some .byte }, accessFlags := 0, code := some k11c3 }
def k11c4 : Code := { maxStack := 1, maxLocals := 1, code := jdk_42_method_154_code, exceptionTable := #[], attributes := #[] }
def k11m4 : Method := { name := "isLatin1", desc := "()Z", sig := { parameters := [], returnType := some .boolean }, accessFlags := 0, code := some k11c4 }
def k11c5 : Code := { maxStack := 3, maxLocals := 2, code := jdk_42_method_155_code, exceptionTable := #[], attributes := #[] }
def k11m5 : Method := { name := "checkIndex", desc := "(II)V", sig := { parameters := [.int, .int], returnType := none }, accessFlags := 8, code := some k11c5 }
/-- java/lang/String -/
def k11 : Class := { plain "java/lang/String" (some 0) with
  accessFlags := 49
  interfaces := #[4, 3, 9, 2, 10]
  cf := some (fileOf pool11 10 #[.nestMembers #[1103]] #[{ accessFlags := 1, nameIndex := 5, descriptorIndex := 6, attributes := #[] }, { accessFlags := 1, nameIndex := 507, descriptorIndex := 334, attributes := #[] }, { accessFlags := 1, nameIndex := 497, descriptorIndex := 427, attributes := #[] }, { accessFlags := 0, nameIndex := 17, descriptorIndex := 337, attributes := #[] }, { accessFlags := 0, nameIndex := 494, descriptorIndex := 142, attributes := #[] }, { accessFlags := 8, nameIndex := 501, descriptorIndex := 391, attributes := #[] }] 49 2 #[1106, 1108, 575, 1110, 1112] #[{ accessFlags := 18, nameIndex := 13, descriptorIndex := 14, attributes := #[] }, { accessFlags := 18, nameIndex := 17, descriptorIndex := 18, attributes := #[] }, { accessFlags := 2, nameIndex := 21, descriptorIndex := 22, attributes := #[] }, { accessFlags := 2, nameIndex := 25, descriptorIndex := 26, attributes := #[] }, { accessFlags := 26, nameIndex := 1116, descriptorIndex := 1117, attributes := #[] }, { accessFlags := 24, nameIndex := 40, descriptorIndex := 26, attributes := #[] }, { accessFlags := 26, nameIndex := 1101, descriptorIndex := 1102, attributes := #[] }, { accessFlags := 26, nameIndex := 1121, descriptorIndex := 1122, attributes := #[] }, { accessFlags := 25, nameIndex := 599, descriptorIndex := 600, attributes := #[] }, { accessFlags := 24, nameIndex := 1125, descriptorIndex := 18, attributes := #[] }, { accessFlags := 24, nameIndex := 1127, descriptorIndex := 18, attributes := #[] }])
  fields := #[{ name := "value", type := (.array .byte), accessFlags := 18, slot := 0, constantValue := 0 }, { name := "coder", type := .byte, accessFlags := 18, slot := 1, constantValue := 0 }, { name := "hash", type := .int, accessFlags := 2, slot := 2, constantValue := 0 }, { name := "hashIsZero", type := .boolean, accessFlags := 2, slot := 3, constantValue := 0 }, { name := "serialVersionUID", type := .long, accessFlags := 26, slot := 0, constantValue := 0 }, { name := "COMPACT_STRINGS", type := .boolean, accessFlags := 24, slot := 1, constantValue := 0 }, { name := "serialPersistentFields", type := (.array (.object "java/io/ObjectStreamField")), accessFlags := 26, slot := 2, constantValue := 0 }, { name := "REPL", type := .char, accessFlags := 26, slot := 3, constantValue := 0 }, { name := "CASE_INSENSITIVE_ORDER", type := (.object "java/util/Comparator"), accessFlags := 25, slot := 4, constantValue := 0 }, { name := "LATIN1", type := .byte, accessFlags := 24, slot := 5, constantValue := 0 }, { name := "UTF16", type := .byte, accessFlags := 24, slot := 6, constantValue := 0 }]
  methods := #[k11m0, k11m1, k11m2, k11m3, k11m4, k11m5]
  instanceTypes := #[(.array .byte), .byte, .int, .boolean]
  staticTypes := #[.long, .boolean, (.array (.object "java/io/ObjectStreamField")), .char, (.object "java/util/Comparator"), .byte, .byte]
  resolved := Array.replicate 1451 none
  statics := some 2 }

def pool12 : Array CpInfo := pool [(1, .class_ 2), (0, u "java/lang/String"), (1, .class_ 6), (1, u "java/lang/Object"), (0, u "<init>"), (0, u "()V"), (0, .methodref 1 10), (0, .nameAndType 11 12), (0, u "checkIndex"), (0, u "(II)V"), (1, .class_ 16), (1, u "java/lang/StringLatin1"), (36, u "([BI)C"), (67, u "$assertionsDisabled"), (0, u "Z"), (98, .class_ 223), (1, u "java/lang/StringLatin1$LinesSpliterator"), (28, u "charAt"), (137, .class_ 391), (0, u "java/lang/StringLatin1$CharsSpliterator")] 3

def k12m0 : Method := { name := "<init>", desc := "()V", sig := { parameters := [], returnType := none }, accessFlags := 0, code := none }
def k12c1 : Code := { maxStack := 2, maxLocals := 2, code := jdk_43_method_2_code, exceptionTable := #[], attributes := #[] }
def k12m1 : Method := { name := "charAt", desc := "([BI)C", sig := { parameters := [(.array .byte), .int], returnType := some .char }, accessFlags := 9, code := some k12c1 }
/-- java/lang/StringLatin1 -/
def k12 : Class := { plain "java/lang/StringLatin1" (some 0) with
  accessFlags := 48
  interfaces := #[]
  cf := some (fileOf pool12 14 #[.nestMembers #[390, 221]] #[{ accessFlags := 0, nameIndex := 7, descriptorIndex := 8, attributes := #[] }, { accessFlags := 9, nameIndex := 252, descriptorIndex := 53, attributes := #[] }] 48 4 #[] #[{ accessFlags := 4120, nameIndex := 121, descriptorIndex := 122, attributes := #[] }])
  fields := #[{ name := "$assertionsDisabled", type := .boolean, accessFlags := 4120, slot := 0, constantValue := 0 }]
  methods := #[k12m0, k12m1]
  instanceTypes := #[]
  staticTypes := #[.boolean]
  resolved := Array.replicate 395 none
  statics := none }

def pool13 : Array CpInfo := pool [(2, .class_ 4), (1, u "java/lang/Object"), (0, u "<init>"), (0, u "()V"), (17, .class_ 26), (1, u "jdk/internal/util/Preconditions"), (6, u "checkIndex"), (21, .class_ 56), (0, u "jdk/internal/util/Preconditions$4"), (57, .class_ 115), (0, u "jdk/internal/util/Preconditions$1"), (7, u "SIOOBE_FORMATTER"), (0, u "Ljava/util/function/BiFunction;"), (0, .class_ 126), (0, u "jdk/internal/util/Preconditions$2"), (3, u "AIOOBE_FORMATTER"), (0, .class_ 132), (0, u "jdk/internal/util/Preconditions$3"), (3, u "IOOBE_FORMATTER"), (41, u "(IILjava/util/function/BiFunction;)I")] 15

def k13m0 : Method := { name := "<init>", desc := "()V", sig := { parameters := [], returnType := none }, accessFlags := 1, code := none }
def k13c1 : Code := { maxStack := 3, maxLocals := 3, code := jdk_41_method_11_code, exceptionTable := #[], attributes := #[] }
def k13m1 : Method := { name := "checkIndex", desc := "(IILjava/util/function/BiFunction;)I", sig := { parameters := [.int, .int, (.object "java/util/function/BiFunction")], returnType := some .int }, accessFlags := 9, code := some k13c1 }
/-- jdk/internal/util/Preconditions -/
def k13 : Class := { plain "jdk/internal/util/Preconditions" (some 0) with
  accessFlags := 33
  interfaces := #[]
  cf := some (fileOf pool13 24 #[.nestMembers #[55, 131, 125, 114]] #[{ accessFlags := 1, nameIndex := 5, descriptorIndex := 6, attributes := #[] }, { accessFlags := 9, nameIndex := 33, descriptorIndex := 178, attributes := #[] }] 33 2 #[] #[{ accessFlags := 25, nameIndex := 123, descriptorIndex := 124, attributes := #[] }, { accessFlags := 25, nameIndex := 130, descriptorIndex := 124, attributes := #[] }, { accessFlags := 25, nameIndex := 136, descriptorIndex := 124, attributes := #[] }])
  fields := #[{ name := "SIOOBE_FORMATTER", type := (.object "java/util/function/BiFunction"), accessFlags := 25, slot := 0, constantValue := 0 }, { name := "AIOOBE_FORMATTER", type := (.object "java/util/function/BiFunction"), accessFlags := 25, slot := 1, constantValue := 0 }, { name := "IOOBE_FORMATTER", type := (.object "java/util/function/BiFunction"), accessFlags := 25, slot := 2, constantValue := 0 }]
  methods := #[k13m0, k13m1]
  instanceTypes := #[]
  staticTypes := #[(.object "java/util/function/BiFunction"), (.object "java/util/function/BiFunction"), (.object "java/util/function/BiFunction")]
  resolved := Array.replicate 194 none
  statics := some 3 }

def pool14 : Array CpInfo := pool [(2, .class_ 4), (1, u "com/example/corridor/corridor/iso20022/MarkupScanner$Encoding"), (2, .class_ 8), (0, u "com/example/corridor/corridor/iso20022/MarkupScanner$Encoding$1"), (3, u "begins"), (0, u "(C)Z"), (5, .class_ 20), (0, u "com/example/corridor/corridor/iso20022/MarkupScanner")] 2

def k14c0 : Code := { maxStack := 2, maxLocals := 2, code := prog_36_method_2_code, exceptionTable := #[], attributes := #[] }
def k14m0 : Method := { name := "begins", desc := "(C)Z", sig := { parameters := [.char], returnType := some .boolean }, accessFlags := 0, code := some k14c0 }
/-- com/example/corridor/corridor/iso20022/MarkupScanner$Encoding$1 -/
def k14 : Class := { plain "com/example/corridor/corridor/iso20022/MarkupScanner$Encoding$1" (some 6) with
  accessFlags := 16432
  interfaces := #[]
  cf := some (fileOf pool14 7 #[.nestHost 19] #[{ accessFlags := 0, nameIndex := 12, descriptorIndex := 13, attributes := #[] }] 16432 2 #[] #[])
  fields := #[]
  methods := #[k14m0]
  instanceTypes := #[(.object "java/lang/String"), .int, .int, .int]
  staticTypes := #[]
  resolved := Array.replicate 23 none
  statics := none }

def pool15 : Array CpInfo := pool [(2, .class_ 4), (1, u "com/example/corridor/corridor/iso20022/MarkupScanner$Encoding"), (2, .methodref 8 9), (0, .class_ 10), (0, .nameAndType 11 12), (0, u "java/lang/Character"), (0, u "isLowSurrogate"), (0, u "(C)Z"), (0, .class_ 14), (0, u "com/example/corridor/corridor/iso20022/MarkupScanner$Encoding$2"), (3, u "begins"), (5, .class_ 25), (0, u "com/example/corridor/corridor/iso20022/MarkupScanner")] 2

def k15c0 : Code := { maxStack := 1, maxLocals := 2, code := prog_37_method_2_code, exceptionTable := #[], attributes := #[] }
def k15m0 : Method := { name := "begins", desc := "(C)Z", sig := { parameters := [.char], returnType := some .boolean }, accessFlags := 0, code := some k15c0 }
/-- com/example/corridor/corridor/iso20022/MarkupScanner$Encoding$2 -/
def k15 : Class := { plain "com/example/corridor/corridor/iso20022/MarkupScanner$Encoding$2" (some 6) with
  accessFlags := 16432
  interfaces := #[]
  cf := some (fileOf pool15 13 #[.nestHost 24] #[{ accessFlags := 0, nameIndex := 18, descriptorIndex := 12, attributes := #[] }] 16432 2 #[] #[])
  fields := #[]
  methods := #[k15m0]
  instanceTypes := #[(.object "java/lang/String"), .int, .int, .int]
  staticTypes := #[]
  resolved := Array.replicate 28 none
  statics := none }

def pool16 : Array CpInfo := pool [(1, .class_ 2), (0, u "java/lang/Character"), (18, u "value"), (0, u "C"), (19, .class_ 44), (1, u "java/lang/Object"), (3, .class_ 50), (1, u "java/lang/Character$CharacterCache"), (25, .integer 56320), (4, u "(C)Z"), (2, u "isLowSurrogate"), (199, u "$assertionsDisabled"), (0, u "Z"), (21, .class_ 309), (1, u "java/lang/Character$UnicodeBlock"), (73, u "TYPE"), (0, u "Ljava/lang/Class;"), (0, .class_ 386), (0, u "java/io/Serializable"), (0, .class_ 388), (0, u "java/lang/Comparable"), (0, .class_ 390), (0, u "java/lang/constant/Constable"), (0, u "MIN_RADIX"), (0, u "I"), (2, u "MAX_RADIX"), (1, u "MIN_VALUE"), (1, u "MAX_VALUE"), (3, u "UNASSIGNED"), (0, u "B"), (0, u "UPPERCASE_LETTER"), (1, u "LOWERCASE_LETTER"), (0, u "TITLECASE_LETTER"), (1, u "MODIFIER_LETTER"), (1, u "OTHER_LETTER"), (1, u "NON_SPACING_MARK"), (1, u "ENCLOSING_MARK"), (1, u "COMBINING_SPACING_MARK"), (1, u "DECIMAL_DIGIT_NUMBER"), (1, u "LETTER_NUMBER"), (1, u "OTHER_NUMBER"), (1, u "SPACE_SEPARATOR"), (1, u "LINE_SEPARATOR"), (1, u "PARAGRAPH_SEPARATOR"), (1, u "CONTROL"), (1, u "FORMAT"), (1, u "PRIVATE_USE"), (1, u "SURROGATE"), (1, u "DASH_PUNCTUATION"), (1, u "START_PUNCTUATION"), (1, u "END_PUNCTUATION"), (1, u "CONNECTOR_PUNCTUATION"), (1, u "OTHER_PUNCTUATION"), (1, u "MATH_SYMBOL"), (1, u "CURRENCY_SYMBOL"), (1, u "MODIFIER_SYMBOL"), (1, u "OTHER_SYMBOL"), (1, u "INITIAL_QUOTE_PUNCTUATION"), (1, u "FINAL_QUOTE_PUNCTUATION"), (1, u "ERROR"), (1, u "DIRECTIONALITY_UNDEFINED"), (0, u "DIRECTIONALITY_LEFT_TO_RIGHT"), (0, u "DIRECTIONALITY_RIGHT_TO_LEFT"), (0, u "DIRECTIONALITY_RIGHT_TO_LEFT_ARABIC"), (0, u "DIRECTIONALITY_EUROPEAN_NUMBER"), (0, u "DIRECTIONALITY_EUROPEAN_NUMBER_SEPARATOR"), (0, u "DIRECTIONALITY_EUROPEAN_NUMBER_TERMINATOR"), (0, u "DIRECTIONALITY_ARABIC_NUMBER"), (0, u "DIRECTIONALITY_COMMON_NUMBER_SEPARATOR"), (0, u "DIRECTIONALITY_NONSPACING_MARK"), (0, u "DIRECTIONALITY_BOUNDARY_NEUTRAL"), (0, u "DIRECTIONALITY_PARAGRAPH_SEPARATOR"), (0, u "DIRECTIONALITY_SEGMENT_SEPARATOR"), (0, u "DIRECTIONALITY_WHITESPACE"), (0, u "DIRECTIONALITY_OTHER_NEUTRALS"), (0, u "DIRECTIONALITY_LEFT_TO_RIGHT_EMBEDDING"), (0, u "DIRECTIONALITY_LEFT_TO_RIGHT_OVERRIDE"), (0, u "DIRECTIONALITY_RIGHT_TO_LEFT_EMBEDDING"), (0, u "DIRECTIONALITY_RIGHT_TO_LEFT_OVERRIDE"), (1, u "DIRECTIONALITY_POP_DIRECTIONAL_FORMAT"), (0, u "DIRECTIONALITY_LEFT_TO_RIGHT_ISOLATE"), (0, u "DIRECTIONALITY_RIGHT_TO_LEFT_ISOLATE"), (0, u "DIRECTIONALITY_FIRST_STRONG_ISOLATE"), (0, u "DIRECTIONALITY_POP_DIRECTIONAL_ISOLATE"), (0, u "MIN_HIGH_SURROGATE"), (0, u "MAX_HIGH_SURROGATE"), (1, u "MIN_LOW_SURROGATE"), (0, u "MAX_LOW_SURROGATE"), (1, u "MIN_SURROGATE"), (0, u "MAX_SURROGATE"), (0, u "MIN_SUPPLEMENTARY_CODE_POINT"), (0, u "MIN_CODE_POINT"), (0, u "MAX_CODE_POINT"), (1, u "serialVersionUID"), (0, u "J"), (2, u "SIZE"), (0, u "BYTES"), (88, .class_ 596), (0, u "java/lang/Character$UnicodeScript"), (0, .class_ 598), (0, u "java/lang/Character$Subset")] 5

def k16c0 : Code := { maxStack := 2, maxLocals := 1, code := jdk_89_method_15_code, exceptionTable := #[], attributes := #[] }
def k16m0 : Method := { name := "isLowSurrogate", desc := "(C)Z", sig := { parameters := [.char], returnType := some .boolean }, accessFlags := 9, code := some k16c0 }
/-- java/lang/Character -/
def k16 : Class := { plain "java/lang/Character" (some 0) with
  accessFlags := 49
  interfaces := #[4, 3, 2]
  cf := some (fileOf pool16 1 #[.nestMembers #[48, 595, 307, 597]] #[{ accessFlags := 9, nameIndex := 84, descriptorIndex := 81, attributes := #[] }] 49 42 #[385, 387, 389] #[{ accessFlags := 25, nameIndex := 391, descriptorIndex := 392, attributes := #[] }, { accessFlags := 25, nameIndex := 395, descriptorIndex := 392, attributes := #[] }, { accessFlags := 25, nameIndex := 397, descriptorIndex := 22, attributes := #[] }, { accessFlags := 25, nameIndex := 399, descriptorIndex := 22, attributes := #[] }, { accessFlags := 25, nameIndex := 383, descriptorIndex := 384, attributes := #[] }, { accessFlags := 25, nameIndex := 403, descriptorIndex := 404, attributes := #[] }, { accessFlags := 25, nameIndex := 405, descriptorIndex := 404, attributes := #[] }, { accessFlags := 25, nameIndex := 407, descriptorIndex := 404, attributes := #[] }, { accessFlags := 25, nameIndex := 408, descriptorIndex := 404, attributes := #[] }, { accessFlags := 25, nameIndex := 410, descriptorIndex := 404, attributes := #[] }, { accessFlags := 25, nameIndex := 412, descriptorIndex := 404, attributes := #[] }, { accessFlags := 25, nameIndex := 414, descriptorIndex := 404, attributes := #[] }, { accessFlags := 25, nameIndex := 416, descriptorIndex := 404, attributes := #[] }, { accessFlags := 25, nameIndex := 418, descriptorIndex := 404, attributes := #[] }, { accessFlags := 25, nameIndex := 420, descriptorIndex := 404, attributes := #[] }, { accessFlags := 25, nameIndex := 422, descriptorIndex := 404, attributes := #[] }, { accessFlags := 25, nameIndex := 424, descriptorIndex := 404, attributes := #[] }, { accessFlags := 25, nameIndex := 426, descriptorIndex := 404, attributes := #[] }, { accessFlags := 25, nameIndex := 428, descriptorIndex := 404, attributes := #[] }, { accessFlags := 25, nameIndex := 430, descriptorIndex := 404, attributes := #[] }, { accessFlags := 25, nameIndex := 432, descriptorIndex := 404, attributes := #[] }, { accessFlags := 25, nameIndex := 434, descriptorIndex := 404, attributes := #[] }, { accessFlags := 25, nameIndex := 436, descriptorIndex := 404, attributes := #[] }, { accessFlags := 25, nameIndex := 438, descriptorIndex := 404, attributes := #[] }, { accessFlags := 25, nameIndex := 440, descriptorIndex := 404, attributes := #[] }, { accessFlags := 25, nameIndex := 442, descriptorIndex := 404, attributes := #[] }, { accessFlags := 25, nameIndex := 444, descriptorIndex := 404, attributes := #[] }, { accessFlags := 25, nameIndex := 446, descriptorIndex := 404, attributes := #[] }, { accessFlags := 25, nameIndex := 448, descriptorIndex := 404, attributes := #[] }, { accessFlags := 25, nameIndex := 450, descriptorIndex := 404, attributes := #[] }, { accessFlags := 25, nameIndex := 452, descriptorIndex := 404, attributes := #[] }, { accessFlags := 25, nameIndex := 454, descriptorIndex := 404, attributes := #[] }, { accessFlags := 25, nameIndex := 456, descriptorIndex := 404, attributes := #[] }, { accessFlags := 25, nameIndex := 458, descriptorIndex := 404, attributes := #[] }, { accessFlags := 25, nameIndex := 460, descriptorIndex := 404, attributes := #[] }, { accessFlags := 24, nameIndex := 462, descriptorIndex := 392, attributes := #[] }, { accessFlags := 25, nameIndex := 464, descriptorIndex := 404, attributes := #[] }, { accessFlags := 25, nameIndex := 465, descriptorIndex := 404, attributes := #[] }, { accessFlags := 25, nameIndex := 466, descriptorIndex := 404, attributes := #[] }, { accessFlags := 25, nameIndex := 467, descriptorIndex := 404, attributes := #[] }, { accessFlags := 25, nameIndex := 468, descriptorIndex := 404, attributes := #[] }, { accessFlags := 25, nameIndex := 469, descriptorIndex := 404, attributes := #[] }, { accessFlags := 25, nameIndex := 470, descriptorIndex := 404, attributes := #[] }, { accessFlags := 25, nameIndex := 471, descriptorIndex := 404, attributes := #[] }, { accessFlags := 25, nameIndex := 472, descriptorIndex := 404, attributes := #[] }, { accessFlags := 25, nameIndex := 473, descriptorIndex := 404, attributes := #[] }, { accessFlags := 25, nameIndex := 474, descriptorIndex := 404, attributes := #[] }, { accessFlags := 25, nameIndex := 475, descriptorIndex := 404, attributes := #[] }, { accessFlags := 25, nameIndex := 476, descriptorIndex := 404, attributes := #[] }, { accessFlags := 25, nameIndex := 477, descriptorIndex := 404, attributes := #[] }, { accessFlags := 25, nameIndex := 478, descriptorIndex := 404, attributes := #[] }, { accessFlags := 25, nameIndex := 479, descriptorIndex := 404, attributes := #[] }, { accessFlags := 25, nameIndex := 480, descriptorIndex := 404, attributes := #[] }, { accessFlags := 25, nameIndex := 481, descriptorIndex := 404, attributes := #[] }, { accessFlags := 25, nameIndex := 482, descriptorIndex := 404, attributes := #[] }, { accessFlags := 25, nameIndex := 484, descriptorIndex := 404, attributes := #[] }, { accessFlags := 25, nameIndex := 485, descriptorIndex := 404, attributes := #[] }, { accessFlags := 25, nameIndex := 486, descriptorIndex := 404, attributes := #[] }, { accessFlags := 25, nameIndex := 487, descriptorIndex := 404, attributes := #[] }, { accessFlags := 25, nameIndex := 488, descriptorIndex := 404, attributes := #[] }, { accessFlags := 25, nameIndex := 489, descriptorIndex := 22, attributes := #[] }, { accessFlags := 25, nameIndex := 490, descriptorIndex := 22, attributes := #[] }, { accessFlags := 25, nameIndex := 492, descriptorIndex := 22, attributes := #[] }, { accessFlags := 25, nameIndex := 493, descriptorIndex := 22, attributes := #[] }, { accessFlags := 25, nameIndex := 495, descriptorIndex := 22, attributes := #[] }, { accessFlags := 25, nameIndex := 496, descriptorIndex := 22, attributes := #[] }, { accessFlags := 25, nameIndex := 497, descriptorIndex := 392, attributes := #[] }, { accessFlags := 25, nameIndex := 498, descriptorIndex := 392, attributes := #[] }, { accessFlags := 25, nameIndex := 499, descriptorIndex := 392, attributes := #[] }, { accessFlags := 18, nameIndex := 21, descriptorIndex := 22, attributes := #[] }, { accessFlags := 26, nameIndex := 501, descriptorIndex := 502, attributes := #[] }, { accessFlags := 25, nameIndex := 505, descriptorIndex := 392, attributes := #[] }, { accessFlags := 25, nameIndex := 506, descriptorIndex := 392, attributes := #[] }, { accessFlags := 4120, nameIndex := 284, descriptorIndex := 285, attributes := #[] }])
  fields := #[{ name := "MIN_RADIX", type := .int, accessFlags := 25, slot := 0, constantValue := 0 }, { name := "MAX_RADIX", type := .int, accessFlags := 25, slot := 1, constantValue := 0 }, { name := "MIN_VALUE", type := .char, accessFlags := 25, slot := 2, constantValue := 0 }, { name := "MAX_VALUE", type := .char, accessFlags := 25, slot := 3, constantValue := 0 }, { name := "TYPE", type := (.object "java/lang/Class"), accessFlags := 25, slot := 4, constantValue := 0 }, { name := "UNASSIGNED", type := .byte, accessFlags := 25, slot := 5, constantValue := 0 }, { name := "UPPERCASE_LETTER", type := .byte, accessFlags := 25, slot := 6, constantValue := 0 }, { name := "LOWERCASE_LETTER", type := .byte, accessFlags := 25, slot := 7, constantValue := 0 }, { name := "TITLECASE_LETTER", type := .byte, accessFlags := 25, slot := 8, constantValue := 0 }, { name := "MODIFIER_LETTER", type := .byte, accessFlags := 25, slot := 9, constantValue := 0 }, { name := "OTHER_LETTER", type := .byte, accessFlags := 25, slot := 10, constantValue := 0 }, { name := "NON_SPACING_MARK", type := .byte, accessFlags := 25, slot := 11, constantValue := 0 }, { name := "ENCLOSING_MARK", type := .byte, accessFlags := 25, slot := 12, constantValue := 0 }, { name := "COMBINING_SPACING_MARK", type := .byte, accessFlags := 25, slot := 13, constantValue := 0 }, { name := "DECIMAL_DIGIT_NUMBER", type := .byte, accessFlags := 25, slot := 14, constantValue := 0 }, { name := "LETTER_NUMBER", type := .byte, accessFlags := 25, slot := 15, constantValue := 0 }, { name := "OTHER_NUMBER", type := .byte, accessFlags := 25, slot := 16, constantValue := 0 }, { name := "SPACE_SEPARATOR", type := .byte, accessFlags := 25, slot := 17, constantValue := 0 }, { name := "LINE_SEPARATOR", type := .byte, accessFlags := 25, slot := 18, constantValue := 0 }, { name := "PARAGRAPH_SEPARATOR", type := .byte, accessFlags := 25, slot := 19, constantValue := 0 }, { name := "CONTROL", type := .byte, accessFlags := 25, slot := 20, constantValue := 0 }, { name := "FORMAT", type := .byte, accessFlags := 25, slot := 21, constantValue := 0 }, { name := "PRIVATE_USE", type := .byte, accessFlags := 25, slot := 22, constantValue := 0 }, { name := "SURROGATE", type := .byte, accessFlags := 25, slot := 23, constantValue := 0 }, { name := "DASH_PUNCTUATION", type := .byte, accessFlags := 25, slot := 24, constantValue := 0 }, { name := "START_PUNCTUATION", type := .byte, accessFlags := 25, slot := 25, constantValue := 0 }, { name := "END_PUNCTUATION", type := .byte, accessFlags := 25, slot := 26, constantValue := 0 }, { name := "CONNECTOR_PUNCTUATION", type := .byte, accessFlags := 25, slot := 27, constantValue := 0 }, { name := "OTHER_PUNCTUATION", type := .byte, accessFlags := 25, slot := 28, constantValue := 0 }, { name := "MATH_SYMBOL", type := .byte, accessFlags := 25, slot := 29, constantValue := 0 }, { name := "CURRENCY_SYMBOL", type := .byte, accessFlags := 25, slot := 30, constantValue := 0 }, { name := "MODIFIER_SYMBOL", type := .byte, accessFlags := 25, slot := 31, constantValue := 0 }, { name := "OTHER_SYMBOL", type := .byte, accessFlags := 25, slot := 32, constantValue := 0 }, { name := "INITIAL_QUOTE_PUNCTUATION", type := .byte, accessFlags := 25, slot := 33, constantValue := 0 }, { name := "FINAL_QUOTE_PUNCTUATION", type := .byte, accessFlags := 25, slot := 34, constantValue := 0 }, { name := "ERROR", type := .int, accessFlags := 24, slot := 35, constantValue := 0 }, { name := "DIRECTIONALITY_UNDEFINED", type := .byte, accessFlags := 25, slot := 36, constantValue := 0 }, { name := "DIRECTIONALITY_LEFT_TO_RIGHT", type := .byte, accessFlags := 25, slot := 37, constantValue := 0 }, { name := "DIRECTIONALITY_RIGHT_TO_LEFT", type := .byte, accessFlags := 25, slot := 38, constantValue := 0 }, { name := "DIRECTIONALITY_RIGHT_TO_LEFT_ARABIC", type := .byte, accessFlags := 25, slot := 39, constantValue := 0 }, { name := "DIRECTIONALITY_EUROPEAN_NUMBER", type := .byte, accessFlags := 25, slot := 40, constantValue := 0 }, { name := "DIRECTIONALITY_EUROPEAN_NUMBER_SEPARATOR", type := .byte, accessFlags := 25, slot := 41, constantValue := 0 }, { name := "DIRECTIONALITY_EUROPEAN_NUMBER_TERMINATOR", type := .byte, accessFlags := 25, slot := 42, constantValue := 0 }, { name := "DIRECTIONALITY_ARABIC_NUMBER", type := .byte, accessFlags := 25, slot := 43, constantValue := 0 }, { name := "DIRECTIONALITY_COMMON_NUMBER_SEPARATOR", type := .byte, accessFlags := 25, slot := 44, constantValue := 0 }, { name := "DIRECTIONALITY_NONSPACING_MARK", type := .byte, accessFlags := 25, slot := 45, constantValue := 0 }, { name := "DIRECTIONALITY_BOUNDARY_NEUTRAL", type := .byte, accessFlags := 25, slot := 46, constantValue := 0 }, { name := "DIRECTIONALITY_PARAGRAPH_SEPARATOR", type := .byte, accessFlags := 25, slot := 47, constantValue := 0 }, { name := "DIRECTIONALITY_SEGMENT_SEPARATOR", type := .byte, accessFlags := 25, slot := 48, constantValue := 0 }, { name := "DIRECTIONALITY_WHITESPACE", type := .byte, accessFlags := 25, slot := 49, constantValue := 0 }, { name := "DIRECTIONALITY_OTHER_NEUTRALS", type := .byte, accessFlags := 25, slot := 50, constantValue := 0 }, { name := "DIRECTIONALITY_LEFT_TO_RIGHT_EMBEDDING", type := .byte, accessFlags := 25, slot := 51, constantValue := 0 }, { name := "DIRECTIONALITY_LEFT_TO_RIGHT_OVERRIDE", type := .byte, accessFlags := 25, slot := 52, constantValue := 0 }, { name := "DIRECTIONALITY_RIGHT_TO_LEFT_EMBEDDING", type := .byte, accessFlags := 25, slot := 53, constantValue := 0 }, { name := "DIRECTIONALITY_RIGHT_TO_LEFT_OVERRIDE", type := .byte, accessFlags := 25, slot := 54, constantValue := 0 }, { name := "DIRECTIONALITY_POP_DIRECTIONAL_FORMAT", type := .byte, accessFlags := 25, slot := 55, constantValue := 0 }, { name := "DIRECTIONALITY_LEFT_TO_RIGHT_ISOLATE", type := .byte, accessFlags := 25, slot := 56, constantValue := 0 }, { name := "DIRECTIONALITY_RIGHT_TO_LEFT_ISOLATE", type := .byte, accessFlags := 25, slot := 57, constantValue := 0 }, { name := "DIRECTIONALITY_FIRST_STRONG_ISOLATE", type := .byte, accessFlags := 25, slot := 58, constantValue := 0 }, { name := "DIRECTIONALITY_POP_DIRECTIONAL_ISOLATE", type := .byte, accessFlags := 25, slot := 59, constantValue := 0 }, { name := "MIN_HIGH_SURROGATE", type := .char, accessFlags := 25, slot := 60, constantValue := 0 }, { name := "MAX_HIGH_SURROGATE", type := .char, accessFlags := 25, slot := 61, constantValue := 0 }, { name := "MIN_LOW_SURROGATE", type := .char, accessFlags := 25, slot := 62, constantValue := 0 }, { name := "MAX_LOW_SURROGATE", type := .char, accessFlags := 25, slot := 63, constantValue := 0 }, { name := "MIN_SURROGATE", type := .char, accessFlags := 25, slot := 64, constantValue := 0 }, { name := "MAX_SURROGATE", type := .char, accessFlags := 25, slot := 65, constantValue := 0 }, { name := "MIN_SUPPLEMENTARY_CODE_POINT", type := .int, accessFlags := 25, slot := 66, constantValue := 0 }, { name := "MIN_CODE_POINT", type := .int, accessFlags := 25, slot := 67, constantValue := 0 }, { name := "MAX_CODE_POINT", type := .int, accessFlags := 25, slot := 68, constantValue := 0 }, { name := "value", type := .char, accessFlags := 18, slot := 0, constantValue := 0 }, { name := "serialVersionUID", type := .long, accessFlags := 26, slot := 69, constantValue := 0 }, { name := "SIZE", type := .int, accessFlags := 25, slot := 70, constantValue := 0 }, { name := "BYTES", type := .int, accessFlags := 25, slot := 71, constantValue := 0 }, { name := "$assertionsDisabled", type := .boolean, accessFlags := 4120, slot := 72, constantValue := 0 }]
  methods := #[k16m0]
  instanceTypes := #[.char]
  staticTypes := #[.int, .int, .char, .char, (.object "java/lang/Class"), .byte, .byte, .byte, .byte, .byte, .byte, .byte, .byte, .byte, .byte, .byte, .byte, .byte, .byte, .byte, .byte, .byte, .byte, .byte, .byte, .byte, .byte, .byte, .byte, .byte, .byte, .byte, .byte, .byte, .byte, .int, .byte, .byte, .byte, .byte, .byte, .byte, .byte, .byte, .byte, .byte, .byte, .byte, .byte, .byte, .byte, .byte, .byte, .byte, .byte, .byte, .byte, .byte, .byte, .byte, .char, .char, .char, .char, .char, .char, .int, .int, .int, .long, .int, .int, .boolean]
  resolved := Array.replicate 604 none
  statics := none }

def pool17 : Array CpInfo := pool [(9, u "<init>"), (6, .class_ 18), (1, u "java/lang/Object"), (0, u "()V"), (1, .class_ 23), (1, u "jdk/internal/util/ArraysSupport"), (0, u "LOG2_ARRAY_LONG_INDEX_SCALE"), (0, u "I"), (2, u "U"), (0, u "Ljdk/internal/misc/Unsafe;"), (8, u "BIG_ENDIAN"), (0, u "Z"), (8, u "LOG2_BYTE_BIT_SIZE"), (4, u "LOG2_ARRAY_INT_INDEX_SCALE"), (54, u "JLA"), (0, u "Ljdk/internal/access/JavaLangAccess;"), (11, u "LOG2_ARRAY_BOOLEAN_INDEX_SCALE"), (9, u "LOG2_ARRAY_BYTE_INDEX_SCALE"), (5, u "LOG2_ARRAY_CHAR_INDEX_SCALE"), (5, u "LOG2_ARRAY_SHORT_INDEX_SCALE"), (18, u "LOG2_ARRAY_FLOAT_INDEX_SCALE"), (24, u "LOG2_ARRAY_DOUBLE_INDEX_SCALE"), (89, u "T_BOOLEAN"), (2, u "T_CHAR"), (1, u "T_FLOAT"), (1, u "T_DOUBLE"), (1, u "T_BYTE"), (1, u "T_SHORT"), (1, u "T_INT"), (1, u "T_LONG"), (1, u "SOFT_MAX_ARRAY_LENGTH")] 83

def k17m0 : Method := { name := "<init>", desc := "()V", sig := { parameters := [], returnType := none }, accessFlags := 2, code := none }
/-- jdk/internal/util/ArraysSupport -/
def k17 : Class := { plain "jdk/internal/util/ArraysSupport" (some 0) with
  accessFlags := 33
  interfaces := #[]
  cf := some (fileOf pool17 21 #[] #[{ accessFlags := 2, nameIndex := 9, descriptorIndex := 19, attributes := #[] }] 33 16 #[] #[{ accessFlags := 24, nameIndex := 28, descriptorIndex := 29, attributes := #[] }, { accessFlags := 26, nameIndex := 38, descriptorIndex := 39, attributes := #[] }, { accessFlags := 25, nameIndex := 121, descriptorIndex := 25, attributes := #[] }, { accessFlags := 25, nameIndex := 131, descriptorIndex := 25, attributes := #[] }, { accessFlags := 25, nameIndex := 137, descriptorIndex := 25, attributes := #[] }, { accessFlags := 25, nameIndex := 143, descriptorIndex := 25, attributes := #[] }, { accessFlags := 25, nameIndex := 53, descriptorIndex := 25, attributes := #[] }, { accessFlags := 25, nameIndex := 24, descriptorIndex := 25, attributes := #[] }, { accessFlags := 25, nameIndex := 162, descriptorIndex := 25, attributes := #[] }, { accessFlags := 25, nameIndex := 187, descriptorIndex := 25, attributes := #[] }, { accessFlags := 26, nameIndex := 48, descriptorIndex := 25, attributes := #[] }, { accessFlags := 25, nameIndex := 277, descriptorIndex := 25, attributes := #[] }, { accessFlags := 25, nameIndex := 280, descriptorIndex := 25, attributes := #[] }, { accessFlags := 25, nameIndex := 282, descriptorIndex := 25, attributes := #[] }, { accessFlags := 25, nameIndex := 284, descriptorIndex := 25, attributes := #[] }, { accessFlags := 25, nameIndex := 286, descriptorIndex := 25, attributes := #[] }, { accessFlags := 25, nameIndex := 288, descriptorIndex := 25, attributes := #[] }, { accessFlags := 25, nameIndex := 290, descriptorIndex := 25, attributes := #[] }, { accessFlags := 25, nameIndex := 292, descriptorIndex := 25, attributes := #[] }, { accessFlags := 26, nameIndex := 108, descriptorIndex := 109, attributes := #[] }, { accessFlags := 25, nameIndex := 294, descriptorIndex := 25, attributes := #[] }])
  fields := #[{ name := "U", type := (.object "jdk/internal/misc/Unsafe"), accessFlags := 24, slot := 0, constantValue := 0 }, { name := "BIG_ENDIAN", type := .boolean, accessFlags := 26, slot := 1, constantValue := 0 }, { name := "LOG2_ARRAY_BOOLEAN_INDEX_SCALE", type := .int, accessFlags := 25, slot := 2, constantValue := 0 }, { name := "LOG2_ARRAY_BYTE_INDEX_SCALE", type := .int, accessFlags := 25, slot := 3, constantValue := 0 }, { name := "LOG2_ARRAY_CHAR_INDEX_SCALE", type := .int, accessFlags := 25, slot := 4, constantValue := 0 }, { name := "LOG2_ARRAY_SHORT_INDEX_SCALE", type := .int, accessFlags := 25, slot := 5, constantValue := 0 }, { name := "LOG2_ARRAY_INT_INDEX_SCALE", type := .int, accessFlags := 25, slot := 6, constantValue := 0 }, { name := "LOG2_ARRAY_LONG_INDEX_SCALE", type := .int, accessFlags := 25, slot := 7, constantValue := 0 }, { name := "LOG2_ARRAY_FLOAT_INDEX_SCALE", type := .int, accessFlags := 25, slot := 8, constantValue := 0 }, { name := "LOG2_ARRAY_DOUBLE_INDEX_SCALE", type := .int, accessFlags := 25, slot := 9, constantValue := 0 }, { name := "LOG2_BYTE_BIT_SIZE", type := .int, accessFlags := 26, slot := 10, constantValue := 0 }, { name := "T_BOOLEAN", type := .int, accessFlags := 25, slot := 11, constantValue := 0 }, { name := "T_CHAR", type := .int, accessFlags := 25, slot := 12, constantValue := 0 }, { name := "T_FLOAT", type := .int, accessFlags := 25, slot := 13, constantValue := 0 }, { name := "T_DOUBLE", type := .int, accessFlags := 25, slot := 14, constantValue := 0 }, { name := "T_BYTE", type := .int, accessFlags := 25, slot := 15, constantValue := 0 }, { name := "T_SHORT", type := .int, accessFlags := 25, slot := 16, constantValue := 0 }, { name := "T_INT", type := .int, accessFlags := 25, slot := 17, constantValue := 0 }, { name := "T_LONG", type := .int, accessFlags := 25, slot := 18, constantValue := 0 }, { name := "JLA", type := (.object "jdk/internal/access/JavaLangAccess"), accessFlags := 26, slot := 19, constantValue := 0 }, { name := "SOFT_MAX_ARRAY_LENGTH", type := .int, accessFlags := 25, slot := 20, constantValue := 0 }]
  methods := #[k17m0]
  instanceTypes := #[]
  staticTypes := #[(.object "jdk/internal/misc/Unsafe"), .boolean, .int, .int, .int, .int, .int, .int, .int, .int, .int, .int, .int, .int, .int, .int, .int, .int, .int, (.object "jdk/internal/access/JavaLangAccess"), .int]
  resolved := Array.replicate 378 none
  statics := none }

def pool18 : Array CpInfo := pool [(1, u "java/lang/Cloneable"), (0, .class_ 1), (0, u "java/lang/Object"), (0, .class_ 3)] 3

/-- java/lang/Cloneable -/
def k18 : Class := { plain "java/lang/Cloneable" (some 0) with
  accessFlags := 1537
  interfaces := #[]
  cf := some (fileOf pool18 2 #[] #[] 1537 4 #[] #[])
  fields := #[]
  methods := #[]
  instanceTypes := #[]
  staticTypes := #[]
  resolved := Array.replicate 8 none
  statics := none }

/-- the primitive byte -/
def k19 : Class := { plain "byte" none with kind := .primitive 'B', accessFlags := 0x411 }
/-- [B -/
def k20 : Class := { plain "[B" (some 0) with kind := .array 19 .byte, interfaces := #[18, 4], accessFlags := 1041 }

/-- the primitive char -/
def k21 : Class := { plain "char" none with kind := .primitive 'C', accessFlags := 0x411 }
/-- [C -/
def k22 : Class := { plain "[C" (some 0) with kind := .array 21 .char, interfaces := #[18, 4], accessFlags := 1041 }

/-- the primitive int -/
def k23 : Class := { plain "int" none with kind := .primitive 'I', accessFlags := 0x411 }
/-- [I -/
def k24 : Class := { plain "[I" (some 0) with kind := .array 23 .int, interfaces := #[18, 4], accessFlags := 1041 }

def heap : Heap := #[{ cls := 6, slots := #[.ref 4, .ref 12, .ref 13, .null], vm := .statics 6 },
  { cls := 8, slots := #[.ref 5, .ref 8, .ref 6, .ref 9, .null, .ref 10, .null, .ref 7, .null, .ref 11, .null], vm := .statics 8 },
  { cls := 11, slots := #[.long 0, .int 1, .null, .int 0, .null, .int 0, .int 0], vm := .statics 11 },
  { cls := 13, slots := #[.null, .null, .null], vm := .statics 13 },
  { cls := 6, slots := #[.null, .int 0, .int 0, .int 1], vm := .none },
  { cls := 8, slots := #[.null, .int 0, .int 0], vm := .none },
  { cls := 8, slots := #[.null, .int 2, .int 0], vm := .none },
  { cls := 8, slots := #[.null, .int 7, .int 0], vm := .none },
  { cls := 8, slots := #[.null, .int 1, .int 0], vm := .none },
  { cls := 8, slots := #[.null, .int 3, .int 0], vm := .none },
  { cls := 8, slots := #[.null, .int 5, .int 0], vm := .none },
  { cls := 8, slots := #[.null, .int 9, .int 0], vm := .none },
  { cls := 14, slots := #[.null, .int 0, .int 0, .int 1], vm := .none },
  { cls := 15, slots := #[.null, .int 0, .int 0, .int 2], vm := .none }]
def classes : Array Class := #[k0, k1, k2, k3, k4, k5, k6, k7, k8, k9, k10, k11, k12, k13, k14, k15, k16, k17, k18, k19, k20, k21, k22, k23, k24]
def interned : List (Array UInt16 × Addr) := []
def slotsUsed : Nat := 58
def theMethod : MethodId := ⟨1, 1⟩
def args0 : Array Value := #[.int 5, .int 5, .int 5]
def aboutOver (below : List Frame) : State where
  vm := { classes := classes, interned := interned.toArray }
  heap := heap
  slotsUsed := slotsUsed
  threads := #[{ frames := .invoking theMethod args0 :: below }]
def below0 : List Frame := [.native { method := ⟨0, 0⟩, args := #[] }]
def about1 : State := aboutOver below0
def p0 : Program := .bare "" "" ""
def e0 : Env := launch0.env 0 0 0
theorem w_frames : about1.frames = Frame.invoking theMethod args0 :: below0 := rfl
set_option maxRecDepth 65536 in
theorem w_args : argsFit about1.vm theMethod args0 = true := by decide +kernel
set_option maxRecDepth 65536 in
theorem w_heap : heapFits about1 = true := by decide +kernel
set_option maxRecDepth 65536 in
theorem w_runnable : about1.curStatus? = some .runnable := by decide +kernel
set_option maxRecDepth 65536 in
theorem w_alone : about1.alone = true := by decide +kernel
set_option maxRecDepth 65536 in
theorem w_named : about1.methodNamed? x = some theMethod := by decide +kernel
set_option maxRecDepth 65536 in
theorem w_hears : about1.hears theMethod below0 = true := by decide +kernel
set_option maxRecDepth 65536 in
theorem w_ripe : about1.ripe theMethod args0 below0 = true := by decide +kernel
theorem w_running : about1.status = .running := rfl
set_option maxRecDepth 65536 in
theorem w_room : about1.hasRoom e0.platform room_1 = true :=
  launch0.hasRoom_least _ room_1 (by decide +kernel) (by decide +kernel) (by decide +kernel) (by decide +kernel) (by decide +kernel) (by decide +kernel)
theorem allAtoms_all (ts : List Jvm.Cond) (a : Array Jvm.Value) (st : Jvm.State) : (allAtoms ts).before a st = ts.all (fun c => c.before a st) := by
  induction ts with
  | nil => rfl
  | cons c t ih =>
    show (Jvm.Cond.and c (allAtoms t)).before a st = _
    rw [Jvm.Cond.before_and, ih, List.all_cons]
def words1 : List Jvm.Cond := Jvm.Cond.code x code maxLocals ret :: tables_1
/-- a 'code' word, met by the world's own term for the bytes: nothing is compared byte by byte -/
theorem code_word {y : MethodName} {bytes : ByteArray} {mx : Nat} {rt : Option FieldType} {a : Array Value} {s : State} {m : MethodId} {meth : Method} {c : Code} (h1 : s.methodNamed? y = some m) (h2 : s.vm.method? m = some meth) (h3 : meth.code = some c) (h4 : c.code = bytes)
    (h5 : (c.maxLocals == mx && c.exceptionTable.isEmpty && decide (c.maxStack ≤ mostOperands) && decide (meth.sig.returnType = rt) && !meth.locks && decide (parseMethodDescriptor y.desc = some meth.sig)) = true) : (Jvm.Cond.code y bytes mx rt).before a s = true := by
  simp only [Bool.and_eq_true, beq_iff_eq, Bool.not_eq_true', decide_eq_true_eq] at h5
  obtain ⟨⟨⟨⟨⟨g1, g2⟩, g3⟩, g4⟩, g5⟩, g6⟩ := h5
  simp [Cond.before, Cond.holds, Cond.value, h1, h2, h3, h4, g1, g2, g3, g4, g5, g6]
def isCode : Jvm.Cond → Bool
  | .code _ _ _ _ => true
  | _ => false
theorem all_split {L : List Jvm.Cond} {P : Jvm.Cond → Bool} (h1 : L.all (fun c => isCode c || P c) = true) (h2 : ∀ c ∈ L.filter isCode, P c = true) : L.all P = true := by
  refine List.all_eq_true.mpr fun c hc => ?_
  have h := List.all_eq_true.mp h1 c hc
  rcases Bool.eq_false_or_eq_true (isCode c) with hi | hi
  · exact h2 c (List.mem_filter.mpr ⟨hc, hi⟩)
  · simpa [hi] using h
set_option maxRecDepth 65536 in
theorem w_c0 : (Jvm.Cond.code x code maxLocals ret).before args0 about1 = true := code_word (m := ⟨1, 1⟩) (meth := k1m1) (c := k1c1) (by decide +kernel) rfl rfl rfl (by decide +kernel)
set_option maxRecDepth 65536 in
theorem w_c1 : (Jvm.Cond.code ({ cls := "com/example/corridor/corridor/iso20022/MarkupScanner", name := "<init>", desc := "()V" } : Jvm.MethodName) prog_34_method_1_code (1 : Nat) (Option.none : Option Jvm.ClassFile.FieldType)).before args0 about1 = true := code_word (m := ⟨7, 0⟩) (meth := k7m0) (c := k7c0) (by decide +kernel) rfl rfl rfl (by decide +kernel)
set_option maxRecDepth 65536 in
theorem w_c2 : (Jvm.Cond.code ({ cls := "java/lang/Object", name := "<init>", desc := "()V" } : Jvm.MethodName) object_method_1_code (1 : Nat) (Option.none : Option Jvm.ClassFile.FieldType)).before args0 about1 = true := code_word (m := ⟨0, 0⟩) (meth := k0m0) (c := k0c0) (by decide +kernel) rfl rfl rfl (by decide +kernel)
set_option maxRecDepth 65536 in
theorem w_c3 : (Jvm.Cond.code ({ cls := "com/example/corridor/corridor/iso20022/MarkupScanner", name := "scan", desc := "([CIILcom/example/corridor/corridor/iso20022/MarkupScanner$Encoding;)I" } : Jvm.MethodName) prog_34_method_2_code (6 : Nat) (Option.some Jvm.ClassFile.FieldType.int)).before args0 about1 = true := code_word (m := ⟨7, 1⟩) (meth := k7m1) (c := k7c1) (by decide +kernel) rfl rfl rfl (by decide +kernel)
set_option maxRecDepth 65536 in
theorem w_c4 : (Jvm.Cond.code ({ cls := "com/example/corridor/corridor/iso20022/MarkupScanner", name := "inName", desc := "()Z" } : Jvm.MethodName) prog_34_method_21_code (1 : Nat) (Option.some Jvm.ClassFile.FieldType.boolean)).before args0 about1 = true := code_word (m := ⟨7, 12⟩) (meth := k7m12) (c := k7c12) (by decide +kernel) rfl rfl rfl (by decide +kernel)
set_option maxRecDepth 65536 in
theorem w_c5 : (Jvm.Cond.code ({ cls := "java/lang/Enum", name := "ordinal", desc := "()I" } : Jvm.MethodName) jdk_37_method_2_code (1 : Nat) (Option.some Jvm.ClassFile.FieldType.int)).before args0 about1 = true := code_word (m := ⟨5, 0⟩) (meth := k5m0) (c := k5c0) (by decide +kernel) rfl rfl rfl (by decide +kernel)
set_option maxRecDepth 65536 in
theorem w_c6 : (Jvm.Cond.code ({ cls := "com/example/corridor/corridor/iso20022/MarkupScanner", name := "content", desc := "(II)I" } : Jvm.MethodName) prog_34_method_14_code (6 : Nat) (Option.some Jvm.ClassFile.FieldType.int)).before args0 about1 = true := code_word (m := ⟨7, 11⟩) (meth := k7m11) (c := k7c11) (by decide +kernel) rfl rfl rfl (by decide +kernel)
set_option maxRecDepth 65536 in
theorem w_c7 : (Jvm.Cond.code ({ cls := "com/example/corridor/corridor/iso20022/MarkupScanner", name := "begin", desc := "(IZ)V" } : Jvm.MethodName) prog_34_method_11_code (3 : Nat) (Option.none : Option Jvm.ClassFile.FieldType)).before args0 about1 = true := code_word (m := ⟨7, 10⟩) (meth := k7m10) (c := k7c10) (by decide +kernel) rfl rfl rfl (by decide +kernel)
set_option maxRecDepth 65536 in
theorem w_c8 : (Jvm.Cond.code ({ cls := "com/example/corridor/corridor/iso20022/MarkupScanner", name := "other", desc := "(I)I" } : Jvm.MethodName) prog_34_method_24_code (3 : Nat) (Option.some Jvm.ClassFile.FieldType.int)).before args0 about1 = true := code_word (m := ⟨7, 14⟩) (meth := k7m14) (c := k7c14) (by decide +kernel) rfl rfl rfl (by decide +kernel)
set_option maxRecDepth 65536 in
theorem w_c9 : (Jvm.Cond.code ({ cls := "com/example/corridor/corridor/iso20022/MarkupScanner", name := "lineEnd", desc := "(CI)V" } : Jvm.MethodName) prog_34_method_10_code (3 : Nat) (Option.none : Option Jvm.ClassFile.FieldType)).before args0 about1 = true := code_word (m := ⟨7, 9⟩) (meth := k7m9) (c := k7c9) (by decide +kernel) rfl rfl rfl (by decide +kernel)
set_option maxRecDepth 65536 in
theorem w_c10 : (Jvm.Cond.code ({ cls := "java/lang/String", name := "charAt", desc := "(I)C" } : Jvm.MethodName) jdk_42_method_56_code (2 : Nat) (Option.some Jvm.ClassFile.FieldType.char)).before args0 about1 = true := code_word (m := ⟨11, 2⟩) (meth := k11m2) (c := k11c2) (by decide +kernel) rfl rfl rfl (by decide +kernel)
set_option maxRecDepth 65536 in
theorem w_c11 : (Jvm.Cond.code ({ cls := "java/lang/String", name := "isLatin1", desc := "()Z" } : Jvm.MethodName) jdk_42_method_154_code (1 : Nat) (Option.some Jvm.ClassFile.FieldType.boolean)).before args0 about1 = true := code_word (m := ⟨11, 4⟩) (meth := k11m4) (c := k11c4) (by decide +kernel) rfl rfl rfl (by decide +kernel)
set_option maxRecDepth 65536 in
theorem w_c12 : (Jvm.Cond.code ({ cls := "java/lang/StringLatin1", name := "charAt", desc := "([BI)C" } : Jvm.MethodName) jdk_43_method_2_code (2 : Nat) (Option.some Jvm.ClassFile.FieldType.char)).before args0 about1 = true := code_word (m := ⟨12, 1⟩) (meth := k12m1) (c := k12c1) (by decide +kernel) rfl rfl rfl (by decide +kernel)
set_option maxRecDepth 65536 in
theorem w_c13 : (Jvm.Cond.code ({ cls := "java/lang/String", name := "checkIndex", desc := "(II)V" } : Jvm.MethodName) jdk_42_method_155_code (2 : Nat) (Option.none : Option Jvm.ClassFile.FieldType)).before args0 about1 = true := code_word (m := ⟨11, 5⟩) (meth := k11m5) (c := k11c5) (by decide +kernel) rfl rfl rfl (by decide +kernel)
set_option maxRecDepth 65536 in
theorem w_c14 : (Jvm.Cond.code ({ cls := "jdk/internal/util/Preconditions", name := "checkIndex", desc := "(IILjava/util/function/BiFunction;)I" } : Jvm.MethodName) jdk_41_method_11_code (3 : Nat) (Option.some Jvm.ClassFile.FieldType.int)).before args0 about1 = true := code_word (m := ⟨13, 1⟩) (meth := k13m1) (c := k13c1) (by decide +kernel) rfl rfl rfl (by decide +kernel)
set_option maxRecDepth 65536 in
theorem w_c15 : (Jvm.Cond.code ({ cls := "java/lang/String", name := "length", desc := "()I" } : Jvm.MethodName) jdk_42_method_54_code (1 : Nat) (Option.some Jvm.ClassFile.FieldType.int)).before args0 about1 = true := code_word (m := ⟨11, 1⟩) (meth := k11m1) (c := k11c1) (by decide +kernel) rfl rfl rfl (by decide +kernel)
set_option maxRecDepth 65536 in
theorem w_c16 : (Jvm.Cond.code ({ cls := "java/lang/String", name := "coder", desc := "()B" } : Jvm.MethodName) jdk_42_method_152_code (1 : Nat) (Option.some Jvm.ClassFile.FieldType.byte)).before args0 about1 = true := code_word (m := ⟨11, 3⟩) (meth := k11m3) (c := k11c3) (by decide +kernel) rfl rfl rfl (by decide +kernel)
set_option maxRecDepth 65536 in
theorem w_c17 : (Jvm.Cond.code ({ cls := "com/example/corridor/corridor/iso20022/MarkupScanner", name := "offsetAt", desc := "(I)J" } : Jvm.MethodName) prog_34_method_7_code (2 : Nat) (Option.some Jvm.ClassFile.FieldType.long)).before args0 about1 = true := code_word (m := ⟨7, 6⟩) (meth := k7m6) (c := k7c6) (by decide +kernel) rfl rfl rfl (by decide +kernel)
set_option maxRecDepth 65536 in
theorem w_c18 : (Jvm.Cond.code ({ cls := "com/example/corridor/corridor/iso20022/MarkupScanner", name := "cdata", desc := "(II)I" } : Jvm.MethodName) prog_34_method_23_code (5 : Nat) (Option.some Jvm.ClassFile.FieldType.int)).before args0 about1 = true := code_word (m := ⟨7, 13⟩) (meth := k7m13) (c := k7c13) (by decide +kernel) rfl rfl rfl (by decide +kernel)
set_option maxRecDepth 65536 in
theorem w_c19 : (Jvm.Cond.code ({ cls := "com/example/corridor/corridor/iso20022/MarkupScanner", name := "closes", desc := "(CCI)Z" } : Jvm.MethodName) prog_34_method_25_code (5 : Nat) (Option.some Jvm.ClassFile.FieldType.boolean)).before args0 about1 = true := code_word (m := ⟨7, 15⟩) (meth := k7m15) (c := k7c15) (by decide +kernel) rfl rfl rfl (by decide +kernel)
set_option maxRecDepth 65536 in
theorem w_c20 : (Jvm.Cond.code ({ cls := "com/example/corridor/corridor/iso20022/MarkupScanner", name := "previousUnit", desc := "(I)C" } : Jvm.MethodName) prog_34_method_8_code (2 : Nat) (Option.some Jvm.ClassFile.FieldType.char)).before args0 about1 = true := code_word (m := ⟨7, 7⟩) (meth := k7m7) (c := k7c7) (by decide +kernel) rfl rfl rfl (by decide +kernel)
set_option maxRecDepth 65536 in
theorem w_c21 : (Jvm.Cond.code ({ cls := "com/example/corridor/corridor/iso20022/MarkupScanner", name := "endsLine", desc := "(CC)Z" } : Jvm.MethodName) prog_34_method_9_code (2 : Nat) (Option.some Jvm.ClassFile.FieldType.boolean)).before args0 about1 = true := code_word (m := ⟨7, 8⟩) (meth := k7m8) (c := k7c8) (by decide +kernel) rfl rfl rfl (by decide +kernel)
set_option maxRecDepth 65536 in
theorem w_c22 : (Jvm.Cond.code ({ cls := "com/example/corridor/corridor/iso20022/MarkupScanner$Encoding", name := "begins", desc := "(C)Z" } : Jvm.MethodName) prog_35_method_4_code (2 : Nat) (Option.some Jvm.ClassFile.FieldType.boolean)).before args0 about1 = true := code_word (m := ⟨6, 0⟩) (meth := k6m0) (c := k6c0) (by decide +kernel) rfl rfl rfl (by decide +kernel)
set_option maxRecDepth 65536 in
theorem w_c23 : (Jvm.Cond.code ({ cls := "com/example/corridor/corridor/iso20022/MarkupScanner", name := "cut", desc := "()V" } : Jvm.MethodName) prog_34_method_4_code (1 : Nat) (Option.none : Option Jvm.ClassFile.FieldType)).before args0 about1 = true := code_word (m := ⟨7, 3⟩) (meth := k7m3) (c := k7c3) (by decide +kernel) rfl rfl rfl (by decide +kernel)
set_option maxRecDepth 65536 in
theorem w_c24 : (Jvm.Cond.code ({ cls := "com/example/corridor/corridor/iso20022/MarkupScanner", name := "cutReady", desc := "()Z" } : Jvm.MethodName) prog_34_method_3_code (1 : Nat) (Option.some Jvm.ClassFile.FieldType.boolean)).before args0 about1 = true := code_word (m := ⟨7, 2⟩) (meth := k7m2) (c := k7c2) (by decide +kernel) rfl rfl rfl (by decide +kernel)
set_option maxRecDepth 65536 in
theorem w_c25 : (Jvm.Cond.code ({ cls := "com/example/corridor/corridor/iso20022/MarkupScanner", name := "pieceOffset", desc := "()J" } : Jvm.MethodName) prog_34_method_5_code (1 : Nat) (Option.some Jvm.ClassFile.FieldType.long)).before args0 about1 = true := code_word (m := ⟨7, 4⟩) (meth := k7m4) (c := k7c4) (by decide +kernel) rfl rfl rfl (by decide +kernel)
set_option maxRecDepth 65536 in
theorem w_c26 : (Jvm.Cond.code ({ cls := "com/example/corridor/corridor/iso20022/MarkupScanner", name := "line", desc := "()J" } : Jvm.MethodName) prog_34_method_6_code (1 : Nat) (Option.some Jvm.ClassFile.FieldType.long)).before args0 about1 = true := code_word (m := ⟨7, 5⟩) (meth := k7m5) (c := k7c5) (by decide +kernel) rfl rfl rfl (by decide +kernel)
set_option maxRecDepth 65536 in
theorem w_c27 : (Jvm.Cond.code ({ cls := "com/example/corridor/corridor/iso20022/MarkupScanner$Encoding$1", name := "begins", desc := "(C)Z" } : Jvm.MethodName) prog_36_method_2_code (2 : Nat) (Option.some Jvm.ClassFile.FieldType.boolean)).before args0 about1 = true := code_word (m := ⟨14, 0⟩) (meth := k14m0) (c := k14c0) (by decide +kernel) rfl rfl rfl (by decide +kernel)
set_option maxRecDepth 65536 in
theorem w_c28 : (Jvm.Cond.code ({ cls := "com/example/corridor/corridor/iso20022/MarkupScanner$Encoding$2", name := "begins", desc := "(C)Z" } : Jvm.MethodName) prog_37_method_2_code (2 : Nat) (Option.some Jvm.ClassFile.FieldType.boolean)).before args0 about1 = true := code_word (m := ⟨15, 0⟩) (meth := k15m0) (c := k15c0) (by decide +kernel) rfl rfl rfl (by decide +kernel)
set_option maxRecDepth 65536 in
theorem w_c29 : (Jvm.Cond.code ({ cls := "java/lang/Character", name := "isLowSurrogate", desc := "(C)Z" } : Jvm.MethodName) jdk_89_method_15_code (1 : Nat) (Option.some Jvm.ClassFile.FieldType.boolean)).before args0 about1 = true := code_word (m := ⟨16, 0⟩) (meth := k16m0) (c := k16c0) (by decide +kernel) rfl rfl rfl (by decide +kernel)
def codes1 : List Jvm.Cond := [Jvm.Cond.code x code maxLocals ret, Jvm.Cond.code ({ cls := "com/example/corridor/corridor/iso20022/MarkupScanner", name := "<init>", desc := "()V" } : Jvm.MethodName) prog_34_method_1_code (1 : Nat) (Option.none : Option Jvm.ClassFile.FieldType), Jvm.Cond.code ({ cls := "java/lang/Object", name := "<init>", desc := "()V" } : Jvm.MethodName) object_method_1_code (1 : Nat) (Option.none : Option Jvm.ClassFile.FieldType), Jvm.Cond.code ({ cls := "com/example/corridor/corridor/iso20022/MarkupScanner", name := "scan", desc := "([CIILcom/example/corridor/corridor/iso20022/MarkupScanner$Encoding;)I" } : Jvm.MethodName) prog_34_method_2_code (6 : Nat) (Option.some Jvm.ClassFile.FieldType.int), Jvm.Cond.code ({ cls := "com/example/corridor/corridor/iso20022/MarkupScanner", name := "inName", desc := "()Z" } : Jvm.MethodName) prog_34_method_21_code (1 : Nat) (Option.some Jvm.ClassFile.FieldType.boolean), Jvm.Cond.code ({ cls := "java/lang/Enum", name := "ordinal", desc := "()I" } : Jvm.MethodName) jdk_37_method_2_code (1 : Nat) (Option.some Jvm.ClassFile.FieldType.int), Jvm.Cond.code ({ cls := "com/example/corridor/corridor/iso20022/MarkupScanner", name := "content", desc := "(II)I" } : Jvm.MethodName) prog_34_method_14_code (6 : Nat) (Option.some Jvm.ClassFile.FieldType.int), Jvm.Cond.code ({ cls := "com/example/corridor/corridor/iso20022/MarkupScanner", name := "begin", desc := "(IZ)V" } : Jvm.MethodName) prog_34_method_11_code (3 : Nat) (Option.none : Option Jvm.ClassFile.FieldType), Jvm.Cond.code ({ cls := "com/example/corridor/corridor/iso20022/MarkupScanner", name := "other", desc := "(I)I" } : Jvm.MethodName) prog_34_method_24_code (3 : Nat) (Option.some Jvm.ClassFile.FieldType.int), Jvm.Cond.code ({ cls := "com/example/corridor/corridor/iso20022/MarkupScanner", name := "lineEnd", desc := "(CI)V" } : Jvm.MethodName) prog_34_method_10_code (3 : Nat) (Option.none : Option Jvm.ClassFile.FieldType), Jvm.Cond.code ({ cls := "java/lang/String", name := "charAt", desc := "(I)C" } : Jvm.MethodName) jdk_42_method_56_code (2 : Nat) (Option.some Jvm.ClassFile.FieldType.char), Jvm.Cond.code ({ cls := "java/lang/String", name := "isLatin1", desc := "()Z" } : Jvm.MethodName) jdk_42_method_154_code (1 : Nat) (Option.some Jvm.ClassFile.FieldType.boolean), Jvm.Cond.code ({ cls := "java/lang/StringLatin1", name := "charAt", desc := "([BI)C" } : Jvm.MethodName) jdk_43_method_2_code (2 : Nat) (Option.some Jvm.ClassFile.FieldType.char), Jvm.Cond.code ({ cls := "java/lang/String", name := "checkIndex", desc := "(II)V" } : Jvm.MethodName) jdk_42_method_155_code (2 : Nat) (Option.none : Option Jvm.ClassFile.FieldType), Jvm.Cond.code ({ cls := "jdk/internal/util/Preconditions", name := "checkIndex", desc := "(IILjava/util/function/BiFunction;)I" } : Jvm.MethodName) jdk_41_method_11_code (3 : Nat) (Option.some Jvm.ClassFile.FieldType.int), Jvm.Cond.code ({ cls := "java/lang/String", name := "length", desc := "()I" } : Jvm.MethodName) jdk_42_method_54_code (1 : Nat) (Option.some Jvm.ClassFile.FieldType.int), Jvm.Cond.code ({ cls := "java/lang/String", name := "coder", desc := "()B" } : Jvm.MethodName) jdk_42_method_152_code (1 : Nat) (Option.some Jvm.ClassFile.FieldType.byte), Jvm.Cond.code ({ cls := "com/example/corridor/corridor/iso20022/MarkupScanner", name := "offsetAt", desc := "(I)J" } : Jvm.MethodName) prog_34_method_7_code (2 : Nat) (Option.some Jvm.ClassFile.FieldType.long), Jvm.Cond.code ({ cls := "com/example/corridor/corridor/iso20022/MarkupScanner", name := "cdata", desc := "(II)I" } : Jvm.MethodName) prog_34_method_23_code (5 : Nat) (Option.some Jvm.ClassFile.FieldType.int), Jvm.Cond.code ({ cls := "com/example/corridor/corridor/iso20022/MarkupScanner", name := "closes", desc := "(CCI)Z" } : Jvm.MethodName) prog_34_method_25_code (5 : Nat) (Option.some Jvm.ClassFile.FieldType.boolean), Jvm.Cond.code ({ cls := "com/example/corridor/corridor/iso20022/MarkupScanner", name := "previousUnit", desc := "(I)C" } : Jvm.MethodName) prog_34_method_8_code (2 : Nat) (Option.some Jvm.ClassFile.FieldType.char), Jvm.Cond.code ({ cls := "com/example/corridor/corridor/iso20022/MarkupScanner", name := "endsLine", desc := "(CC)Z" } : Jvm.MethodName) prog_34_method_9_code (2 : Nat) (Option.some Jvm.ClassFile.FieldType.boolean), Jvm.Cond.code ({ cls := "com/example/corridor/corridor/iso20022/MarkupScanner$Encoding", name := "begins", desc := "(C)Z" } : Jvm.MethodName) prog_35_method_4_code (2 : Nat) (Option.some Jvm.ClassFile.FieldType.boolean), Jvm.Cond.code ({ cls := "com/example/corridor/corridor/iso20022/MarkupScanner", name := "cut", desc := "()V" } : Jvm.MethodName) prog_34_method_4_code (1 : Nat) (Option.none : Option Jvm.ClassFile.FieldType), Jvm.Cond.code ({ cls := "com/example/corridor/corridor/iso20022/MarkupScanner", name := "cutReady", desc := "()Z" } : Jvm.MethodName) prog_34_method_3_code (1 : Nat) (Option.some Jvm.ClassFile.FieldType.boolean), Jvm.Cond.code ({ cls := "com/example/corridor/corridor/iso20022/MarkupScanner", name := "pieceOffset", desc := "()J" } : Jvm.MethodName) prog_34_method_5_code (1 : Nat) (Option.some Jvm.ClassFile.FieldType.long), Jvm.Cond.code ({ cls := "com/example/corridor/corridor/iso20022/MarkupScanner", name := "line", desc := "()J" } : Jvm.MethodName) prog_34_method_6_code (1 : Nat) (Option.some Jvm.ClassFile.FieldType.long), Jvm.Cond.code ({ cls := "com/example/corridor/corridor/iso20022/MarkupScanner$Encoding$1", name := "begins", desc := "(C)Z" } : Jvm.MethodName) prog_36_method_2_code (2 : Nat) (Option.some Jvm.ClassFile.FieldType.boolean), Jvm.Cond.code ({ cls := "com/example/corridor/corridor/iso20022/MarkupScanner$Encoding$2", name := "begins", desc := "(C)Z" } : Jvm.MethodName) prog_37_method_2_code (2 : Nat) (Option.some Jvm.ClassFile.FieldType.boolean), Jvm.Cond.code ({ cls := "java/lang/Character", name := "isLowSurrogate", desc := "(C)Z" } : Jvm.MethodName) jdk_89_method_15_code (1 : Nat) (Option.some Jvm.ClassFile.FieldType.boolean)]
set_option maxRecDepth 65536 in
theorem codes_eq : words1.filter isCode = codes1 := rfl
theorem w_codes : ∀ c ∈ words1.filter isCode, c.before args0 about1 = true := by
  rw [codes_eq]
  intro c hc
  simp only [codes1, List.mem_cons, List.not_mem_nil, or_false] at hc
  rcases hc with rfl | rfl | rfl | rfl | rfl | rfl | rfl | rfl | rfl | rfl | rfl | rfl | rfl | rfl | rfl | rfl | rfl | rfl | rfl | rfl | rfl | rfl | rfl | rfl | rfl | rfl | rfl | rfl | rfl | rfl
  · exact w_c0
  · exact w_c1
  · exact w_c2
  · exact w_c3
  · exact w_c4
  · exact w_c5
  · exact w_c6
  · exact w_c7
  · exact w_c8
  · exact w_c9
  · exact w_c10
  · exact w_c11
  · exact w_c12
  · exact w_c13
  · exact w_c14
  · exact w_c15
  · exact w_c16
  · exact w_c17
  · exact w_c18
  · exact w_c19
  · exact w_c20
  · exact w_c21
  · exact w_c22
  · exact w_c23
  · exact w_c24
  · exact w_c25
  · exact w_c26
  · exact w_c27
  · exact w_c28
  · exact w_c29
set_option maxRecDepth 65536 in
theorem w_t1 : (words1.take 24).all (fun c => isCode c || c.before args0 about1) = true := by decide +kernel
set_option maxRecDepth 65536 in
theorem w_t2 : ((words1.drop 24).take 24).all (fun c => isCode c || c.before args0 about1) = true := by decide +kernel
set_option maxRecDepth 65536 in
theorem w_t3 : (((words1.drop 24).drop 24).take 24).all (fun c => isCode c || c.before args0 about1) = true := by decide +kernel
set_option maxRecDepth 65536 in
theorem w_t4 : ((((words1.drop 24).drop 24).drop 24).take 24).all (fun c => isCode c || c.before args0 about1) = true := by decide +kernel
set_option maxRecDepth 65536 in
theorem w_t5 : (((((words1.drop 24).drop 24).drop 24).drop 24).take 24).all (fun c => isCode c || c.before args0 about1) = true := by decide +kernel
set_option maxRecDepth 65536 in
theorem w_t6 : ((((((words1.drop 24).drop 24).drop 24).drop 24).drop 24).take 24).all (fun c => isCode c || c.before args0 about1) = true := by decide +kernel
set_option maxRecDepth 65536 in
theorem w_t7 : (((((((words1.drop 24).drop 24).drop 24).drop 24).drop 24).drop 24).take 24).all (fun c => isCode c || c.before args0 about1) = true := by decide +kernel
set_option maxRecDepth 65536 in
theorem w_t8 : ((((((((words1.drop 24).drop 24).drop 24).drop 24).drop 24).drop 24).drop 24).take 24).all (fun c => isCode c || c.before args0 about1) = true := by decide +kernel
set_option maxRecDepth 65536 in
theorem w_t9 : (((((((((words1.drop 24).drop 24).drop 24).drop 24).drop 24).drop 24).drop 24).drop 24).take 24).all (fun c => isCode c || c.before args0 about1) = true := by decide +kernel
set_option maxRecDepth 65536 in
theorem w_t10 : (((((((((words1.drop 24).drop 24).drop 24).drop 24).drop 24).drop 24).drop 24).drop 24).drop 24).all (fun c => isCode c || c.before args0 about1) = true := by decide +kernel
theorem w_tables : (allAtoms (Jvm.Cond.code x code maxLocals ret :: tables_1)).before args0 about1 = true := by
  rw [allAtoms_all]
  show words1.all (fun c => c.before args0 about1) = true
  refine all_split ?_ w_codes
  rw [← List.take_append_drop 24 words1, List.all_append, w_t1, ← List.take_append_drop 24 (words1.drop 24), List.all_append, w_t2, ← List.take_append_drop 24 ((words1.drop 24).drop 24), List.all_append, w_t3, ← List.take_append_drop 24 (((words1.drop 24).drop 24).drop 24), List.all_append, w_t4, ← List.take_append_drop 24 ((((words1.drop 24).drop 24).drop 24).drop 24), List.all_append, w_t5, ← List.take_append_drop 24 (((((words1.drop 24).drop 24).drop 24).drop 24).drop 24), List.all_append, w_t6, ← List.take_append_drop 24 ((((((words1.drop 24).drop 24).drop 24).drop 24).drop 24).drop 24), List.all_append, w_t7, ← List.take_append_drop 24 (((((((words1.drop 24).drop 24).drop 24).drop 24).drop 24).drop 24).drop 24), List.all_append, w_t8, ← List.take_append_drop 24 ((((((((words1.drop 24).drop 24).drop 24).drop 24).drop 24).drop 24).drop 24).drop 24), List.all_append, w_t9, w_t10]
  rfl
set_option maxRecDepth 65536 in
theorem w_rest : rest_1_c.before args0 about1 = true := by decide +kernel
set_option maxRecDepth 65536 in
theorem w_case : (Jvm.Cond.and given_1 narrow_1).before args0 about1 = true := by decide +kernel
set_option maxRecDepth 65536 in
theorem w_consts : constsHeld consts_1 about1 := Jvm.Lit.constsHeldB_iff.mp (by decide +kernel)
theorem w_applies : (headSpec (Jvm.Cond.code x code maxLocals ret :: tables_1) room_1).applies x e0.platform about1 = true :=
  (Spec.applies_iff w_frames).mpr ⟨w_running, w_runnable, w_alone, w_named, w_hears, w_ripe, w_room, w_tables⟩
theorem atStart : AtStart classFile x code maxLocals ret World_1 tables_1 room_1 Calls_1 rest_1 Pre_1 launch0 p0 e0 about1 theMethod args0 below0 :=
  ⟨lists_1, trivial, launch0.admits_env _ _ _, launch0.least_env, fairChoices_fair.cas, fairChoices_fair.clock, w_frames, w_args, w_heap, w_applies, ⟨w_consts, trivial⟩, w_rest, w_case⟩
end start1
theorem witness_1 : WitnessClaimed_1 := ⟨start1.p0, start1.e0, start1.about1, start1.theMethod, start1.args0, start1.below0, start1.atStart⟩
end Jvm.Pilot.@@N@@
