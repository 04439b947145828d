import JvmDerived
import JvmDerived.Pilot.@@N@@Statement
import JvmDerived.Pilot.@@N@@Code
set_option linter.unusedVariables false
set_option linter.unusedSimpArgs false
namespace Jvm.Pilot.@@N@@
open Jvm Jvm.ClassFile Sem Op Lib Jvm.Free Jvm.Stand Jvm.LawKit Jvm.RoadKit Bundle Jvm.Pilot.@@N@@.Jvm.D
def own_G (p : Program) (e : Env) (below : List Frame) (C : State → Outcome → Prop) (A : State) : Prop := ∃ (t : State) (o : Outcome), Steps p.tables e below A t ∧ C t o
theorem own_st {p : Program} {e : Env} {below : List Frame} {C : State → Outcome → Prop} {A B : State} (k : ∀ t, Steps p.tables e below B t → Steps p.tables e below A t) (h : own_G p e below C B) : own_G p e below C A := by
  obtain ⟨t, o, h1, h2⟩ := h
  exact ⟨t, o, k t h1, h2⟩
abbrev own_b (c : Bool) : Int32 := bif c then 1 else 0
theorem own_nb (c : Bool) : narrow .boolean (.int (own_b c)) = .int (own_b c) := by cases c <;> rfl
theorem own_b_ne {c : Bool} : (own_b c = 0) ↔ c = false := by cases c <;> decide
def own_lim (g ro un di : Int64) : Int64 := if un + di < g - ro then ro + un + di else g
def own_fits (g ro dr us un di b d : Int64) : Bool := !decide (g - us < b) && !decide (ro - (us - un - di) < b - d) && !decide (dr - di < d)
def own_Inv (l us un di : Int64) : Prop := 0 ≤ un.toInt ∧ 0 ≤ di.toInt ∧ un.toInt + di.toInt ≤ us.toInt ∧ us.toInt ≤ l.toInt
theorem own_i0 : (0 : Int64).toInt = 0 := by decide
theorem own_add {a b : Int64} (h1 : 0 ≤ a.toInt) (h2 : 0 ≤ b.toInt) (h3 : a.toInt + b.toInt < 9223372036854775808) : (a + b).toInt = a.toInt + b.toInt := by
  rw [Int64.toInt_add, Int.bmod_eq_of_le] <;> omega
theorem own_sub {a b : Int64} (h1 : 0 ≤ b.toInt) (h2 : 0 ≤ a.toInt) : (a - b).toInt = a.toInt - b.toInt := by
  have h3 := a.toInt_lt; have h4 := b.toInt_lt
  rw [Int64.toInt_sub, Int.bmod_eq_of_le] <;> omega
theorem own_inv0 {l : Int64} (hl : 1 ≤ l.toInt) : own_Inv l 0 0 0 := by
  unfold own_Inv; rw [own_i0]; omega
theorem own_inv_lim {l us un di : Int64} (h : own_Inv l us un di) : own_lim l l un di = l := by
  obtain ⟨h1, h2, h3, h4⟩ := h
  have h5 := l.toInt_lt
  have e1 := own_add h1 h2 (by omega)
  have e2 : (l - l).toInt = 0 := by rw [own_sub (by omega) (by omega)]; omega
  unfold own_lim
  rw [if_neg]
  rw [Int64.lt_iff_toInt_lt, e1, e2]; omega
theorem own_inv_us {l us un di : Int64} (h : own_Inv l us un di) : ¬ l < us := by
  obtain ⟨h1, h2, h3, h4⟩ := h
  rw [Int64.lt_iff_toInt_lt]; omega
theorem own_inv_res {l us un di b d : Int64} (h : own_Inv l us un di) (hd : 0 ≤ d.toInt) (hb : d.toInt ≤ b.toInt) (hf : own_fits l l l us un di b d = true) : own_Inv l (us + b) un (di + d) ∧ (us + b).toInt = us.toInt + b.toInt ∧ (di + d).toInt = di.toInt + d.toInt := by
  obtain ⟨h1, h2, h3, h4⟩ := h
  have h5 := l.toInt_lt
  simp only [own_fits, Bool.and_eq_true, Bool.not_eq_true', decide_eq_false_iff_not, Int64.lt_iff_toInt_lt] at hf
  obtain ⟨⟨f1, -⟩, f3⟩ := hf
  rw [own_sub (by omega) (by omega)] at f1 f3
  have e1 := own_add (a := us) (b := b) (by omega) (by omega) (by omega)
  have e2 := own_add (a := di) (b := d) (by omega) (by omega) (by omega)
  unfold own_Inv
  rw [e1, e2]
  refine ⟨⟨?_, ?_, ?_, ?_⟩, rfl, rfl⟩ <;> omega
theorem own_made {l us un di : Int64} (h : own_Inv l us un di) : (us - un - di).toInt = us.toInt - un.toInt - di.toInt := by
  obtain ⟨h1, h2, h3, h4⟩ := h
  have e1 := own_sub (a := us) (b := un) (by omega) (by omega)
  rw [own_sub (by omega) (by omega), e1]
theorem own_inv_un {l us un di m : Int64} (h : own_Inv l us un di) (h0 : 0 ≤ m.toInt) (hm : m.toInt ≤ us.toInt - un.toInt - di.toInt) : own_Inv l us (un + m) di := by
  obtain ⟨h1, h2, h3, h4⟩ := h
  have h5 := us.toInt_lt
  have e1 := own_add (a := un) (b := m) (by omega) (by omega) (by omega)
  unfold own_Inv
  rw [e1]
  refine ⟨?_, ?_, ?_, ?_⟩ <;> omega
theorem own_mask (q : Int64) : 0 ≤ (q &&& (9223372036854775807 : Int64)).toInt := by
  have h : (q &&& (9223372036854775807 : Int64)).toBitVec = q.toBitVec &&& 9223372036854775807#64 := by rw [Int64.toBitVec_and]; rfl
  have e : (q &&& (9223372036854775807 : Int64)).toInt = (q &&& (9223372036854775807 : Int64)).toBitVec.toInt := rfl
  rw [e, h, BitVec.toInt_eq_toNat_cond]
  have h2 : (q.toBitVec &&& 9223372036854775807#64).toNat ≤ 9223372036854775807 := by
    rw [BitVec.toNat_and]; exact Nat.le_trans Nat.and_le_right (by decide)
  split <;> omega
theorem own_mask62 (q : Int64) : 0 ≤ (q &&& (4611686018427387903 : Int64)).toInt ∧ (q &&& (4611686018427387903 : Int64)).toInt ≤ 4611686018427387903 := by
  have h : (q &&& (4611686018427387903 : Int64)).toBitVec = q.toBitVec &&& 4611686018427387903#64 := by rw [Int64.toBitVec_and]; rfl
  have e : (q &&& (4611686018427387903 : Int64)).toInt = (q &&& (4611686018427387903 : Int64)).toBitVec.toInt := rfl
  rw [e, h, BitVec.toInt_eq_toNat_cond]
  have h2 : (q.toBitVec &&& 4611686018427387903#64).toNat ≤ 4611686018427387903 := by
    rw [BitVec.toNat_and]; exact Nat.le_trans Nat.and_le_right (by decide)
  split <;> omega
theorem own_rem {x l : Int64} (hx : 0 ≤ x.toInt) (hl : 1 ≤ l.toInt) : 0 ≤ (x - (x / l) * l).toInt ∧ (x - (x / l) * l).toInt ≤ x.toInt := by
  have hlt := x.toInt_lt
  have e1 : (x / l).toInt = x.toInt / l.toInt := by
    rw [Int64.toInt_div, Int.tdiv_eq_ediv_of_nonneg hx]
    have q1 : 0 ≤ x.toInt / l.toInt := Int.ediv_nonneg hx (by omega)
    have q2 : x.toInt / l.toInt ≤ x.toInt := Int.ediv_le_self _ hx
    rw [Int.bmod_eq_of_le] <;> omega
  have q1 : 0 ≤ x.toInt / l.toInt := Int.ediv_nonneg hx (by omega)
  have q3 : 0 ≤ (x.toInt / l.toInt) * l.toInt := Int.mul_nonneg q1 (by omega)
  have q4 : (x.toInt / l.toInt) * l.toInt ≤ x.toInt := Int.ediv_mul_le _ (by omega)
  have e2 : ((x / l) * l).toInt = (x.toInt / l.toInt) * l.toInt := by
    rw [Int64.toInt_mul, e1, Int.bmod_eq_of_le] <;> omega
  rw [own_sub (by omega) hx, e2]
  omega
theorem own_max1 (x : Int64) : 1 ≤ (if (1 : Int64) < x then x else 1).toInt := by
  split
  · rename_i h; rw [Int64.lt_iff_toInt_lt] at h; have : (1 : Int64).toInt = 1 := by decide
    omega
  · decide
theorem own_min {u r : Int64} (hu : 0 ≤ u.toInt) (hr : 0 ≤ r.toInt) : 0 ≤ (if r < u then r else u).toInt ∧ (if r < u then r else u).toInt ≤ r.toInt := by
  split
  · omega
  · rename_i h; rw [Int64.lt_iff_toInt_lt] at h; omega
theorem own_256 {c : Int64} (h0 : 0 ≤ c.toInt) (h1 : c.toInt ≤ 4611686018427387903) : (c + 256).toInt = c.toInt + 256 := by
  have : (256 : Int64).toInt = 256 := by decide
  rw [own_add h0 (by omega) (by omega), this]
theorem own_nlt {a b : Int64} (h : b.toInt ≤ a.toInt) : ¬ a < b := by rw [Int64.lt_iff_toInt_lt]; omega
def own_MB (Z : State) (h : Heap) (a : Addr) (g : Int64) (ro : Int64) (dr : Int64) (me : Value) (us : Int64) (un : Int64) (di : Int64) (pk : Int64) : Prop := Exa Z h a "com/example/tidejoin/tidejoin/budget/MemoryBudget" ∧ Fld Z h a "com/example/tidejoin/tidejoin/budget/MemoryBudget" "given" "J" (.long g) ∧ Fld Z h a "com/example/tidejoin/tidejoin/budget/MemoryBudget" "room" "J" (.long ro) ∧ Fld Z h a "com/example/tidejoin/tidejoin/budget/MemoryBudget" "directRoom" "J" (.long dr) ∧ Fld Z h a "com/example/tidejoin/tidejoin/budget/MemoryBudget" "memory" "Lcom/example/tidejoin/tidejoin/budget/JvmMemory;" me ∧ Fld Z h a "com/example/tidejoin/tidejoin/budget/MemoryBudget" "used" "J" (.long us) ∧ Fld Z h a "com/example/tidejoin/tidejoin/budget/MemoryBudget" "unmade" "J" (.long un) ∧ Fld Z h a "com/example/tidejoin/tidejoin/budget/MemoryBudget" "direct" "J" (.long di) ∧ Fld Z h a "com/example/tidejoin/tidejoin/budget/MemoryBudget" "peak" "J" (.long pk)
theorem own_MB.put_given {Z : State} {a0 : Array Value} (hw : ∀ d ∈ tables_1, d.before a0 Z = true) {h h' : Heap} {a : Addr} {g : Int64} {ro : Int64} {dr : Int64} {me : Value} {us : Int64} {un : Int64} {di : Int64} {pk : Int64} {y : Int64} (G : own_MB Z h a g ro dr me us un di pk) (W : Wr h h' a (Jvm.RoadKit.slotOf Z "com/example/tidejoin/tidejoin/budget/MemoryBudget" "given" "J") (.long y)) : own_MB Z h' a y ro dr me us un di pk := by
  obtain ⟨E, F0, F1, F2, F3, F4, F5, F6, F7⟩ := G
  exact ⟨E.wr W, F0.same W, F1.other W (Or.inr (slot_ne (Or.inr (hw _ (List.mem_of_getElem? (i := 20) rfl))) (Or.inr (hw _ (List.mem_of_getElem? (i := 18) rfl))) (by decide) (t := .long) (t' := .long) (by decide) (by decide))), F2.other W (Or.inr (slot_ne (Or.inr (hw _ (List.mem_of_getElem? (i := 22) rfl))) (Or.inr (hw _ (List.mem_of_getElem? (i := 18) rfl))) (by decide) (t := .long) (t' := .long) (by decide) (by decide))), F3.other W (Or.inr (slot_ne (Or.inr (hw _ (List.mem_of_getElem? (i := 24) rfl))) (Or.inr (hw _ (List.mem_of_getElem? (i := 18) rfl))) (by decide) (t := (.object "com/example/tidejoin/tidejoin/budget/JvmMemory")) (t' := .long) (by decide) (by decide))), F4.other W (Or.inr (slot_ne (Or.inl (hw _ (List.mem_of_getElem? (i := 49) rfl))) (Or.inr (hw _ (List.mem_of_getElem? (i := 18) rfl))) (by decide) (t := .long) (t' := .long) (by decide) (by decide))), F5.other W (Or.inr (slot_ne (Or.inl (hw _ (List.mem_of_getElem? (i := 35) rfl))) (Or.inr (hw _ (List.mem_of_getElem? (i := 18) rfl))) (by decide) (t := .long) (t' := .long) (by decide) (by decide))), F6.other W (Or.inr (slot_ne (Or.inl (hw _ (List.mem_of_getElem? (i := 37) rfl))) (Or.inr (hw _ (List.mem_of_getElem? (i := 18) rfl))) (by decide) (t := .long) (t' := .long) (by decide) (by decide))), F7.other W (Or.inr (slot_ne (Or.inl (hw _ (List.mem_of_getElem? (i := 72) rfl))) (Or.inr (hw _ (List.mem_of_getElem? (i := 18) rfl))) (by decide) (t := .long) (t' := .long) (by decide) (by decide)))⟩
theorem own_MB.put_room {Z : State} {a0 : Array Value} (hw : ∀ d ∈ tables_1, d.before a0 Z = true) {h h' : Heap} {a : Addr} {g : Int64} {ro : Int64} {dr : Int64} {me : Value} {us : Int64} {un : Int64} {di : Int64} {pk : Int64} {y : Int64} (G : own_MB Z h a g ro dr me us un di pk) (W : Wr h h' a (Jvm.RoadKit.slotOf Z "com/example/tidejoin/tidejoin/budget/MemoryBudget" "room" "J") (.long y)) : own_MB Z h' a g y dr me us un di pk := by
  obtain ⟨E, F0, F1, F2, F3, F4, F5, F6, F7⟩ := G
  exact ⟨E.wr W, F0.other W (Or.inr (slot_ne (Or.inr (hw _ (List.mem_of_getElem? (i := 18) rfl))) (Or.inr (hw _ (List.mem_of_getElem? (i := 20) rfl))) (by decide) (t := .long) (t' := .long) (by decide) (by decide))), F1.same W, F2.other W (Or.inr (slot_ne (Or.inr (hw _ (List.mem_of_getElem? (i := 22) rfl))) (Or.inr (hw _ (List.mem_of_getElem? (i := 20) rfl))) (by decide) (t := .long) (t' := .long) (by decide) (by decide))), F3.other W (Or.inr (slot_ne (Or.inr (hw _ (List.mem_of_getElem? (i := 24) rfl))) (Or.inr (hw _ (List.mem_of_getElem? (i := 20) rfl))) (by decide) (t := (.object "com/example/tidejoin/tidejoin/budget/JvmMemory")) (t' := .long) (by decide) (by decide))), F4.other W (Or.inr (slot_ne (Or.inl (hw _ (List.mem_of_getElem? (i := 49) rfl))) (Or.inr (hw _ (List.mem_of_getElem? (i := 20) rfl))) (by decide) (t := .long) (t' := .long) (by decide) (by decide))), F5.other W (Or.inr (slot_ne (Or.inl (hw _ (List.mem_of_getElem? (i := 35) rfl))) (Or.inr (hw _ (List.mem_of_getElem? (i := 20) rfl))) (by decide) (t := .long) (t' := .long) (by decide) (by decide))), F6.other W (Or.inr (slot_ne (Or.inl (hw _ (List.mem_of_getElem? (i := 37) rfl))) (Or.inr (hw _ (List.mem_of_getElem? (i := 20) rfl))) (by decide) (t := .long) (t' := .long) (by decide) (by decide))), F7.other W (Or.inr (slot_ne (Or.inl (hw _ (List.mem_of_getElem? (i := 72) rfl))) (Or.inr (hw _ (List.mem_of_getElem? (i := 20) rfl))) (by decide) (t := .long) (t' := .long) (by decide) (by decide)))⟩
theorem own_MB.put_directRoom {Z : State} {a0 : Array Value} (hw : ∀ d ∈ tables_1, d.before a0 Z = true) {h h' : Heap} {a : Addr} {g : Int64} {ro : Int64} {dr : Int64} {me : Value} {us : Int64} {un : Int64} {di : Int64} {pk : Int64} {y : Int64} (G : own_MB Z h a g ro dr me us un di pk) (W : Wr h h' a (Jvm.RoadKit.slotOf Z "com/example/tidejoin/tidejoin/budget/MemoryBudget" "directRoom" "J") (.long y)) : own_MB Z h' a g ro y me us un di pk := by
  obtain ⟨E, F0, F1, F2, F3, F4, F5, F6, F7⟩ := G
  exact ⟨E.wr W, F0.other W (Or.inr (slot_ne (Or.inr (hw _ (List.mem_of_getElem? (i := 18) rfl))) (Or.inr (hw _ (List.mem_of_getElem? (i := 22) rfl))) (by decide) (t := .long) (t' := .long) (by decide) (by decide))), F1.other W (Or.inr (slot_ne (Or.inr (hw _ (List.mem_of_getElem? (i := 20) rfl))) (Or.inr (hw _ (List.mem_of_getElem? (i := 22) rfl))) (by decide) (t := .long) (t' := .long) (by decide) (by decide))), F2.same W, F3.other W (Or.inr (slot_ne (Or.inr (hw _ (List.mem_of_getElem? (i := 24) rfl))) (Or.inr (hw _ (List.mem_of_getElem? (i := 22) rfl))) (by decide) (t := (.object "com/example/tidejoin/tidejoin/budget/JvmMemory")) (t' := .long) (by decide) (by decide))), F4.other W (Or.inr (slot_ne (Or.inl (hw _ (List.mem_of_getElem? (i := 49) rfl))) (Or.inr (hw _ (List.mem_of_getElem? (i := 22) rfl))) (by decide) (t := .long) (t' := .long) (by decide) (by decide))), F5.other W (Or.inr (slot_ne (Or.inl (hw _ (List.mem_of_getElem? (i := 35) rfl))) (Or.inr (hw _ (List.mem_of_getElem? (i := 22) rfl))) (by decide) (t := .long) (t' := .long) (by decide) (by decide))), F6.other W (Or.inr (slot_ne (Or.inl (hw _ (List.mem_of_getElem? (i := 37) rfl))) (Or.inr (hw _ (List.mem_of_getElem? (i := 22) rfl))) (by decide) (t := .long) (t' := .long) (by decide) (by decide))), F7.other W (Or.inr (slot_ne (Or.inl (hw _ (List.mem_of_getElem? (i := 72) rfl))) (Or.inr (hw _ (List.mem_of_getElem? (i := 22) rfl))) (by decide) (t := .long) (t' := .long) (by decide) (by decide)))⟩
theorem own_MB.put_memory {Z : State} {a0 : Array Value} (hw : ∀ d ∈ tables_1, d.before a0 Z = true) {h h' : Heap} {a : Addr} {g : Int64} {ro : Int64} {dr : Int64} {me : Value} {us : Int64} {un : Int64} {di : Int64} {pk : Int64} {y : Value} (G : own_MB Z h a g ro dr me us un di pk) (W : Wr h h' a (Jvm.RoadKit.slotOf Z "com/example/tidejoin/tidejoin/budget/MemoryBudget" "memory" "Lcom/example/tidejoin/tidejoin/budget/JvmMemory;") y) : own_MB Z h' a g ro dr y us un di pk := by
  obtain ⟨E, F0, F1, F2, F3, F4, F5, F6, F7⟩ := G
  exact ⟨E.wr W, F0.other W (Or.inr (slot_ne (Or.inr (hw _ (List.mem_of_getElem? (i := 18) rfl))) (Or.inr (hw _ (List.mem_of_getElem? (i := 24) rfl))) (by decide) (t := .long) (t' := (.object "com/example/tidejoin/tidejoin/budget/JvmMemory")) (by decide) (by decide))), F1.other W (Or.inr (slot_ne (Or.inr (hw _ (List.mem_of_getElem? (i := 20) rfl))) (Or.inr (hw _ (List.mem_of_getElem? (i := 24) rfl))) (by decide) (t := .long) (t' := (.object "com/example/tidejoin/tidejoin/budget/JvmMemory")) (by decide) (by decide))), F2.other W (Or.inr (slot_ne (Or.inr (hw _ (List.mem_of_getElem? (i := 22) rfl))) (Or.inr (hw _ (List.mem_of_getElem? (i := 24) rfl))) (by decide) (t := .long) (t' := (.object "com/example/tidejoin/tidejoin/budget/JvmMemory")) (by decide) (by decide))), F3.same W, F4.other W (Or.inr (slot_ne (Or.inl (hw _ (List.mem_of_getElem? (i := 49) rfl))) (Or.inr (hw _ (List.mem_of_getElem? (i := 24) rfl))) (by decide) (t := .long) (t' := (.object "com/example/tidejoin/tidejoin/budget/JvmMemory")) (by decide) (by decide))), F5.other W (Or.inr (slot_ne (Or.inl (hw _ (List.mem_of_getElem? (i := 35) rfl))) (Or.inr (hw _ (List.mem_of_getElem? (i := 24) rfl))) (by decide) (t := .long) (t' := (.object "com/example/tidejoin/tidejoin/budget/JvmMemory")) (by decide) (by decide))), F6.other W (Or.inr (slot_ne (Or.inl (hw _ (List.mem_of_getElem? (i := 37) rfl))) (Or.inr (hw _ (List.mem_of_getElem? (i := 24) rfl))) (by decide) (t := .long) (t' := (.object "com/example/tidejoin/tidejoin/budget/JvmMemory")) (by decide) (by decide))), F7.other W (Or.inr (slot_ne (Or.inl (hw _ (List.mem_of_getElem? (i := 72) rfl))) (Or.inr (hw _ (List.mem_of_getElem? (i := 24) rfl))) (by decide) (t := .long) (t' := (.object "com/example/tidejoin/tidejoin/budget/JvmMemory")) (by decide) (by decide)))⟩
theorem own_MB.put_used {Z : State} {a0 : Array Value} (hw : ∀ d ∈ tables_1, d.before a0 Z = true) {h h' : Heap} {a : Addr} {g : Int64} {ro : Int64} {dr : Int64} {me : Value} {us : Int64} {un : Int64} {di : Int64} {pk : Int64} {y : Int64} (G : own_MB Z h a g ro dr me us un di pk) (W : Wr h h' a (Jvm.RoadKit.slotOf Z "com/example/tidejoin/tidejoin/budget/MemoryBudget" "used" "J") (.long y)) : own_MB Z h' a g ro dr me y un di pk := by
  obtain ⟨E, F0, F1, F2, F3, F4, F5, F6, F7⟩ := G
  exact ⟨E.wr W, F0.other W (Or.inr (slot_ne (Or.inr (hw _ (List.mem_of_getElem? (i := 18) rfl))) (Or.inl (hw _ (List.mem_of_getElem? (i := 49) rfl))) (by decide) (t := .long) (t' := .long) (by decide) (by decide))), F1.other W (Or.inr (slot_ne (Or.inr (hw _ (List.mem_of_getElem? (i := 20) rfl))) (Or.inl (hw _ (List.mem_of_getElem? (i := 49) rfl))) (by decide) (t := .long) (t' := .long) (by decide) (by decide))), F2.other W (Or.inr (slot_ne (Or.inr (hw _ (List.mem_of_getElem? (i := 22) rfl))) (Or.inl (hw _ (List.mem_of_getElem? (i := 49) rfl))) (by decide) (t := .long) (t' := .long) (by decide) (by decide))), F3.other W (Or.inr (slot_ne (Or.inr (hw _ (List.mem_of_getElem? (i := 24) rfl))) (Or.inl (hw _ (List.mem_of_getElem? (i := 49) rfl))) (by decide) (t := (.object "com/example/tidejoin/tidejoin/budget/JvmMemory")) (t' := .long) (by decide) (by decide))), F4.same W, F5.other W (Or.inr (slot_ne (Or.inl (hw _ (List.mem_of_getElem? (i := 35) rfl))) (Or.inl (hw _ (List.mem_of_getElem? (i := 49) rfl))) (by decide) (t := .long) (t' := .long) (by decide) (by decide))), F6.other W (Or.inr (slot_ne (Or.inl (hw _ (List.mem_of_getElem? (i := 37) rfl))) (Or.inl (hw _ (List.mem_of_getElem? (i := 49) rfl))) (by decide) (t := .long) (t' := .long) (by decide) (by decide))), F7.other W (Or.inr (slot_ne (Or.inl (hw _ (List.mem_of_getElem? (i := 72) rfl))) (Or.inl (hw _ (List.mem_of_getElem? (i := 49) rfl))) (by decide) (t := .long) (t' := .long) (by decide) (by decide)))⟩
theorem own_MB.put_unmade {Z : State} {a0 : Array Value} (hw : ∀ d ∈ tables_1, d.before a0 Z = true) {h h' : Heap} {a : Addr} {g : Int64} {ro : Int64} {dr : Int64} {me : Value} {us : Int64} {un : Int64} {di : Int64} {pk : Int64} {y : Int64} (G : own_MB Z h a g ro dr me us un di pk) (W : Wr h h' a (Jvm.RoadKit.slotOf Z "com/example/tidejoin/tidejoin/budget/MemoryBudget" "unmade" "J") (.long y)) : own_MB Z h' a g ro dr me us y di pk := by
  obtain ⟨E, F0, F1, F2, F3, F4, F5, F6, F7⟩ := G
  exact ⟨E.wr W, F0.other W (Or.inr (slot_ne (Or.inr (hw _ (List.mem_of_getElem? (i := 18) rfl))) (Or.inl (hw _ (List.mem_of_getElem? (i := 35) rfl))) (by decide) (t := .long) (t' := .long) (by decide) (by decide))), F1.other W (Or.inr (slot_ne (Or.inr (hw _ (List.mem_of_getElem? (i := 20) rfl))) (Or.inl (hw _ (List.mem_of_getElem? (i := 35) rfl))) (by decide) (t := .long) (t' := .long) (by decide) (by decide))), F2.other W (Or.inr (slot_ne (Or.inr (hw _ (List.mem_of_getElem? (i := 22) rfl))) (Or.inl (hw _ (List.mem_of_getElem? (i := 35) rfl))) (by decide) (t := .long) (t' := .long) (by decide) (by decide))), F3.other W (Or.inr (slot_ne (Or.inr (hw _ (List.mem_of_getElem? (i := 24) rfl))) (Or.inl (hw _ (List.mem_of_getElem? (i := 35) rfl))) (by decide) (t := (.object "com/example/tidejoin/tidejoin/budget/JvmMemory")) (t' := .long) (by decide) (by decide))), F4.other W (Or.inr (slot_ne (Or.inl (hw _ (List.mem_of_getElem? (i := 49) rfl))) (Or.inl (hw _ (List.mem_of_getElem? (i := 35) rfl))) (by decide) (t := .long) (t' := .long) (by decide) (by decide))), F5.same W, F6.other W (Or.inr (slot_ne (Or.inl (hw _ (List.mem_of_getElem? (i := 37) rfl))) (Or.inl (hw _ (List.mem_of_getElem? (i := 35) rfl))) (by decide) (t := .long) (t' := .long) (by decide) (by decide))), F7.other W (Or.inr (slot_ne (Or.inl (hw _ (List.mem_of_getElem? (i := 72) rfl))) (Or.inl (hw _ (List.mem_of_getElem? (i := 35) rfl))) (by decide) (t := .long) (t' := .long) (by decide) (by decide)))⟩
theorem own_MB.put_direct {Z : State} {a0 : Array Value} (hw : ∀ d ∈ tables_1, d.before a0 Z = true) {h h' : Heap} {a : Addr} {g : Int64} {ro : Int64} {dr : Int64} {me : Value} {us : Int64} {un : Int64} {di : Int64} {pk : Int64} {y : Int64} (G : own_MB Z h a g ro dr me us un di pk) (W : Wr h h' a (Jvm.RoadKit.slotOf Z "com/example/tidejoin/tidejoin/budget/MemoryBudget" "direct" "J") (.long y)) : own_MB Z h' a g ro dr me us un y pk := by
  obtain ⟨E, F0, F1, F2, F3, F4, F5, F6, F7⟩ := G
  exact ⟨E.wr W, F0.other W (Or.inr (slot_ne (Or.inr (hw _ (List.mem_of_getElem? (i := 18) rfl))) (Or.inl (hw _ (List.mem_of_getElem? (i := 37) rfl))) (by decide) (t := .long) (t' := .long) (by decide) (by decide))), F1.other W (Or.inr (slot_ne (Or.inr (hw _ (List.mem_of_getElem? (i := 20) rfl))) (Or.inl (hw _ (List.mem_of_getElem? (i := 37) rfl))) (by decide) (t := .long) (t' := .long) (by decide) (by decide))), F2.other W (Or.inr (slot_ne (Or.inr (hw _ (List.mem_of_getElem? (i := 22) rfl))) (Or.inl (hw _ (List.mem_of_getElem? (i := 37) rfl))) (by decide) (t := .long) (t' := .long) (by decide) (by decide))), F3.other W (Or.inr (slot_ne (Or.inr (hw _ (List.mem_of_getElem? (i := 24) rfl))) (Or.inl (hw _ (List.mem_of_getElem? (i := 37) rfl))) (by decide) (t := (.object "com/example/tidejoin/tidejoin/budget/JvmMemory")) (t' := .long) (by decide) (by decide))), F4.other W (Or.inr (slot_ne (Or.inl (hw _ (List.mem_of_getElem? (i := 49) rfl))) (Or.inl (hw _ (List.mem_of_getElem? (i := 37) rfl))) (by decide) (t := .long) (t' := .long) (by decide) (by decide))), F5.other W (Or.inr (slot_ne (Or.inl (hw _ (List.mem_of_getElem? (i := 35) rfl))) (Or.inl (hw _ (List.mem_of_getElem? (i := 37) rfl))) (by decide) (t := .long) (t' := .long) (by decide) (by decide))), F6.same W, F7.other W (Or.inr (slot_ne (Or.inl (hw _ (List.mem_of_getElem? (i := 72) rfl))) (Or.inl (hw _ (List.mem_of_getElem? (i := 37) rfl))) (by decide) (t := .long) (t' := .long) (by decide) (by decide)))⟩
theorem own_MB.put_peak {Z : State} {a0 : Array Value} (hw : ∀ d ∈ tables_1, d.before a0 Z = true) {h h' : Heap} {a : Addr} {g : Int64} {ro : Int64} {dr : Int64} {me : Value} {us : Int64} {un : Int64} {di : Int64} {pk : Int64} {y : Int64} (G : own_MB Z h a g ro dr me us un di pk) (W : Wr h h' a (Jvm.RoadKit.slotOf Z "com/example/tidejoin/tidejoin/budget/MemoryBudget" "peak" "J") (.long y)) : own_MB Z h' a g ro dr me us un di y := by
  obtain ⟨E, F0, F1, F2, F3, F4, F5, F6, F7⟩ := G
  exact ⟨E.wr W, F0.other W (Or.inr (slot_ne (Or.inr (hw _ (List.mem_of_getElem? (i := 18) rfl))) (Or.inl (hw _ (List.mem_of_getElem? (i := 72) rfl))) (by decide) (t := .long) (t' := .long) (by decide) (by decide))), F1.other W (Or.inr (slot_ne (Or.inr (hw _ (List.mem_of_getElem? (i := 20) rfl))) (Or.inl (hw _ (List.mem_of_getElem? (i := 72) rfl))) (by decide) (t := .long) (t' := .long) (by decide) (by decide))), F2.other W (Or.inr (slot_ne (Or.inr (hw _ (List.mem_of_getElem? (i := 22) rfl))) (Or.inl (hw _ (List.mem_of_getElem? (i := 72) rfl))) (by decide) (t := .long) (t' := .long) (by decide) (by decide))), F3.other W (Or.inr (slot_ne (Or.inr (hw _ (List.mem_of_getElem? (i := 24) rfl))) (Or.inl (hw _ (List.mem_of_getElem? (i := 72) rfl))) (by decide) (t := (.object "com/example/tidejoin/tidejoin/budget/JvmMemory")) (t' := .long) (by decide) (by decide))), F4.other W (Or.inr (slot_ne (Or.inl (hw _ (List.mem_of_getElem? (i := 49) rfl))) (Or.inl (hw _ (List.mem_of_getElem? (i := 72) rfl))) (by decide) (t := .long) (t' := .long) (by decide) (by decide))), F5.other W (Or.inr (slot_ne (Or.inl (hw _ (List.mem_of_getElem? (i := 35) rfl))) (Or.inl (hw _ (List.mem_of_getElem? (i := 72) rfl))) (by decide) (t := .long) (t' := .long) (by decide) (by decide))), F6.other W (Or.inr (slot_ne (Or.inl (hw _ (List.mem_of_getElem? (i := 37) rfl))) (Or.inl (hw _ (List.mem_of_getElem? (i := 72) rfl))) (by decide) (t := .long) (t' := .long) (by decide) (by decide))), F7.same W⟩
theorem own_MB.ext {Z : State} {h h' : Heap} {a : Addr} {g : Int64} {ro : Int64} {dr : Int64} {me : Value} {us : Int64} {un : Int64} {di : Int64} {pk : Int64} (G : own_MB Z h a g ro dr me us un di pk) (E' : Ext h h') : own_MB Z h' a g ro dr me us un di pk := by
  obtain ⟨E, F0, F1, F2, F3, F4, F5, F6, F7⟩ := G
  exact ⟨E.ext E', F0.ext E', F1.ext E', F2.ext E', F3.ext E', F4.ext E', F5.ext E', F6.ext E', F7.ext E'⟩
theorem own_MB.keep {Z : State} {h h' : Heap} {a : Addr} {ws : List Addr} {g : Int64} {ro : Int64} {dr : Int64} {me : Value} {us : Int64} {un : Int64} {di : Int64} {pk : Int64} (G : own_MB Z h a g ro dr me us un di pk) (K : Keep h h' ws) (hn : a ∉ ws) : own_MB Z h' a g ro dr me us un di pk := by
  obtain ⟨E, F0, F1, F2, F3, F4, F5, F6, F7⟩ := G
  exact ⟨E.keep K, F0.keep K hn, F1.keep K hn, F2.keep K hn, F3.keep K hn, F4.keep K hn, F5.keep K hn, F6.keep K hn, F7.keep K hn⟩
theorem own_MB.new {Z : State} {a0 : Array Value} (hw : ∀ d ∈ tables_1, d.before a0 Z = true) {h : Heap} {a : Addr} (A : Exa Z h a "com/example/tidejoin/tidejoin/budget/MemoryBudget") (D : ∀ {O nm d : String} {ty : FieldType}, Laid Z a0 "com/example/tidejoin/tidejoin/budget/MemoryBudget" O nm d → parseFieldDescriptor d = some ty → Fld Z h a O nm d (defaultValue ty)) : own_MB Z h a 0 0 0 .null 0 0 0 0 :=
  ⟨A, D (Or.inr (hw _ (List.mem_of_getElem? (i := 18) rfl))) (ty := .long) (by decide), D (Or.inr (hw _ (List.mem_of_getElem? (i := 20) rfl))) (ty := .long) (by decide), D (Or.inr (hw _ (List.mem_of_getElem? (i := 22) rfl))) (ty := .long) (by decide), D (Or.inr (hw _ (List.mem_of_getElem? (i := 24) rfl))) (ty := (.object "com/example/tidejoin/tidejoin/budget/JvmMemory")) (by decide), D (Or.inl (hw _ (List.mem_of_getElem? (i := 49) rfl))) (ty := .long) (by decide), D (Or.inl (hw _ (List.mem_of_getElem? (i := 35) rfl))) (ty := .long) (by decide), D (Or.inl (hw _ (List.mem_of_getElem? (i := 37) rfl))) (ty := .long) (by decide), D (Or.inl (hw _ (List.mem_of_getElem? (i := 72) rfl))) (ty := .long) (by decide)⟩
theorem d1_0 : decode jdk_29_method_66_code 0 = .ok (.lload_n 0, 1) := by decide +kernel
theorem d1_1 : decode jdk_29_method_66_code 1 = .ok (.lload_n 2, 1) := by decide +kernel
theorem d1_2 : decode jdk_29_method_66_code 2 = .ok (.lcmp, 1) := by decide +kernel
theorem d1_3 : decode jdk_29_method_66_code 3 = .ok (.ifCond .lt 7, 3) := by decide +kernel
theorem d1_6 : decode jdk_29_method_66_code 6 = .ok (.lload_n 0, 1) := by decide +kernel
theorem d1_7 : decode jdk_29_method_66_code 7 = .ok (.goto 4, 3) := by decide +kernel
theorem d1_10 : decode jdk_29_method_66_code 10 = .ok (.lload_n 2, 1) := by decide +kernel
theorem d1_11 : decode jdk_29_method_66_code 11 = .ok (.lreturn, 1) := by decide +kernel
theorem ef_1 (m : MethodId) (x0 : Int64) (x1 : Int64) : entryFrame m #[(.long x0), (.long x1)] 4 = mkF m 0 #[.val (.long x0), .second, .val (.long x1), .second] [] := by first | (simp [entryFrame, mkF, argsToLocals, Value.category]; done) | rfl
def Q1 (Z : State) (q0 : Int64) (q1 : Int64) (h0 : Heap) (n0 : Nat) (v : Option Value) (h : Heap) (L : List Loc) : Prop := v = some (.long (if q0 < q1 then q1 else q0)) ∧ Fr n0 L ∧ h = h0
set_option maxRecDepth 65536 in
set_option maxHeartbeats 40000000 in
theorem rm1 (l : Launch) (Z : State) (a0 : Array Value) (hw : ∀ d ∈ tables_1, d.before a0 Z = true) (ws : List Jvm.Cond) (q0 : Int64) (q1 : Int64) (h0 : Heap) (n0 : Nat) (Z0 : n0 ≤ h0.size) :
    MetFree l (⟨"java/lang/Math", "max", "(JJ)J"⟩ : MethodName) (head1 (Jvm.Cond.code (⟨"java/lang/Math", "max", "(JJ)J"⟩ : MethodName) jdk_29_method_66_code 4 (some .long) :: ws) ({ frames := 0, cells := 0, slots := 0, locals := 0 } : Room)) (fun a U => a = #[(.long q0), (.long q1)] ∧ Z.Warmed39 U.vm ∧ U.heap = h0) (fun _ _ _ _ _ => True) (fun _ U o U' => ∃ v L, o = .returned v ∧ Q1 Z q0 q1 h0 n0 v U'.heap L ∧ FrameEnd U o U' L ({ frames := 0, cells := 0, slots := 0, locals := 0 } : Room).cells ({ frames := 0, cells := 0, slots := 0, locals := 0 } : Room).slots) := by
  refine MetFree.of_bodySF (Jvm.Free.JP.mathPlain rfl (by decide +kernel)) hisR ?_
  intro p e s m args below meth c s₁ Bd hml0 hP hK
  obtain ⟨rfl, hZ, hh⟩ := hP
  have hx := Bd.exec
  have hby := Bd.bytes
  have hml : c.maxLocals = 4 := hml0
  have hown : s.vm.findClass "java/lang/Math" = some m.cls := findClass_of_methodNamed Bd.named
  have hnm := (name_of_methodNamed Bd.named Bd.method).1
  have X0 : Stand p l e ({ frames := 0, cells := 0, slots := 0, locals := 0 } : Room) s m #[(.long q0), (.long q1)] below meth c s₁ [] 0 0 := Stand.of_body Bd
  have e0 : s₁.heap = h0 := by rw [← hh, Bd.state]; rfl
  have N0 := Fr.nil n0
  show own_G p e below (fun (t : State) (o : Outcome) => t.status = .running ∧ Ended t below o ∧ ∃ v L, o = .returned v ∧ Q1 Z q0 q1 h0 n0 v t.heap L ∧ FrameEnd s o t L ({ frames := 0, cells := 0, slots := 0, locals := 0 } : Room).cells ({ frames := 0, cells := 0, slots := 0, locals := 0 } : Room).slots) (s₁.setTop (entryFrame m #[(.long q0), (.long q1)] 4))
  rw [ef_1 m q0 q1]
  refine own_st (B := s₁.setTop (mkF m 3 #[.val (.long q0), .second, .val (.long q1), .second] [(.int (lcmpW q0 q1))])) (fun t k => ?_) ?_
  · show Steps p.tables e below (s₁.setTop (mkF m 0 #[.val (.long q0), .second, .val (.long q1), .second] [])) _
    refine XS.lloadN X0.here hx rfl (hb hby d1_0) rfl ?_
    show Steps p.tables e below (s₁.setTop (mkF m 1 #[.val (.long q0), .second, .val (.long q1), .second] [(.long q0)])) _
    refine XS.lloadN X0.here hx rfl (hb hby d1_1) rfl ?_
    show Steps p.tables e below (s₁.setTop (mkF m 2 #[.val (.long q0), .second, .val (.long q1), .second] [(.long q1), (.long q0)])) _
    refine XS.lcmp X0.here hx rfl (hb hby d1_2) rfl ?_
    exact k
  by_cases h3 : q0 < q1
  · refine own_st (B := s₁.setTop (mkF m 11 #[.val (.long q0), .second, .val (.long q1), .second] [(.long q1)])) (fun t k => ?_) ?_
    · show Steps p.tables e below (s₁.setTop (mkF m 3 #[.val (.long q0), .second, .val (.long q1), .second] [(.int (lcmpW q0 q1))])) _
      refine XS.ifYes X0.here hx rfl (pc0 := 3) (pc' := 10) rfl (hb hby d1_3) rfl ((if0 _ _).trans (tlt ((lw_lt _ _).mpr h3)).1) (by decide) (by decide) ?_
      show Steps p.tables e below (s₁.setTop (mkF m 10 #[.val (.long q0), .second, .val (.long q1), .second] [])) _
      refine XS.lloadN X0.here hx rfl (hb hby d1_10) rfl ?_
      exact k
    obtain ⟨fs, hr, hrun, hended, hW, hsame⟩ := X0.leave (v := some (.long q1)) (fun h => by rw [Bd.returns] at h; cases h)
    refine ⟨_, _, ?_, hrun, hended, _, _, rfl, ?_, ⟨_, rfl⟩, hW, hsame.mono (by decide) (by decide)⟩
    · exact retOut X0 hx Bd.returns rfl (Or.inr (Or.inl ⟨rfl, rfl, _, rfl⟩)) (hb hby d1_11) hr
    · show Q1 Z q0 q1 h0 n0 _ s₁.heap _
      rw [e0]
      exact ⟨by rw [if_pos h3], N0, rfl⟩
  · refine own_st (B := s₁.setTop (mkF m 11 #[.val (.long q0), .second, .val (.long q1), .second] [(.long q0)])) (fun t k => ?_) ?_
    · show Steps p.tables e below (s₁.setTop (mkF m 3 #[.val (.long q0), .second, .val (.long q1), .second] [(.int (lcmpW q0 q1))])) _
      refine XS.ifNo X0.here hx rfl (hb hby d1_3) rfl ((if0 _ _).trans (flt (fun q => h3 ((lw_lt _ _).mp q))).1) ?_
      show Steps p.tables e below (s₁.setTop (mkF m 6 #[.val (.long q0), .second, .val (.long q1), .second] [])) _
      refine XS.lloadN X0.here hx rfl (hb hby d1_6) rfl ?_
      show Steps p.tables e below (s₁.setTop (mkF m 7 #[.val (.long q0), .second, .val (.long q1), .second] [(.long q0)])) _
      refine XS.goto X0.here hx rfl (pc0 := 7) (pc' := 11) rfl (hb hby d1_7) (by decide) (by decide) ?_
      exact k
    obtain ⟨fs, hr, hrun, hended, hW, hsame⟩ := X0.leave (v := some (.long q0)) (fun h => by rw [Bd.returns] at h; cases h)
    refine ⟨_, _, ?_, hrun, hended, _, _, rfl, ?_, ⟨_, rfl⟩, hW, hsame.mono (by decide) (by decide)⟩
    · exact retOut X0 hx Bd.returns rfl (Or.inr (Or.inl ⟨rfl, rfl, _, rfl⟩)) (hb hby d1_11) hr
    · show Q1 Z q0 q1 h0 n0 _ s₁.heap _
      rw [e0]
      exact ⟨by rw [if_neg h3], N0, rfl⟩
theorem d14_0 : decode jdk_29_method_70_code 0 = .ok (.lload_n 0, 1) := by decide +kernel
theorem d14_1 : decode jdk_29_method_70_code 1 = .ok (.lload_n 2, 1) := by decide +kernel
theorem d14_2 : decode jdk_29_method_70_code 2 = .ok (.lcmp, 1) := by decide +kernel
theorem d14_3 : decode jdk_29_method_70_code 3 = .ok (.ifCond .gt 7, 3) := by decide +kernel
theorem d14_6 : decode jdk_29_method_70_code 6 = .ok (.lload_n 0, 1) := by decide +kernel
theorem d14_7 : decode jdk_29_method_70_code 7 = .ok (.goto 4, 3) := by decide +kernel
theorem d14_10 : decode jdk_29_method_70_code 10 = .ok (.lload_n 2, 1) := by decide +kernel
theorem d14_11 : decode jdk_29_method_70_code 11 = .ok (.lreturn, 1) := by decide +kernel
theorem ef_14 (m : MethodId) (x0 : Int64) (x1 : Int64) : entryFrame m #[(.long x0), (.long x1)] 4 = mkF m 0 #[.val (.long x0), .second, .val (.long x1), .second] [] := by first | (simp [entryFrame, mkF, argsToLocals, Value.category]; done) | rfl
def Q14 (Z : State) (q0 : Int64) (q1 : Int64) (h0 : Heap) (n0 : Nat) (v : Option Value) (h : Heap) (L : List Loc) : Prop := v = some (.long (if q1 < q0 then q1 else q0)) ∧ Fr n0 L ∧ h = h0
set_option maxRecDepth 65536 in
set_option maxHeartbeats 40000000 in
theorem rm14 (l : Launch) (Z : State) (a0 : Array Value) (hw : ∀ d ∈ tables_1, d.before a0 Z = true) (ws : List Jvm.Cond) (q0 : Int64) (q1 : Int64) (h0 : Heap) (n0 : Nat) (Z0 : n0 ≤ h0.size) :
    MetFree l (⟨"java/lang/Math", "min", "(JJ)J"⟩ : MethodName) (head1 (Jvm.Cond.code (⟨"java/lang/Math", "min", "(JJ)J"⟩ : MethodName) jdk_29_method_70_code 4 (some .long) :: ws) ({ frames := 0, cells := 0, slots := 0, locals := 0 } : Room)) (fun a U => a = #[(.long q0), (.long q1)] ∧ Z.Warmed39 U.vm ∧ U.heap = h0) (fun _ _ _ _ _ => True) (fun _ U o U' => ∃ v L, o = .returned v ∧ Q14 Z q0 q1 h0 n0 v U'.heap L ∧ FrameEnd U o U' L ({ frames := 0, cells := 0, slots := 0, locals := 0 } : Room).cells ({ frames := 0, cells := 0, slots := 0, locals := 0 } : Room).slots) := by
  refine MetFree.of_bodySF (Jvm.Free.JP.mathPlain rfl (by decide +kernel)) hisR ?_
  intro p e s m args below meth c s₁ Bd hml0 hP hK
  obtain ⟨rfl, hZ, hh⟩ := hP
  have hx := Bd.exec
  have hby := Bd.bytes
  have hml : c.maxLocals = 4 := hml0
  have hown : s.vm.findClass "java/lang/Math" = some m.cls := findClass_of_methodNamed Bd.named
  have hnm := (name_of_methodNamed Bd.named Bd.method).1
  have X0 : Stand p l e ({ frames := 0, cells := 0, slots := 0, locals := 0 } : Room) s m #[(.long q0), (.long q1)] below meth c s₁ [] 0 0 := Stand.of_body Bd
  have e0 : s₁.heap = h0 := by rw [← hh, Bd.state]; rfl
  have N0 := Fr.nil n0
  show own_G p e below (fun (t : State) (o : Outcome) => t.status = .running ∧ Ended t below o ∧ ∃ v L, o = .returned v ∧ Q14 Z q0 q1 h0 n0 v t.heap L ∧ FrameEnd s o t L ({ frames := 0, cells := 0, slots := 0, locals := 0 } : Room).cells ({ frames := 0, cells := 0, slots := 0, locals := 0 } : Room).slots) (s₁.setTop (entryFrame m #[(.long q0), (.long q1)] 4))
  rw [ef_14 m q0 q1]
  refine own_st (B := s₁.setTop (mkF m 3 #[.val (.long q0), .second, .val (.long q1), .second] [(.int (lcmpW q0 q1))])) (fun t k => ?_) ?_
  · show Steps p.tables e below (s₁.setTop (mkF m 0 #[.val (.long q0), .second, .val (.long q1), .second] [])) _
    refine XS.lloadN X0.here hx rfl (hb hby d14_0) rfl ?_
    show Steps p.tables e below (s₁.setTop (mkF m 1 #[.val (.long q0), .second, .val (.long q1), .second] [(.long q0)])) _
    refine XS.lloadN X0.here hx rfl (hb hby d14_1) rfl ?_
    show Steps p.tables e below (s₁.setTop (mkF m 2 #[.val (.long q0), .second, .val (.long q1), .second] [(.long q1), (.long q0)])) _
    refine XS.lcmp X0.here hx rfl (hb hby d14_2) rfl ?_
    exact k
  by_cases h3 : q1 < q0
  · refine own_st (B := s₁.setTop (mkF m 11 #[.val (.long q0), .second, .val (.long q1), .second] [(.long q1)])) (fun t k => ?_) ?_
    · show Steps p.tables e below (s₁.setTop (mkF m 3 #[.val (.long q0), .second, .val (.long q1), .second] [(.int (lcmpW q0 q1))])) _
      refine XS.ifYes X0.here hx rfl (pc0 := 3) (pc' := 10) rfl (hb hby d14_3) rfl ((if0 _ _).trans (tlt ((lw_gt _ _).mpr h3)).2.2.1) (by decide) (by decide) ?_
      show Steps p.tables e below (s₁.setTop (mkF m 10 #[.val (.long q0), .second, .val (.long q1), .second] [])) _
      refine XS.lloadN X0.here hx rfl (hb hby d14_10) rfl ?_
      exact k
    obtain ⟨fs, hr, hrun, hended, hW, hsame⟩ := X0.leave (v := some (.long q1)) (fun h => by rw [Bd.returns] at h; cases h)
    refine ⟨_, _, ?_, hrun, hended, _, _, rfl, ?_, ⟨_, rfl⟩, hW, hsame.mono (by decide) (by decide)⟩
    · exact retOut X0 hx Bd.returns rfl (Or.inr (Or.inl ⟨rfl, rfl, _, rfl⟩)) (hb hby d14_11) hr
    · show Q14 Z q0 q1 h0 n0 _ s₁.heap _
      rw [e0]
      exact ⟨by rw [if_pos h3], N0, rfl⟩
  · refine own_st (B := s₁.setTop (mkF m 11 #[.val (.long q0), .second, .val (.long q1), .second] [(.long q0)])) (fun t k => ?_) ?_
    · show Steps p.tables e below (s₁.setTop (mkF m 3 #[.val (.long q0), .second, .val (.long q1), .second] [(.int (lcmpW q0 q1))])) _
      refine XS.ifNo X0.here hx rfl (hb hby d14_3) rfl ((if0 _ _).trans (flt (fun q => h3 ((lw_gt _ _).mp q))).2.2.1) ?_
      show Steps p.tables e below (s₁.setTop (mkF m 6 #[.val (.long q0), .second, .val (.long q1), .second] [])) _
      refine XS.lloadN X0.here hx rfl (hb hby d14_6) rfl ?_
      show Steps p.tables e below (s₁.setTop (mkF m 7 #[.val (.long q0), .second, .val (.long q1), .second] [(.long q0)])) _
      refine XS.goto X0.here hx rfl (pc0 := 7) (pc' := 11) rfl (hb hby d14_7) (by decide) (by decide) ?_
      exact k
    obtain ⟨fs, hr, hrun, hended, hW, hsame⟩ := X0.leave (v := some (.long q0)) (fun h => by rw [Bd.returns] at h; cases h)
    refine ⟨_, _, ?_, hrun, hended, _, _, rfl, ?_, ⟨_, rfl⟩, hW, hsame.mono (by decide) (by decide)⟩
    · exact retOut X0 hx Bd.returns rfl (Or.inr (Or.inl ⟨rfl, rfl, _, rfl⟩)) (hb hby d14_11) hr
    · show Q14 Z q0 q1 h0 n0 _ s₁.heap _
      rw [e0]
      exact ⟨by rw [if_neg h3], N0, rfl⟩
theorem d3_0 : decode prog_8_method_2_code 0 = .ok (.aload_n 0, 1) := by decide +kernel
theorem d3_1 : decode prog_8_method_2_code 1 = .ok (.invokespecial 7, 3) := by decide +kernel
theorem d3_4 : decode prog_8_method_2_code 4 = .ok (.lload_n 1, 1) := by decide +kernel
theorem d3_5 : decode prog_8_method_2_code 5 = .ok (.lconst 1, 1) := by decide +kernel
theorem d3_6 : decode prog_8_method_2_code 6 = .ok (.lcmp, 1) := by decide +kernel
theorem d3_7 : decode prog_8_method_2_code 7 = .ok (.ifCond .ge 17, 3) := by decide +kernel
theorem d3_10 : decode prog_8_method_2_code 10 = .ok (.new 12, 3) := by decide +kernel
theorem d3_13 : decode prog_8_method_2_code 13 = .ok (.dup, 1) := by decide +kernel
theorem d3_14 : decode prog_8_method_2_code 14 = .ok (.lload_n 1, 1) := by decide +kernel
theorem d3_20 : decode prog_8_method_2_code 20 = .ok (.invokespecial 18, 3) := by decide +kernel
theorem d3_23 : decode prog_8_method_2_code 23 = .ok (.athrow, 1) := by decide +kernel
theorem d3_24 : decode prog_8_method_2_code 24 = .ok (.aload_n 0, 1) := by decide +kernel
theorem d3_25 : decode prog_8_method_2_code 25 = .ok (.lload_n 1, 1) := by decide +kernel
theorem d3_26 : decode prog_8_method_2_code 26 = .ok (.putfield 21, 3) := by decide +kernel
theorem d3_29 : decode prog_8_method_2_code 29 = .ok (.aload_n 0, 1) := by decide +kernel
theorem d3_30 : decode prog_8_method_2_code 30 = .ok (.aload_n 3, 1) := by decide +kernel
theorem d3_31 : decode prog_8_method_2_code 31 = .ok (.ifnonnull 7, 3) := by decide +kernel
theorem d3_34 : decode prog_8_method_2_code 34 = .ok (.lload_n 1, 1) := by decide +kernel
theorem d3_35 : decode prog_8_method_2_code 35 = .ok (.goto 11, 3) := by decide +kernel
theorem d3_38 : decode prog_8_method_2_code 38 = .ok (.lload_n 1, 1) := by decide +kernel
theorem d3_39 : decode prog_8_method_2_code 39 = .ok (.aload_n 3, 1) := by decide +kernel
theorem d3_40 : decode prog_8_method_2_code 40 = .ok (.invokevirtual 25, 3) := by decide +kernel
theorem d3_43 : decode prog_8_method_2_code 43 = .ok (.invokestatic 31, 3) := by decide +kernel
theorem d3_46 : decode prog_8_method_2_code 46 = .ok (.putfield 37, 3) := by decide +kernel
theorem d3_49 : decode prog_8_method_2_code 49 = .ok (.aload_n 0, 1) := by decide +kernel
theorem d3_50 : decode prog_8_method_2_code 50 = .ok (.aload_n 3, 1) := by decide +kernel
theorem d3_51 : decode prog_8_method_2_code 51 = .ok (.ifnonnull 7, 3) := by decide +kernel
theorem d3_54 : decode prog_8_method_2_code 54 = .ok (.lload_n 1, 1) := by decide +kernel
theorem d3_55 : decode prog_8_method_2_code 55 = .ok (.goto 11, 3) := by decide +kernel
theorem d3_58 : decode prog_8_method_2_code 58 = .ok (.lload_n 1, 1) := by decide +kernel
theorem d3_59 : decode prog_8_method_2_code 59 = .ok (.aload_n 3, 1) := by decide +kernel
theorem d3_60 : decode prog_8_method_2_code 60 = .ok (.invokevirtual 39, 3) := by decide +kernel
theorem d3_63 : decode prog_8_method_2_code 63 = .ok (.invokestatic 31, 3) := by decide +kernel
theorem d3_66 : decode prog_8_method_2_code 66 = .ok (.putfield 42, 3) := by decide +kernel
theorem d3_69 : decode prog_8_method_2_code 69 = .ok (.aload_n 0, 1) := by decide +kernel
theorem d3_70 : decode prog_8_method_2_code 70 = .ok (.aload_n 3, 1) := by decide +kernel
theorem d3_71 : decode prog_8_method_2_code 71 = .ok (.putfield 44, 3) := by decide +kernel
theorem d3_74 : decode prog_8_method_2_code 74 = .ok (.return_, 1) := by decide +kernel
theorem pn_3 : plainName "com/example/tidejoin/tidejoin/budget/MemoryBudget" = true := by first | (simp [plainName, overriddenIn]; done) | decide +kernel
theorem ef_3 (m : MethodId) (x0 : Addr) (x1 : Int64) : entryFrame m #[(.ref x0), (.long x1), .null] 4 = mkF m 0 #[.val (.ref x0), .val (.long x1), .second, .val .null] [] := by first | (simp [entryFrame, mkF, argsToLocals, Value.category]; done) | rfl
def Q3 (Z : State) (r0 : Addr) (q1 : Int64) (h0 : Heap) (n0 : Nat) (v : Option Value) (h : Heap) (L : List Loc) : Prop := v = none ∧ Fr n0 L ∧ Keep h0 h [r0] ∧ own_MB Z h r0 q1 q1 q1 .null 0 0 0 0
set_option maxRecDepth 65536 in
set_option maxHeartbeats 40000000 in
theorem rm3 (l : Launch) (Z : State) (a0 : Array Value) (hw : ∀ d ∈ tables_1, d.before a0 Z = true) (ws : List Jvm.Cond) (r0 : Addr) (q1 : Int64) (h0 : Heap) (n0 : Nat) (Z0 : n0 ≤ h0.size) (G : own_MB Z h0 r0 0 0 0 .null 0 0 0 0) (ge : n0 ≤ r0) (hq : ¬ q1 < 1) :
    MetFree l (⟨"com/example/tidejoin/tidejoin/budget/MemoryBudget", "<init>", "(JLcom/example/tidejoin/tidejoin/budget/JvmMemory;)V"⟩ : MethodName) (head1 (Jvm.Cond.code (⟨"com/example/tidejoin/tidejoin/budget/MemoryBudget", "<init>", "(JLcom/example/tidejoin/tidejoin/budget/JvmMemory;)V"⟩ : MethodName) prog_8_method_2_code 4 none :: ws) ({ frames := 1, cells := 0, slots := 0, locals := 12 } : Room)) (fun a U => a = #[(.ref r0), (.long q1), .null] ∧ Z.Warmed39 U.vm ∧ U.heap = h0) (fun _ _ _ _ _ => True) (fun _ U o U' => ∃ v L, o = .returned v ∧ Q3 Z r0 q1 h0 n0 v U'.heap L ∧ FrameEnd U o U' L ({ frames := 1, cells := 0, slots := 0, locals := 12 } : Room).cells ({ frames := 1, cells := 0, slots := 0, locals := 12 } : Room).slots) := by
  refine MetFree.of_bodySF (plainFor_of_name pn_3) hisR ?_
  intro p e s m args below meth c s₁ Bd hml0 hP hK
  obtain ⟨rfl, hZ, hh⟩ := hP
  have hx := Bd.exec
  have hby := Bd.bytes
  have hml : c.maxLocals = 4 := hml0
  have hown : s.vm.findClass "com/example/tidejoin/tidejoin/budget/MemoryBudget" = some m.cls := findClass_of_methodNamed Bd.named
  have hnm := (name_of_methodNamed Bd.named Bd.method).1
  have X0 : Stand p l e ({ frames := 1, cells := 0, slots := 0, locals := 12 } : Room) s m #[(.ref r0), (.long q1), .null] below meth c s₁ [] 0 0 := Stand.of_body Bd
  have e0 : s₁.heap = h0 := by rw [← hh, Bd.state]; rfl
  have N0 := Fr.nil n0
  show own_G p e below (fun (t : State) (o : Outcome) => t.status = .running ∧ Ended t below o ∧ ∃ v L, o = .returned v ∧ Q3 Z r0 q1 h0 n0 v t.heap L ∧ FrameEnd s o t L ({ frames := 1, cells := 0, slots := 0, locals := 12 } : Room).cells ({ frames := 1, cells := 0, slots := 0, locals := 12 } : Room).slots) (s₁.setTop (entryFrame m #[(.ref r0), (.long q1), .null] 4))
  rw [ef_3 m r0 q1]
  have K := Keep.refl h0 [r0]
  refine own_st (B := s₁.setTop (mkF m 1 #[.val (.ref r0), .val (.long q1), .second, .val .null] [(.ref r0)])) (fun t k => ?_) ?_
  · show Steps p.tables e below (s₁.setTop (mkF m 0 #[.val (.ref r0), .val (.long q1), .second, .val .null] [])) _
    refine XS.aloadN X0.here hx rfl (hb hby d3_0) rfl rfl ?_
    exact k
  obtain ⟨T1, X1, e1, st1⟩ := initO X0 hx hZ hown (hw _ (List.mem_of_getElem? (i := 14) rfl)) (hw _ (List.mem_of_getElem? (i := 15) rfl)) (hw _ (List.mem_of_getElem? (i := 16) rfl)) e0 (g := (mkF m 1 #[.val (.ref r0), .val (.long q1), .second, .val .null] [(.ref r0)])) rfl (by rw [hml]; rfl) rfl (hb hby d3_1) (by decide) (W := 0) (by show 2 * 0 + _ ≤ _; exact Nat.le_of_eq rfl) (by decide)
  refine own_st (B := T1.setTop (mkF m 4 #[.val (.ref r0), .val (.long q1), .second, .val .null] [])) (fun t k => st1 t k) ?_
  refine own_st (B := T1.setTop (mkF m 7 #[.val (.ref r0), .val (.long q1), .second, .val .null] [(.int (lcmpW q1 (1 : Int64)))])) (fun t k => ?_) ?_
  · show Steps p.tables e below (T1.setTop (mkF m 4 #[.val (.ref r0), .val (.long q1), .second, .val .null] [])) _
    refine XS.lloadN X1.here hx rfl (hb hby d3_4) rfl ?_
    show Steps p.tables e below (T1.setTop (mkF m 5 #[.val (.ref r0), .val (.long q1), .second, .val .null] [(.long q1)])) _
    refine XS.lconst X1.here hx rfl (hb hby d3_5) ?_
    show Steps p.tables e below (T1.setTop (mkF m 6 #[.val (.ref r0), .val (.long q1), .second, .val .null] [(.long (1 : Int64)), (.long q1)])) _
    refine XS.lcmp X1.here hx rfl (hb hby d3_6) rfl ?_
    exact k
  refine own_st (B := T1.setTop (mkF m 26 #[.val (.ref r0), .val (.long q1), .second, .val .null] [(.long q1), (.ref r0)])) (fun t k => ?_) ?_
  · show Steps p.tables e below (T1.setTop (mkF m 7 #[.val (.ref r0), .val (.long q1), .second, .val .null] [(.int (lcmpW q1 (1 : Int64)))])) _
    refine XS.ifYes X1.here hx rfl (pc0 := 7) (pc' := 24) rfl (hb hby d3_7) rfl ((if0 _ _).trans (flt (fun q => hq ((lw_lt _ _).mp q))).2.1) (by decide) (by decide) ?_
    show Steps p.tables e below (T1.setTop (mkF m 24 #[.val (.ref r0), .val (.long q1), .second, .val .null] [])) _
    refine XS.aloadN X1.here hx rfl (hb hby d3_24) rfl rfl ?_
    show Steps p.tables e below (T1.setTop (mkF m 25 #[.val (.ref r0), .val (.long q1), .second, .val .null] [(.ref r0)])) _
    refine XS.lloadN X1.here hx rfl (hb hby d3_25) rfl ?_
    exact k
  obtain ⟨T2, h2, X2, e2, W2, st2⟩ := putF X1 hx hZ hown (host := "") (Or.inl (hw _ (List.mem_of_getElem? (i := 17) rfl))) Via.refl e1 G.2.1 G.1 (Or.inr ⟨(hw _ (List.mem_of_getElem? (i := 18) rfl)), rfl, hnm⟩) (hw _ (List.mem_of_getElem? (i := 6) rfl)) (ty := .long) (by decide) rfl rfl (g := (mkF m 26 #[.val (.ref r0), .val (.long q1), .second, .val .null] [(.long q1), (.ref r0)])) rfl rfl (hb hby d3_26)
  refine own_st (B := T2.setTop (mkF m 29 #[.val (.ref r0), .val (.long q1), .second, .val .null] [])) (fun t k => st2 t k) ?_
  have N2 := Fr.snoc X2 N0 ge
  have Gs2 := G.put_given hw W2
  have Ks2 : Keep h0 h2 [r0] := K.wr W2 (Or.inl (List.mem_of_getElem? (i := 0) rfl))
  refine own_st (B := T2.setTop (mkF m 46 #[.val (.ref r0), .val (.long q1), .second, .val .null] [(.long q1), (.ref r0)])) (fun t k => ?_) ?_
  · show Steps p.tables e below (T2.setTop (mkF m 29 #[.val (.ref r0), .val (.long q1), .second, .val .null] [])) _
    refine XS.aloadN X2.here hx rfl (hb hby d3_29) rfl rfl ?_
    show Steps p.tables e below (T2.setTop (mkF m 30 #[.val (.ref r0), .val (.long q1), .second, .val .null] [(.ref r0)])) _
    refine XS.aloadN X2.here hx rfl (hb hby d3_30) rfl rfl ?_
    show Steps p.tables e below (T2.setTop (mkF m 31 #[.val (.ref r0), .val (.long q1), .second, .val .null] [.null, (.ref r0)])) _
    refine XS.ifnonnullNo X2.here hx rfl (hb hby d3_31) rfl ?_
    show Steps p.tables e below (T2.setTop (mkF m 34 #[.val (.ref r0), .val (.long q1), .second, .val .null] [(.ref r0)])) _
    refine XS.lloadN X2.here hx rfl (hb hby d3_34) rfl ?_
    show Steps p.tables e below (T2.setTop (mkF m 35 #[.val (.ref r0), .val (.long q1), .second, .val .null] [(.long q1), (.ref r0)])) _
    refine XS.goto X2.here hx rfl (pc0 := 35) (pc' := 46) rfl (hb hby d3_35) (by decide) (by decide) ?_
    exact k
  obtain ⟨T3, h3, X3, e3, W3, st3⟩ := putF X2 hx hZ hown (host := "") (Or.inl (hw _ (List.mem_of_getElem? (i := 19) rfl))) Via.refl e2 Gs2.2.2.1 Gs2.1 (Or.inr ⟨(hw _ (List.mem_of_getElem? (i := 20) rfl)), rfl, hnm⟩) (hw _ (List.mem_of_getElem? (i := 6) rfl)) (ty := .long) (by decide) rfl rfl (g := (mkF m 46 #[.val (.ref r0), .val (.long q1), .second, .val .null] [(.long q1), (.ref r0)])) rfl rfl (hb hby d3_46)
  refine own_st (B := T3.setTop (mkF m 49 #[.val (.ref r0), .val (.long q1), .second, .val .null] [])) (fun t k => st3 t k) ?_
  have N3 := Fr.snoc X3 N2 ge
  have Gs3 := Gs2.put_room hw W3
  have Ks3 : Keep h0 h3 [r0] := Ks2.wr W3 (Or.inl (List.mem_of_getElem? (i := 0) rfl))
  refine own_st (B := T3.setTop (mkF m 66 #[.val (.ref r0), .val (.long q1), .second, .val .null] [(.long q1), (.ref r0)])) (fun t k => ?_) ?_
  · show Steps p.tables e below (T3.setTop (mkF m 49 #[.val (.ref r0), .val (.long q1), .second, .val .null] [])) _
    refine XS.aloadN X3.here hx rfl (hb hby d3_49) rfl rfl ?_
    show Steps p.tables e below (T3.setTop (mkF m 50 #[.val (.ref r0), .val (.long q1), .second, .val .null] [(.ref r0)])) _
    refine XS.aloadN X3.here hx rfl (hb hby d3_50) rfl rfl ?_
    show Steps p.tables e below (T3.setTop (mkF m 51 #[.val (.ref r0), .val (.long q1), .second, .val .null] [.null, (.ref r0)])) _
    refine XS.ifnonnullNo X3.here hx rfl (hb hby d3_51) rfl ?_
    show Steps p.tables e below (T3.setTop (mkF m 54 #[.val (.ref r0), .val (.long q1), .second, .val .null] [(.ref r0)])) _
    refine XS.lloadN X3.here hx rfl (hb hby d3_54) rfl ?_
    show Steps p.tables e below (T3.setTop (mkF m 55 #[.val (.ref r0), .val (.long q1), .second, .val .null] [(.long q1), (.ref r0)])) _
    refine XS.goto X3.here hx rfl (pc0 := 55) (pc' := 66) rfl (hb hby d3_55) (by decide) (by decide) ?_
    exact k
  obtain ⟨T4, h4, X4, e4, W4, st4⟩ := putF X3 hx hZ hown (host := "") (Or.inl (hw _ (List.mem_of_getElem? (i := 21) rfl))) Via.refl e3 Gs3.2.2.2.1 Gs3.1 (Or.inr ⟨(hw _ (List.mem_of_getElem? (i := 22) rfl)), rfl, hnm⟩) (hw _ (List.mem_of_getElem? (i := 6) rfl)) (ty := .long) (by decide) rfl rfl (g := (mkF m 66 #[.val (.ref r0), .val (.long q1), .second, .val .null] [(.long q1), (.ref r0)])) rfl rfl (hb hby d3_66)
  refine own_st (B := T4.setTop (mkF m 69 #[.val (.ref r0), .val (.long q1), .second, .val .null] [])) (fun t k => st4 t k) ?_
  have N4 := Fr.snoc X4 N3 ge
  have Gs4 := Gs3.put_directRoom hw W4
  have Ks4 : Keep h0 h4 [r0] := Ks3.wr W4 (Or.inl (List.mem_of_getElem? (i := 0) rfl))
  refine own_st (B := T4.setTop (mkF m 71 #[.val (.ref r0), .val (.long q1), .second, .val .null] [.null, (.ref r0)])) (fun t k => ?_) ?_
  · show Steps p.tables e below (T4.setTop (mkF m 69 #[.val (.ref r0), .val (.long q1), .second, .val .null] [])) _
    refine XS.aloadN X4.here hx rfl (hb hby d3_69) rfl rfl ?_
    show Steps p.tables e below (T4.setTop (mkF m 70 #[.val (.ref r0), .val (.long q1), .second, .val .null] [(.ref r0)])) _
    refine XS.aloadN X4.here hx rfl (hb hby d3_70) rfl rfl ?_
    exact k
  obtain ⟨T5, h5, X5, e5, W5, st5⟩ := putF X4 hx hZ hown (host := "") (Or.inl (hw _ (List.mem_of_getElem? (i := 23) rfl))) Via.refl e4 Gs4.2.2.2.2.1 Gs4.1 (Or.inr ⟨(hw _ (List.mem_of_getElem? (i := 24) rfl)), rfl, hnm⟩) (hw _ (List.mem_of_getElem? (i := 6) rfl)) (ty := (.object "com/example/tidejoin/tidejoin/budget/JvmMemory")) (by decide) rfl rfl (g := (mkF m 71 #[.val (.ref r0), .val (.long q1), .second, .val .null] [.null, (.ref r0)])) rfl rfl (hb hby d3_71)
  refine own_st (B := T5.setTop (mkF m 74 #[.val (.ref r0), .val (.long q1), .second, .val .null] [])) (fun t k => st5 t k) ?_
  have N5 := Fr.snoc X5 N4 ge
  have Gs5 := Gs4.put_memory hw W5
  have Ks5 : Keep h0 h5 [r0] := Ks4.wr W5 (Or.inl (List.mem_of_getElem? (i := 0) rfl))
  obtain ⟨fs, hr, hrun, hended, hW, hsame⟩ := X5.leave (v := none) (fun _ => rfl)
  refine ⟨_, _, ?_, hrun, hended, _, _, rfl, ?_, ⟨_, rfl⟩, hW, hsame.mono (by decide) (by decide)⟩
  · exact X5.returnOut hx Bd.returns (hb hby d3_74) hr
  · show Q3 Z r0 q1 h0 n0 _ T5.heap _
    rw [e5]
    exact ⟨rfl, N5, Ks5, Gs5⟩
theorem d2_0 : decode prog_8_method_1_code 0 = .ok (.aload_n 0, 1) := by decide +kernel
theorem d2_1 : decode prog_8_method_1_code 1 = .ok (.lload_n 1, 1) := by decide +kernel
theorem d2_2 : decode prog_8_method_1_code 2 = .ok (.aconst_null, 1) := by decide +kernel
theorem d2_3 : decode prog_8_method_1_code 3 = .ok (.invokespecial 1, 3) := by decide +kernel
theorem d2_6 : decode prog_8_method_1_code 6 = .ok (.return_, 1) := by decide +kernel
theorem ef_2 (m : MethodId) (x0 : Addr) (x1 : Int64) : entryFrame m #[(.ref x0), (.long x1)] 3 = mkF m 0 #[.val (.ref x0), .val (.long x1), .second] [] := by first | (simp [entryFrame, mkF, argsToLocals, Value.category]; done) | rfl
def Q2 (Z : State) (r0 : Addr) (q1 : Int64) (h0 : Heap) (n0 : Nat) (v : Option Value) (h : Heap) (L : List Loc) : Prop := v = none ∧ Fr n0 L ∧ Keep h0 h [r0] ∧ own_MB Z h r0 q1 q1 q1 .null 0 0 0 0
theorem pd_0 : parseMethodDescriptor "(JLcom/example/tidejoin/tidejoin/budget/JvmMemory;)V" = some ⟨[.long, (.object "com/example/tidejoin/tidejoin/budget/JvmMemory")], none⟩ := by decide +kernel
set_option maxRecDepth 65536 in
set_option maxHeartbeats 40000000 in
theorem rm2 (l : Launch) (Z : State) (a0 : Array Value) (hw : ∀ d ∈ tables_1, d.before a0 Z = true) (ws : List Jvm.Cond) (r0 : Addr) (q1 : Int64) (h0 : Heap) (n0 : Nat) (Z0 : n0 ≤ h0.size) (G : own_MB Z h0 r0 0 0 0 .null 0 0 0 0) (ge : n0 ≤ r0) (hq : ¬ q1 < 1) :
    MetFree l (⟨"com/example/tidejoin/tidejoin/budget/MemoryBudget", "<init>", "(J)V"⟩ : MethodName) (head1 (Jvm.Cond.code (⟨"com/example/tidejoin/tidejoin/budget/MemoryBudget", "<init>", "(J)V"⟩ : MethodName) prog_8_method_1_code 3 none :: ws) ({ frames := 2, cells := 0, slots := 0, locals := 27 } : Room)) (fun a U => a = #[(.ref r0), (.long q1)] ∧ Z.Warmed39 U.vm ∧ U.heap = h0) (fun _ _ _ _ _ => True) (fun _ U o U' => ∃ v L, o = .returned v ∧ Q2 Z r0 q1 h0 n0 v U'.heap L ∧ FrameEnd U o U' L ({ frames := 2, cells := 0, slots := 0, locals := 27 } : Room).cells ({ frames := 2, cells := 0, slots := 0, locals := 27 } : Room).slots) := by
  refine MetFree.of_bodySF (plainFor_of_name pn_3) hisR ?_
  intro p e s m args below meth c s₁ Bd hml0 hP hK
  obtain ⟨rfl, hZ, hh⟩ := hP
  have hx := Bd.exec
  have hby := Bd.bytes
  have hml : c.maxLocals = 3 := hml0
  have hown : s.vm.findClass "com/example/tidejoin/tidejoin/budget/MemoryBudget" = some m.cls := findClass_of_methodNamed Bd.named
  have hnm := (name_of_methodNamed Bd.named Bd.method).1
  have X0 : Stand p l e ({ frames := 2, cells := 0, slots := 0, locals := 27 } : Room) s m #[(.ref r0), (.long q1)] below meth c s₁ [] 0 0 := Stand.of_body Bd
  have e0 : s₁.heap = h0 := by rw [← hh, Bd.state]; rfl
  have N0 := Fr.nil n0
  show own_G p e below (fun (t : State) (o : Outcome) => t.status = .running ∧ Ended t below o ∧ ∃ v L, o = .returned v ∧ Q2 Z r0 q1 h0 n0 v t.heap L ∧ FrameEnd s o t L ({ frames := 2, cells := 0, slots := 0, locals := 27 } : Room).cells ({ frames := 2, cells := 0, slots := 0, locals := 27 } : Room).slots) (s₁.setTop (entryFrame m #[(.ref r0), (.long q1)] 3))
  rw [ef_2 m r0 q1]
  refine own_st (B := s₁.setTop (mkF m 3 #[.val (.ref r0), .val (.long q1), .second] [.null, (.long q1), (.ref r0)])) (fun t k => ?_) ?_
  · show Steps p.tables e below (s₁.setTop (mkF m 0 #[.val (.ref r0), .val (.long q1), .second] [])) _
    refine XS.aloadN X0.here hx rfl (hb hby d2_0) rfl rfl ?_
    show Steps p.tables e below (s₁.setTop (mkF m 1 #[.val (.ref r0), .val (.long q1), .second] [(.ref r0)])) _
    refine XS.lloadN X0.here hx rfl (hb hby d2_1) rfl ?_
    show Steps p.tables e below (s₁.setTop (mkF m 2 #[.val (.ref r0), .val (.long q1), .second] [(.long q1), (.ref r0)])) _
    refine XS.aconstNull X0.here hx rfl (hb hby d2_2) ?_
    exact k
  obtain ⟨_, _, ⟨T1, L1, k1, n1⟩, -, X1, ⟨Lc1, hQ1, l1, y1, z1⟩, st1⟩ := X0.specialBack hx (y := (⟨"com/example/tidejoin/tidejoin/budget/MemoryBudget", "<init>", "(JLcom/example/tidejoin/tidejoin/budget/JvmMemory;)V"⟩ : MethodName)) rfl hown (mvT hZ (hw _ (List.mem_of_getElem? (i := 11) rfl))) (mvT hZ (hw _ (List.mem_of_getElem? (i := 12) rfl))) (mvT hZ (hw _ (List.mem_of_getElem? (i := 13) rfl))) (by decide) (backOf (W := 0) (rm3 l Z a0 hw [] r0 q1 h0 n0 Z0 G ge hq) hZ (hw _ (List.mem_of_getElem? (i := 13) rfl)) (hw _ (List.mem_of_getElem? (i := 7) rfl)) (by decide) (by decide)) (g := (mkF m 3 #[.val (.ref r0), .val (.long q1), .second] [.null, (.long q1), (.ref r0)])) rfl (by rw [hml]; rfl) (Steps.refl _) (a := r0) (argsL := [(.long q1), .null]) (rest := []) (lenOf pd_0 rfl) rfl (by show 2 * 0 + _ ≤ _; exact Nat.le_of_eq rfl) (hb hby d2_3) (fun _ _ => ⟨rfl, e0, (by decide : 0 + 0 ≤ _), (by decide : 0 + 0 ≤ _)⟩)
  dsimp only [Pt.U, Pt.locs, Pt.cells, Pt.slots] at X1 l1 y1 z1 st1 hQ1
  subst l1 y1 z1
  obtain ⟨rfl, N1q, K, G'⟩ := hQ1
  have N1 := Fr.app N0 N1q
  refine own_st (B := T1.setTop (mkF m 6 #[.val (.ref r0), .val (.long q1), .second] [])) (fun t k => st1.trans k) ?_
  obtain ⟨fs, hr, hrun, hended, hW, hsame⟩ := X1.leave (v := none) (fun _ => rfl)
  refine ⟨_, _, ?_, hrun, hended, _, _, rfl, ?_, ⟨_, rfl⟩, hW, hsame.mono (by decide) (by decide)⟩
  · exact X1.returnOut hx Bd.returns (hb hby d2_6) hr
  · show Q2 Z r0 q1 h0 n0 _ T1.heap _
    exact ⟨rfl, N1, K, G'⟩
theorem d6_0 : decode prog_8_method_4_code 0 = .ok (.aload_n 0, 1) := by decide +kernel
theorem d6_1 : decode prog_8_method_4_code 1 = .ok (.getfield 52, 3) := by decide +kernel
theorem d6_4 : decode prog_8_method_4_code 4 = .ok (.aload_n 0, 1) := by decide +kernel
theorem d6_5 : decode prog_8_method_4_code 5 = .ok (.getfield 55, 3) := by decide +kernel
theorem d6_8 : decode prog_8_method_4_code 8 = .ok (.ladd, 1) := by decide +kernel
theorem d6_9 : decode prog_8_method_4_code 9 = .ok (.aload_n 0, 1) := by decide +kernel
theorem d6_10 : decode prog_8_method_4_code 10 = .ok (.getfield 21, 3) := by decide +kernel
theorem d6_13 : decode prog_8_method_4_code 13 = .ok (.aload_n 0, 1) := by decide +kernel
theorem d6_14 : decode prog_8_method_4_code 14 = .ok (.getfield 37, 3) := by decide +kernel
theorem d6_17 : decode prog_8_method_4_code 17 = .ok (.lsub, 1) := by decide +kernel
theorem d6_18 : decode prog_8_method_4_code 18 = .ok (.lcmp, 1) := by decide +kernel
theorem d6_19 : decode prog_8_method_4_code 19 = .ok (.ifCond .lt 10, 3) := by decide +kernel
theorem d6_22 : decode prog_8_method_4_code 22 = .ok (.aload_n 0, 1) := by decide +kernel
theorem d6_23 : decode prog_8_method_4_code 23 = .ok (.getfield 21, 3) := by decide +kernel
theorem d6_26 : decode prog_8_method_4_code 26 = .ok (.goto 17, 3) := by decide +kernel
theorem d6_29 : decode prog_8_method_4_code 29 = .ok (.aload_n 0, 1) := by decide +kernel
theorem d6_30 : decode prog_8_method_4_code 30 = .ok (.getfield 37, 3) := by decide +kernel
theorem d6_33 : decode prog_8_method_4_code 33 = .ok (.aload_n 0, 1) := by decide +kernel
theorem d6_34 : decode prog_8_method_4_code 34 = .ok (.getfield 52, 3) := by decide +kernel
theorem d6_37 : decode prog_8_method_4_code 37 = .ok (.ladd, 1) := by decide +kernel
theorem d6_38 : decode prog_8_method_4_code 38 = .ok (.aload_n 0, 1) := by decide +kernel
theorem d6_39 : decode prog_8_method_4_code 39 = .ok (.getfield 55, 3) := by decide +kernel
theorem d6_42 : decode prog_8_method_4_code 42 = .ok (.ladd, 1) := by decide +kernel
theorem d6_43 : decode prog_8_method_4_code 43 = .ok (.lreturn, 1) := by decide +kernel
theorem ef_6 (m : MethodId) (x0 : Addr) : entryFrame m #[(.ref x0)] 1 = mkF m 0 #[.val (.ref x0)] [] := by first | (simp [entryFrame, mkF, argsToLocals, Value.category]; done) | rfl
def Q6 (Z : State) (r0 : Addr) (g : Int64) (ro : Int64) (dr : Int64) (me : Value) (us : Int64) (un : Int64) (di : Int64) (pk : Int64) (h0 : Heap) (n0 : Nat) (v : Option Value) (h : Heap) (L : List Loc) : Prop := v = some (.long (own_lim g ro un di)) ∧ Fr n0 L ∧ h = h0
set_option maxRecDepth 65536 in
set_option maxHeartbeats 40000000 in
theorem rm6 (l : Launch) (Z : State) (a0 : Array Value) (hw : ∀ d ∈ tables_1, d.before a0 Z = true) (ws : List Jvm.Cond) (r0 : Addr) (g : Int64) (ro : Int64) (dr : Int64) (me : Value) (us : Int64) (un : Int64) (di : Int64) (pk : Int64) (h0 : Heap) (n0 : Nat) (Z0 : n0 ≤ h0.size) (G : own_MB Z h0 r0 g ro dr me us un di pk) :
    MetFree l (⟨"com/example/tidejoin/tidejoin/budget/MemoryBudget", "limit", "()J"⟩ : MethodName) (head1 (Jvm.Cond.code (⟨"com/example/tidejoin/tidejoin/budget/MemoryBudget", "limit", "()J"⟩ : MethodName) prog_8_method_4_code 1 (some .long) :: ws) ({ frames := 0, cells := 0, slots := 0, locals := 0 } : Room)) (fun a U => a = #[(.ref r0)] ∧ Z.Warmed39 U.vm ∧ U.heap = h0) (fun _ _ _ _ _ => True) (fun _ U o U' => ∃ v L, o = .returned v ∧ Q6 Z r0 g ro dr me us un di pk h0 n0 v U'.heap L ∧ FrameEnd U o U' L ({ frames := 0, cells := 0, slots := 0, locals := 0 } : Room).cells ({ frames := 0, cells := 0, slots := 0, locals := 0 } : Room).slots) := by
  refine MetFree.of_bodySF (plainFor_of_name pn_3) hisR ?_
  intro p e s m args below meth c s₁ Bd hml0 hP hK
  obtain ⟨rfl, hZ, hh⟩ := hP
  have hx := Bd.exec
  have hby := Bd.bytes
  have hml : c.maxLocals = 1 := hml0
  have hown : s.vm.findClass "com/example/tidejoin/tidejoin/budget/MemoryBudget" = some m.cls := findClass_of_methodNamed Bd.named
  have hnm := (name_of_methodNamed Bd.named Bd.method).1
  have X0 : Stand p l e ({ frames := 0, cells := 0, slots := 0, locals := 0 } : Room) s m #[(.ref r0)] below meth c s₁ [] 0 0 := Stand.of_body Bd
  have e0 : s₁.heap = h0 := by rw [← hh, Bd.state]; rfl
  have N0 := Fr.nil n0
  show own_G p e below (fun (t : State) (o : Outcome) => t.status = .running ∧ Ended t below o ∧ ∃ v L, o = .returned v ∧ Q6 Z r0 g ro dr me us un di pk h0 n0 v t.heap L ∧ FrameEnd s o t L ({ frames := 0, cells := 0, slots := 0, locals := 0 } : Room).cells ({ frames := 0, cells := 0, slots := 0, locals := 0 } : Room).slots) (s₁.setTop (entryFrame m #[(.ref r0)] 1))
  rw [ef_6 m r0]
  refine own_st (B := s₁.setTop (mkF m 1 #[.val (.ref r0)] [(.ref r0)])) (fun t k => ?_) ?_
  · show Steps p.tables e below (s₁.setTop (mkF m 0 #[.val (.ref r0)] [])) _
    refine XS.aloadN X0.here hx rfl (hb hby d6_0) rfl rfl ?_
    exact k
  obtain ⟨T1, X1, e1, st1⟩ := getF X0 hx hZ hown (host := "") (Or.inl (hw _ (List.mem_of_getElem? (i := 34) rfl))) Via.refl e0 G.2.2.2.2.2.2.1 (g := (mkF m 1 #[.val (.ref r0)] [(.ref r0)])) rfl rfl (hb hby d6_1)
  refine own_st (B := T1.setTop (mkF m 4 #[.val (.ref r0)] [(.long un)])) (fun t k => st1 t k) ?_
  refine own_st (B := T1.setTop (mkF m 5 #[.val (.ref r0)] [(.ref r0), (.long un)])) (fun t k => ?_) ?_
  · show Steps p.tables e below (T1.setTop (mkF m 4 #[.val (.ref r0)] [(.long un)])) _
    refine XS.aloadN X1.here hx rfl (hb hby d6_4) rfl rfl ?_
    exact k
  obtain ⟨T2, X2, e2, st2⟩ := getF X1 hx hZ hown (host := "") (Or.inl (hw _ (List.mem_of_getElem? (i := 36) rfl))) Via.refl e1 G.2.2.2.2.2.2.2.1 (g := (mkF m 5 #[.val (.ref r0)] [(.ref r0), (.long un)])) rfl rfl (hb hby d6_5)
  refine own_st (B := T2.setTop (mkF m 8 #[.val (.ref r0)] [(.long di), (.long un)])) (fun t k => st2 t k) ?_
  refine own_st (B := T2.setTop (mkF m 10 #[.val (.ref r0)] [(.ref r0), (.long (un + di))])) (fun t k => ?_) ?_
  · show Steps p.tables e below (T2.setTop (mkF m 8 #[.val (.ref r0)] [(.long di), (.long un)])) _
    refine XS.ladd X2.here hx rfl (hb hby d6_8) rfl ?_
    show Steps p.tables e below (T2.setTop (mkF m 9 #[.val (.ref r0)] [(.long (un + di))])) _
    refine XS.aloadN X2.here hx rfl (hb hby d6_9) rfl rfl ?_
    exact k
  obtain ⟨T3, X3, e3, st3⟩ := getF X2 hx hZ hown (host := "") (Or.inl (hw _ (List.mem_of_getElem? (i := 17) rfl))) Via.refl e2 G.2.1 (g := (mkF m 10 #[.val (.ref r0)] [(.ref r0), (.long (un + di))])) rfl rfl (hb hby d6_10)
  refine own_st (B := T3.setTop (mkF m 13 #[.val (.ref r0)] [(.long g), (.long (un + di))])) (fun t k => st3 t k) ?_
  refine own_st (B := T3.setTop (mkF m 14 #[.val (.ref r0)] [(.ref r0), (.long g), (.long (un + di))])) (fun t k => ?_) ?_
  · show Steps p.tables e below (T3.setTop (mkF m 13 #[.val (.ref r0)] [(.long g), (.long (un + di))])) _
    refine XS.aloadN X3.here hx rfl (hb hby d6_13) rfl rfl ?_
    exact k
  obtain ⟨T4, X4, e4, st4⟩ := getF X3 hx hZ hown (host := "") (Or.inl (hw _ (List.mem_of_getElem? (i := 19) rfl))) Via.refl e3 G.2.2.1 (g := (mkF m 14 #[.val (.ref r0)] [(.ref r0), (.long g), (.long (un + di))])) rfl rfl (hb hby d6_14)
  refine own_st (B := T4.setTop (mkF m 17 #[.val (.ref r0)] [(.long ro), (.long g), (.long (un + di))])) (fun t k => st4 t k) ?_
  refine own_st (B := T4.setTop (mkF m 19 #[.val (.ref r0)] [(.int (lcmpW (un + di) (g - ro)))])) (fun t k => ?_) ?_
  · show Steps p.tables e below (T4.setTop (mkF m 17 #[.val (.ref r0)] [(.long ro), (.long g), (.long (un + di))])) _
    refine XS.lsub X4.here hx rfl (hb hby d6_17) rfl ?_
    show Steps p.tables e below (T4.setTop (mkF m 18 #[.val (.ref r0)] [(.long (g - ro)), (.long (un + di))])) _
    refine XS.lcmp X4.here hx rfl (hb hby d6_18) rfl ?_
    exact k
  by_cases h19 : (un + di) < (g - ro)
  · refine own_st (B := T4.setTop (mkF m 30 #[.val (.ref r0)] [(.ref r0)])) (fun t k => ?_) ?_
    · show Steps p.tables e below (T4.setTop (mkF m 19 #[.val (.ref r0)] [(.int (lcmpW (un + di) (g - ro)))])) _
      refine XS.ifYes X4.here hx rfl (pc0 := 19) (pc' := 29) rfl (hb hby d6_19) rfl ((if0 _ _).trans (tlt ((lw_lt _ _).mpr h19)).1) (by decide) (by decide) ?_
      show Steps p.tables e below (T4.setTop (mkF m 29 #[.val (.ref r0)] [])) _
      refine XS.aloadN X4.here hx rfl (hb hby d6_29) rfl rfl ?_
      exact k
    obtain ⟨T5, X5, e5, st5⟩ := getF X4 hx hZ hown (host := "") (Or.inl (hw _ (List.mem_of_getElem? (i := 19) rfl))) Via.refl e4 G.2.2.1 (g := (mkF m 30 #[.val (.ref r0)] [(.ref r0)])) rfl rfl (hb hby d6_30)
    refine own_st (B := T5.setTop (mkF m 33 #[.val (.ref r0)] [(.long ro)])) (fun t k => st5 t k) ?_
    refine own_st (B := T5.setTop (mkF m 34 #[.val (.ref r0)] [(.ref r0), (.long ro)])) (fun t k => ?_) ?_
    · show Steps p.tables e below (T5.setTop (mkF m 33 #[.val (.ref r0)] [(.long ro)])) _
      refine XS.aloadN X5.here hx rfl (hb hby d6_33) rfl rfl ?_
      exact k
    obtain ⟨T6, X6, e6, st6⟩ := getF X5 hx hZ hown (host := "") (Or.inl (hw _ (List.mem_of_getElem? (i := 34) rfl))) Via.refl e5 G.2.2.2.2.2.2.1 (g := (mkF m 34 #[.val (.ref r0)] [(.ref r0), (.long ro)])) rfl rfl (hb hby d6_34)
    refine own_st (B := T6.setTop (mkF m 37 #[.val (.ref r0)] [(.long un), (.long ro)])) (fun t k => st6 t k) ?_
    refine own_st (B := T6.setTop (mkF m 39 #[.val (.ref r0)] [(.ref r0), (.long (ro + un))])) (fun t k => ?_) ?_
    · show Steps p.tables e below (T6.setTop (mkF m 37 #[.val (.ref r0)] [(.long un), (.long ro)])) _
      refine XS.ladd X6.here hx rfl (hb hby d6_37) rfl ?_
      show Steps p.tables e below (T6.setTop (mkF m 38 #[.val (.ref r0)] [(.long (ro + un))])) _
      refine XS.aloadN X6.here hx rfl (hb hby d6_38) rfl rfl ?_
      exact k
    obtain ⟨T7, X7, e7, st7⟩ := getF X6 hx hZ hown (host := "") (Or.inl (hw _ (List.mem_of_getElem? (i := 36) rfl))) Via.refl e6 G.2.2.2.2.2.2.2.1 (g := (mkF m 39 #[.val (.ref r0)] [(.ref r0), (.long (ro + un))])) rfl rfl (hb hby d6_39)
    refine own_st (B := T7.setTop (mkF m 42 #[.val (.ref r0)] [(.long di), (.long (ro + un))])) (fun t k => st7 t k) ?_
    refine own_st (B := T7.setTop (mkF m 43 #[.val (.ref r0)] [(.long ((ro + un) + di))])) (fun t k => ?_) ?_
    · show Steps p.tables e below (T7.setTop (mkF m 42 #[.val (.ref r0)] [(.long di), (.long (ro + un))])) _
      refine XS.ladd X7.here hx rfl (hb hby d6_42) rfl ?_
      exact k
    obtain ⟨fs, hr, hrun, hended, hW, hsame⟩ := X7.leave (v := some (.long ((ro + un) + di))) (fun h => by rw [Bd.returns] at h; cases h)
    refine ⟨_, _, ?_, hrun, hended, _, _, rfl, ?_, ⟨_, rfl⟩, hW, hsame.mono (by decide) (by decide)⟩
    · exact retOut X7 hx Bd.returns rfl (Or.inr (Or.inl ⟨rfl, rfl, _, rfl⟩)) (hb hby d6_43) hr
    · show Q6 Z r0 g ro dr me us un di pk h0 n0 _ T7.heap _
      rw [e7]
      exact ⟨by rw [own_lim, if_pos h19], N0, rfl⟩
  · refine own_st (B := T4.setTop (mkF m 23 #[.val (.ref r0)] [(.ref r0)])) (fun t k => ?_) ?_
    · show Steps p.tables e below (T4.setTop (mkF m 19 #[.val (.ref r0)] [(.int (lcmpW (un + di) (g - ro)))])) _
      refine XS.ifNo X4.here hx rfl (hb hby d6_19) rfl ((if0 _ _).trans (flt (fun q => h19 ((lw_lt _ _).mp q))).1) ?_
      show Steps p.tables e below (T4.setTop (mkF m 22 #[.val (.ref r0)] [])) _
      refine XS.aloadN X4.here hx rfl (hb hby d6_22) rfl rfl ?_
      exact k
    obtain ⟨T8, X8, e8, st8⟩ := getF X4 hx hZ hown (host := "") (Or.inl (hw _ (List.mem_of_getElem? (i := 17) rfl))) Via.refl e4 G.2.1 (g := (mkF m 23 #[.val (.ref r0)] [(.ref r0)])) rfl rfl (hb hby d6_23)
    refine own_st (B := T8.setTop (mkF m 26 #[.val (.ref r0)] [(.long g)])) (fun t k => st8 t k) ?_
    refine own_st (B := T8.setTop (mkF m 43 #[.val (.ref r0)] [(.long g)])) (fun t k => ?_) ?_
    · show Steps p.tables e below (T8.setTop (mkF m 26 #[.val (.ref r0)] [(.long g)])) _
      refine XS.goto X8.here hx rfl (pc0 := 26) (pc' := 43) rfl (hb hby d6_26) (by decide) (by decide) ?_
      exact k
    obtain ⟨fs, hr, hrun, hended, hW, hsame⟩ := X8.leave (v := some (.long g)) (fun h => by rw [Bd.returns] at h; cases h)
    refine ⟨_, _, ?_, hrun, hended, _, _, rfl, ?_, ⟨_, rfl⟩, hW, hsame.mono (by decide) (by decide)⟩
    · exact retOut X8 hx Bd.returns rfl (Or.inr (Or.inl ⟨rfl, rfl, _, rfl⟩)) (hb hby d6_43) hr
    · show Q6 Z r0 g ro dr me us un di pk h0 n0 _ T8.heap _
      rw [e8]
      exact ⟨by rw [own_lim, if_neg h19], N0, rfl⟩
theorem d7_0 : decode prog_8_method_5_code 0 = .ok (.aload_n 0, 1) := by decide +kernel
theorem d7_1 : decode prog_8_method_5_code 1 = .ok (.getfield 21, 3) := by decide +kernel
theorem d7_4 : decode prog_8_method_5_code 4 = .ok (.lreturn, 1) := by decide +kernel
theorem ef_7 (m : MethodId) (x0 : Addr) : entryFrame m #[(.ref x0)] 1 = mkF m 0 #[.val (.ref x0)] [] := by first | (simp [entryFrame, mkF, argsToLocals, Value.category]; done) | rfl
def Q7 (Z : State) (r0 : Addr) (g : Int64) (ro : Int64) (dr : Int64) (me : Value) (us : Int64) (un : Int64) (di : Int64) (pk : Int64) (h0 : Heap) (n0 : Nat) (v : Option Value) (h : Heap) (L : List Loc) : Prop := v = some (.long g) ∧ Fr n0 L ∧ h = h0
set_option maxRecDepth 65536 in
set_option maxHeartbeats 40000000 in
theorem rm7 (l : Launch) (Z : State) (a0 : Array Value) (hw : ∀ d ∈ tables_1, d.before a0 Z = true) (ws : List Jvm.Cond) (r0 : Addr) (g : Int64) (ro : Int64) (dr : Int64) (me : Value) (us : Int64) (un : Int64) (di : Int64) (pk : Int64) (h0 : Heap) (n0 : Nat) (Z0 : n0 ≤ h0.size) (G : own_MB Z h0 r0 g ro dr me us un di pk) :
    MetFree l (⟨"com/example/tidejoin/tidejoin/budget/MemoryBudget", "given", "()J"⟩ : MethodName) (head1 (Jvm.Cond.code (⟨"com/example/tidejoin/tidejoin/budget/MemoryBudget", "given", "()J"⟩ : MethodName) prog_8_method_5_code 1 (some .long) :: ws) ({ frames := 0, cells := 0, slots := 0, locals := 0 } : Room)) (fun a U => a = #[(.ref r0)] ∧ Z.Warmed39 U.vm ∧ U.heap = h0) (fun _ _ _ _ _ => True) (fun _ U o U' => ∃ v L, o = .returned v ∧ Q7 Z r0 g ro dr me us un di pk h0 n0 v U'.heap L ∧ FrameEnd U o U' L ({ frames := 0, cells := 0, slots := 0, locals := 0 } : Room).cells ({ frames := 0, cells := 0, slots := 0, locals := 0 } : Room).slots) := by
  refine MetFree.of_bodySF (plainFor_of_name pn_3) hisR ?_
  intro p e s m args below meth c s₁ Bd hml0 hP hK
  obtain ⟨rfl, hZ, hh⟩ := hP
  have hx := Bd.exec
  have hby := Bd.bytes
  have hml : c.maxLocals = 1 := hml0
  have hown : s.vm.findClass "com/example/tidejoin/tidejoin/budget/MemoryBudget" = some m.cls := findClass_of_methodNamed Bd.named
  have hnm := (name_of_methodNamed Bd.named Bd.method).1
  have X0 : Stand p l e ({ frames := 0, cells := 0, slots := 0, locals := 0 } : Room) s m #[(.ref r0)] below meth c s₁ [] 0 0 := Stand.of_body Bd
  have e0 : s₁.heap = h0 := by rw [← hh, Bd.state]; rfl
  have N0 := Fr.nil n0
  show own_G p e below (fun (t : State) (o : Outcome) => t.status = .running ∧ Ended t below o ∧ ∃ v L, o = .returned v ∧ Q7 Z r0 g ro dr me us un di pk h0 n0 v t.heap L ∧ FrameEnd s o t L ({ frames := 0, cells := 0, slots := 0, locals := 0 } : Room).cells ({ frames := 0, cells := 0, slots := 0, locals := 0 } : Room).slots) (s₁.setTop (entryFrame m #[(.ref r0)] 1))
  rw [ef_7 m r0]
  refine own_st (B := s₁.setTop (mkF m 1 #[.val (.ref r0)] [(.ref r0)])) (fun t k => ?_) ?_
  · show Steps p.tables e below (s₁.setTop (mkF m 0 #[.val (.ref r0)] [])) _
    refine XS.aloadN X0.here hx rfl (hb hby d7_0) rfl rfl ?_
    exact k
  obtain ⟨T1, X1, e1, st1⟩ := getF X0 hx hZ hown (host := "") (Or.inl (hw _ (List.mem_of_getElem? (i := 17) rfl))) Via.refl e0 G.2.1 (g := (mkF m 1 #[.val (.ref r0)] [(.ref r0)])) rfl rfl (hb hby d7_1)
  refine own_st (B := T1.setTop (mkF m 4 #[.val (.ref r0)] [(.long g)])) (fun t k => st1 t k) ?_
  obtain ⟨fs, hr, hrun, hended, hW, hsame⟩ := X1.leave (v := some (.long g)) (fun h => by rw [Bd.returns] at h; cases h)
  refine ⟨_, _, ?_, hrun, hended, _, _, rfl, ?_, ⟨_, rfl⟩, hW, hsame.mono (by decide) (by decide)⟩
  · exact retOut X1 hx Bd.returns rfl (Or.inr (Or.inl ⟨rfl, rfl, _, rfl⟩)) (hb hby d7_4) hr
  · show Q7 Z r0 g ro dr me us un di pk h0 n0 _ T1.heap _
    rw [e1]
    exact ⟨rfl, N0, rfl⟩
theorem d8_0 : decode prog_8_method_6_code 0 = .ok (.aload_n 0, 1) := by decide +kernel
theorem d8_1 : decode prog_8_method_6_code 1 = .ok (.getfield 58, 3) := by decide +kernel
theorem d8_4 : decode prog_8_method_6_code 4 = .ok (.lreturn, 1) := by decide +kernel
theorem ef_8 (m : MethodId) (x0 : Addr) : entryFrame m #[(.ref x0)] 1 = mkF m 0 #[.val (.ref x0)] [] := by first | (simp [entryFrame, mkF, argsToLocals, Value.category]; done) | rfl
def Q8 (Z : State) (r0 : Addr) (g : Int64) (ro : Int64) (dr : Int64) (me : Value) (us : Int64) (un : Int64) (di : Int64) (pk : Int64) (h0 : Heap) (n0 : Nat) (v : Option Value) (h : Heap) (L : List Loc) : Prop := v = some (.long us) ∧ Fr n0 L ∧ h = h0
set_option maxRecDepth 65536 in
set_option maxHeartbeats 40000000 in
theorem rm8 (l : Launch) (Z : State) (a0 : Array Value) (hw : ∀ d ∈ tables_1, d.before a0 Z = true) (ws : List Jvm.Cond) (r0 : Addr) (g : Int64) (ro : Int64) (dr : Int64) (me : Value) (us : Int64) (un : Int64) (di : Int64) (pk : Int64) (h0 : Heap) (n0 : Nat) (Z0 : n0 ≤ h0.size) (G : own_MB Z h0 r0 g ro dr me us un di pk) :
    MetFree l (⟨"com/example/tidejoin/tidejoin/budget/MemoryBudget", "used", "()J"⟩ : MethodName) (head1 (Jvm.Cond.code (⟨"com/example/tidejoin/tidejoin/budget/MemoryBudget", "used", "()J"⟩ : MethodName) prog_8_method_6_code 1 (some .long) :: ws) ({ frames := 0, cells := 0, slots := 0, locals := 0 } : Room)) (fun a U => a = #[(.ref r0)] ∧ Z.Warmed39 U.vm ∧ U.heap = h0) (fun _ _ _ _ _ => True) (fun _ U o U' => ∃ v L, o = .returned v ∧ Q8 Z r0 g ro dr me us un di pk h0 n0 v U'.heap L ∧ FrameEnd U o U' L ({ frames := 0, cells := 0, slots := 0, locals := 0 } : Room).cells ({ frames := 0, cells := 0, slots := 0, locals := 0 } : Room).slots) := by
  refine MetFree.of_bodySF (plainFor_of_name pn_3) hisR ?_
  intro p e s m args below meth c s₁ Bd hml0 hP hK
  obtain ⟨rfl, hZ, hh⟩ := hP
  have hx := Bd.exec
  have hby := Bd.bytes
  have hml : c.maxLocals = 1 := hml0
  have hown : s.vm.findClass "com/example/tidejoin/tidejoin/budget/MemoryBudget" = some m.cls := findClass_of_methodNamed Bd.named
  have hnm := (name_of_methodNamed Bd.named Bd.method).1
  have X0 : Stand p l e ({ frames := 0, cells := 0, slots := 0, locals := 0 } : Room) s m #[(.ref r0)] below meth c s₁ [] 0 0 := Stand.of_body Bd
  have e0 : s₁.heap = h0 := by rw [← hh, Bd.state]; rfl
  have N0 := Fr.nil n0
  show own_G p e below (fun (t : State) (o : Outcome) => t.status = .running ∧ Ended t below o ∧ ∃ v L, o = .returned v ∧ Q8 Z r0 g ro dr me us un di pk h0 n0 v t.heap L ∧ FrameEnd s o t L ({ frames := 0, cells := 0, slots := 0, locals := 0 } : Room).cells ({ frames := 0, cells := 0, slots := 0, locals := 0 } : Room).slots) (s₁.setTop (entryFrame m #[(.ref r0)] 1))
  rw [ef_8 m r0]
  refine own_st (B := s₁.setTop (mkF m 1 #[.val (.ref r0)] [(.ref r0)])) (fun t k => ?_) ?_
  · show Steps p.tables e below (s₁.setTop (mkF m 0 #[.val (.ref r0)] [])) _
    refine XS.aloadN X0.here hx rfl (hb hby d8_0) rfl rfl ?_
    exact k
  obtain ⟨T1, X1, e1, st1⟩ := getF X0 hx hZ hown (host := "") (Or.inl (hw _ (List.mem_of_getElem? (i := 48) rfl))) Via.refl e0 G.2.2.2.2.2.1 (g := (mkF m 1 #[.val (.ref r0)] [(.ref r0)])) rfl rfl (hb hby d8_1)
  refine own_st (B := T1.setTop (mkF m 4 #[.val (.ref r0)] [(.long us)])) (fun t k => st1 t k) ?_
  obtain ⟨fs, hr, hrun, hended, hW, hsame⟩ := X1.leave (v := some (.long us)) (fun h => by rw [Bd.returns] at h; cases h)
  refine ⟨_, _, ?_, hrun, hended, _, _, rfl, ?_, ⟨_, rfl⟩, hW, hsame.mono (by decide) (by decide)⟩
  · exact retOut X1 hx Bd.returns rfl (Or.inr (Or.inl ⟨rfl, rfl, _, rfl⟩)) (hb hby d8_4) hr
  · show Q8 Z r0 g ro dr me us un di pk h0 n0 _ T1.heap _
    rw [e1]
    exact ⟨rfl, N0, rfl⟩
theorem d13_0 : decode prog_8_method_25_code 0 = .ok (.aload_n 0, 1) := by decide +kernel
theorem d13_1 : decode prog_8_method_25_code 1 = .ok (.getfield 58, 3) := by decide +kernel
theorem d13_4 : decode prog_8_method_25_code 4 = .ok (.aload_n 0, 1) := by decide +kernel
theorem d13_5 : decode prog_8_method_25_code 5 = .ok (.getfield 52, 3) := by decide +kernel
theorem d13_8 : decode prog_8_method_25_code 8 = .ok (.lsub, 1) := by decide +kernel
theorem d13_9 : decode prog_8_method_25_code 9 = .ok (.aload_n 0, 1) := by decide +kernel
theorem d13_10 : decode prog_8_method_25_code 10 = .ok (.getfield 55, 3) := by decide +kernel
theorem d13_13 : decode prog_8_method_25_code 13 = .ok (.lsub, 1) := by decide +kernel
theorem d13_14 : decode prog_8_method_25_code 14 = .ok (.lreturn, 1) := by decide +kernel
theorem ef_13 (m : MethodId) (x0 : Addr) : entryFrame m #[(.ref x0)] 1 = mkF m 0 #[.val (.ref x0)] [] := by first | (simp [entryFrame, mkF, argsToLocals, Value.category]; done) | rfl
def Q13 (Z : State) (r0 : Addr) (g : Int64) (ro : Int64) (dr : Int64) (me : Value) (us : Int64) (un : Int64) (di : Int64) (pk : Int64) (h0 : Heap) (n0 : Nat) (v : Option Value) (h : Heap) (L : List Loc) : Prop := v = some (.long (us - un - di)) ∧ Fr n0 L ∧ h = h0
set_option maxRecDepth 65536 in
set_option maxHeartbeats 40000000 in
theorem rm13 (l : Launch) (Z : State) (a0 : Array Value) (hw : ∀ d ∈ tables_1, d.before a0 Z = true) (ws : List Jvm.Cond) (r0 : Addr) (g : Int64) (ro : Int64) (dr : Int64) (me : Value) (us : Int64) (un : Int64) (di : Int64) (pk : Int64) (h0 : Heap) (n0 : Nat) (Z0 : n0 ≤ h0.size) (G : own_MB Z h0 r0 g ro dr me us un di pk) :
    MetFree l (⟨"com/example/tidejoin/tidejoin/budget/MemoryBudget", "made", "()J"⟩ : MethodName) (head1 (Jvm.Cond.code (⟨"com/example/tidejoin/tidejoin/budget/MemoryBudget", "made", "()J"⟩ : MethodName) prog_8_method_25_code 1 (some .long) :: ws) ({ frames := 0, cells := 0, slots := 0, locals := 0 } : Room)) (fun a U => a = #[(.ref r0)] ∧ Z.Warmed39 U.vm ∧ U.heap = h0) (fun _ _ _ _ _ => True) (fun _ U o U' => ∃ v L, o = .returned v ∧ Q13 Z r0 g ro dr me us un di pk h0 n0 v U'.heap L ∧ FrameEnd U o U' L ({ frames := 0, cells := 0, slots := 0, locals := 0 } : Room).cells ({ frames := 0, cells := 0, slots := 0, locals := 0 } : Room).slots) := by
  refine MetFree.of_bodySF (plainFor_of_name pn_3) hisR ?_
  intro p e s m args below meth c s₁ Bd hml0 hP hK
  obtain ⟨rfl, hZ, hh⟩ := hP
  have hx := Bd.exec
  have hby := Bd.bytes
  have hml : c.maxLocals = 1 := hml0
  have hown : s.vm.findClass "com/example/tidejoin/tidejoin/budget/MemoryBudget" = some m.cls := findClass_of_methodNamed Bd.named
  have hnm := (name_of_methodNamed Bd.named Bd.method).1
  have X0 : Stand p l e ({ frames := 0, cells := 0, slots := 0, locals := 0 } : Room) s m #[(.ref r0)] below meth c s₁ [] 0 0 := Stand.of_body Bd
  have e0 : s₁.heap = h0 := by rw [← hh, Bd.state]; rfl
  have N0 := Fr.nil n0
  show own_G p e below (fun (t : State) (o : Outcome) => t.status = .running ∧ Ended t below o ∧ ∃ v L, o = .returned v ∧ Q13 Z r0 g ro dr me us un di pk h0 n0 v t.heap L ∧ FrameEnd s o t L ({ frames := 0, cells := 0, slots := 0, locals := 0 } : Room).cells ({ frames := 0, cells := 0, slots := 0, locals := 0 } : Room).slots) (s₁.setTop (entryFrame m #[(.ref r0)] 1))
  rw [ef_13 m r0]
  refine own_st (B := s₁.setTop (mkF m 1 #[.val (.ref r0)] [(.ref r0)])) (fun t k => ?_) ?_
  · show Steps p.tables e below (s₁.setTop (mkF m 0 #[.val (.ref r0)] [])) _
    refine XS.aloadN X0.here hx rfl (hb hby d13_0) rfl rfl ?_
    exact k
  obtain ⟨T1, X1, e1, st1⟩ := getF X0 hx hZ hown (host := "") (Or.inl (hw _ (List.mem_of_getElem? (i := 48) rfl))) Via.refl e0 G.2.2.2.2.2.1 (g := (mkF m 1 #[.val (.ref r0)] [(.ref r0)])) rfl rfl (hb hby d13_1)
  refine own_st (B := T1.setTop (mkF m 4 #[.val (.ref r0)] [(.long us)])) (fun t k => st1 t k) ?_
  refine own_st (B := T1.setTop (mkF m 5 #[.val (.ref r0)] [(.ref r0), (.long us)])) (fun t k => ?_) ?_
  · show Steps p.tables e below (T1.setTop (mkF m 4 #[.val (.ref r0)] [(.long us)])) _
    refine XS.aloadN X1.here hx rfl (hb hby d13_4) rfl rfl ?_
    exact k
  obtain ⟨T2, X2, e2, st2⟩ := getF X1 hx hZ hown (host := "") (Or.inl (hw _ (List.mem_of_getElem? (i := 34) rfl))) Via.refl e1 G.2.2.2.2.2.2.1 (g := (mkF m 5 #[.val (.ref r0)] [(.ref r0), (.long us)])) rfl rfl (hb hby d13_5)
  refine own_st (B := T2.setTop (mkF m 8 #[.val (.ref r0)] [(.long un), (.long us)])) (fun t k => st2 t k) ?_
  refine own_st (B := T2.setTop (mkF m 10 #[.val (.ref r0)] [(.ref r0), (.long (us - un))])) (fun t k => ?_) ?_
  · show Steps p.tables e below (T2.setTop (mkF m 8 #[.val (.ref r0)] [(.long un), (.long us)])) _
    refine XS.lsub X2.here hx rfl (hb hby d13_8) rfl ?_
    show Steps p.tables e below (T2.setTop (mkF m 9 #[.val (.ref r0)] [(.long (us - un))])) _
    refine XS.aloadN X2.here hx rfl (hb hby d13_9) rfl rfl ?_
    exact k
  obtain ⟨T3, X3, e3, st3⟩ := getF X2 hx hZ hown (host := "") (Or.inl (hw _ (List.mem_of_getElem? (i := 36) rfl))) Via.refl e2 G.2.2.2.2.2.2.2.1 (g := (mkF m 10 #[.val (.ref r0)] [(.ref r0), (.long (us - un))])) rfl rfl (hb hby d13_10)
  refine own_st (B := T3.setTop (mkF m 13 #[.val (.ref r0)] [(.long di), (.long (us - un))])) (fun t k => st3 t k) ?_
  refine own_st (B := T3.setTop (mkF m 14 #[.val (.ref r0)] [(.long ((us - un) - di))])) (fun t k => ?_) ?_
  · show Steps p.tables e below (T3.setTop (mkF m 13 #[.val (.ref r0)] [(.long di), (.long (us - un))])) _
    refine XS.lsub X3.here hx rfl (hb hby d13_13) rfl ?_
    exact k
  obtain ⟨fs, hr, hrun, hended, hW, hsame⟩ := X3.leave (v := some (.long ((us - un) - di))) (fun h => by rw [Bd.returns] at h; cases h)
  refine ⟨_, _, ?_, hrun, hended, _, _, rfl, ?_, ⟨_, rfl⟩, hW, hsame.mono (by decide) (by decide)⟩
  · exact retOut X3 hx Bd.returns rfl (Or.inr (Or.inl ⟨rfl, rfl, _, rfl⟩)) (hb hby d13_14) hr
  · show Q13 Z r0 g ro dr me us un di pk h0 n0 _ T3.heap _
    rw [e3]
    exact ⟨rfl, N0, rfl⟩
theorem d5_0 : decode method_2_code 0 = .ok (.aload_n 0, 1) := by decide +kernel
theorem d5_1 : decode method_2_code 1 = .ok (.invokevirtual 7, 3) := by decide +kernel
theorem d5_4 : decode method_2_code 4 = .ok (.lload_n 1, 1) := by decide +kernel
theorem d5_5 : decode method_2_code 5 = .ok (.lcmp, 1) := by decide +kernel
theorem d5_6 : decode method_2_code 6 = .ok (.ifCond .ne 28, 3) := by decide +kernel
theorem d5_9 : decode method_2_code 9 = .ok (.aload_n 0, 1) := by decide +kernel
theorem d5_10 : decode method_2_code 10 = .ok (.invokevirtual 13, 3) := by decide +kernel
theorem d5_13 : decode method_2_code 13 = .ok (.lload_n 1, 1) := by decide +kernel
theorem d5_14 : decode method_2_code 14 = .ok (.lcmp, 1) := by decide +kernel
theorem d5_15 : decode method_2_code 15 = .ok (.ifCond .ne 19, 3) := by decide +kernel
theorem d5_18 : decode method_2_code 18 = .ok (.aload_n 0, 1) := by decide +kernel
theorem d5_19 : decode method_2_code 19 = .ok (.invokevirtual 7, 3) := by decide +kernel
theorem d5_22 : decode method_2_code 22 = .ok (.aload_n 0, 1) := by decide +kernel
theorem d5_23 : decode method_2_code 23 = .ok (.invokevirtual 16, 3) := by decide +kernel
theorem d5_26 : decode method_2_code 26 = .ok (.lcmp, 1) := by decide +kernel
theorem d5_27 : decode method_2_code 27 = .ok (.ifCond .lt 7, 3) := by decide +kernel
theorem d5_30 : decode method_2_code 30 = .ok (.iconst 1, 1) := by decide +kernel
theorem d5_31 : decode method_2_code 31 = .ok (.goto 4, 3) := by decide +kernel
theorem d5_34 : decode method_2_code 34 = .ok (.iconst 0, 1) := by decide +kernel
theorem d5_35 : decode method_2_code 35 = .ok (.ireturn, 1) := by decide +kernel
theorem pn_5 : plainName "com/example/tidejoin/tidejoin/budget/MemoryBudgetLimitPinLaw" = true := by first | (simp [plainName, overriddenIn]; done) | decide +kernel
theorem ef_5 (m : MethodId) (x0 : Addr) (x1 : Int64) : entryFrame m #[(.ref x0), (.long x1)] 3 = mkF m 0 #[.val (.ref x0), .val (.long x1), .second] [] := by first | (simp [entryFrame, mkF, argsToLocals, Value.category]; done) | rfl
def Q5 (Z : State) (r0 : Addr) (q1 : Int64) (g : Int64) (ro : Int64) (dr : Int64) (me : Value) (us : Int64) (un : Int64) (di : Int64) (pk : Int64) (h0 : Heap) (n0 : Nat) (v : Option Value) (h : Heap) (L : List Loc) : Prop := v = some (.int (1 : Int32)) ∧ Fr n0 L ∧ h = h0
theorem pd_1 : parseMethodDescriptor "()J" = some ⟨[], some .long⟩ := by decide +kernel
set_option maxRecDepth 65536 in
set_option maxHeartbeats 40000000 in
theorem rm5 (l : Launch) (Z : State) (a0 : Array Value) (hw : ∀ d ∈ tables_1, d.before a0 Z = true) (ws : List Jvm.Cond) (r0 : Addr) (q1 : Int64) (g : Int64) (ro : Int64) (dr : Int64) (me : Value) (us : Int64) (un : Int64) (di : Int64) (pk : Int64) (h0 : Heap) (n0 : Nat) (Z0 : n0 ≤ h0.size) (G : own_MB Z h0 r0 g ro dr me us un di pk) (hl : own_lim g ro un di = q1) (hg : g = q1) (hu : ¬ q1 < us) :
    MetFree l (⟨"com/example/tidejoin/tidejoin/budget/MemoryBudgetLimitPinLaw", "same", "(Lcom/example/tidejoin/tidejoin/budget/MemoryBudget;J)Z"⟩ : MethodName) (head1 (Jvm.Cond.code (⟨"com/example/tidejoin/tidejoin/budget/MemoryBudgetLimitPinLaw", "same", "(Lcom/example/tidejoin/tidejoin/budget/MemoryBudget;J)Z"⟩ : MethodName) method_2_code 3 (some .boolean) :: ws) ({ frames := 1, cells := 0, slots := 0, locals := 14 } : Room)) (fun a U => a = #[(.ref r0), (.long q1)] ∧ Z.Warmed39 U.vm ∧ U.heap = h0) (fun _ _ _ _ _ => True) (fun _ U o U' => ∃ v L, o = .returned v ∧ Q5 Z r0 q1 g ro dr me us un di pk h0 n0 v U'.heap L ∧ FrameEnd U o U' L ({ frames := 1, cells := 0, slots := 0, locals := 14 } : Room).cells ({ frames := 1, cells := 0, slots := 0, locals := 14 } : Room).slots) := by
  refine MetFree.of_bodySF (plainFor_of_name pn_5) hisR ?_
  intro p e s m args below meth c s₁ Bd hml0 hP hK
  obtain ⟨rfl, hZ, hh⟩ := hP
  have hx := Bd.exec
  have hby := Bd.bytes
  have hml : c.maxLocals = 3 := hml0
  have hown : s.vm.findClass "com/example/tidejoin/tidejoin/budget/MemoryBudgetLimitPinLaw" = some m.cls := findClass_of_methodNamed Bd.named
  have hnm := (name_of_methodNamed Bd.named Bd.method).1
  have X0 : Stand p l e ({ frames := 1, cells := 0, slots := 0, locals := 14 } : Room) s m #[(.ref r0), (.long q1)] below meth c s₁ [] 0 0 := Stand.of_body Bd
  have e0 : s₁.heap = h0 := by rw [← hh, Bd.state]; rfl
  have N0 := Fr.nil n0
  show own_G p e below (fun (t : State) (o : Outcome) => t.status = .running ∧ Ended t below o ∧ ∃ v L, o = .returned v ∧ Q5 Z r0 q1 g ro dr me us un di pk h0 n0 v t.heap L ∧ FrameEnd s o t L ({ frames := 1, cells := 0, slots := 0, locals := 14 } : Room).cells ({ frames := 1, cells := 0, slots := 0, locals := 14 } : Room).slots) (s₁.setTop (entryFrame m #[(.ref r0), (.long q1)] 3))
  rw [ef_5 m r0 q1]
  refine own_st (B := s₁.setTop (mkF m 1 #[.val (.ref r0), .val (.long q1), .second] [(.ref r0)])) (fun t k => ?_) ?_
  · show Steps p.tables e below (s₁.setTop (mkF m 0 #[.val (.ref r0), .val (.long q1), .second] [])) _
    refine XS.aloadN X0.here hx rfl (hb hby d5_0) rfl rfl ?_
    exact k
  obtain ⟨cq1, kq1, q1a, q1b, q1c⟩ := isOf hZ e0 G.1
  obtain ⟨_, _, ⟨T1, L1, k1, n1⟩, -, X1, ⟨Lc1, hQ1, l1, y1, z1⟩, st1⟩ := X0.virtualBack hx (y := (⟨"com/example/tidejoin/tidejoin/budget/MemoryBudget", "limit", "()J"⟩ : MethodName)) (z := (⟨"com/example/tidejoin/tidejoin/budget/MemoryBudget", "limit", "()J"⟩ : MethodName)) hown (mvT hZ (hw _ (List.mem_of_getElem? (i := 29) rfl))) (mvT hZ (hw _ (List.mem_of_getElem? (i := 30) rfl))) (notFace_of_selects (args := #[]) (mvT hZ (hw _ (List.mem_of_getElem? (i := 32) rfl)))) (mvT hZ (hw _ (List.mem_of_getElem? (i := 32) rfl))) (mvT hZ (hw _ (List.mem_of_getElem? (i := 31) rfl))) (by decide) (backOf (W := 0) (rm6 l Z a0 hw [] r0 g ro dr me us un di pk h0 n0 Z0 G) hZ (hw _ (List.mem_of_getElem? (i := 33) rfl)) (hw _ (List.mem_of_getElem? (i := 7) rfl)) (by decide) (by decide)) q1a q1c (g := (mkF m 1 #[.val (.ref r0), .val (.long q1), .second] [(.ref r0)])) rfl (by rw [hml]; rfl) (Steps.refl _) (argsL := []) (rest := []) (lenOf pd_1 rfl) rfl (by show 2 * 0 + _ ≤ _; exact Nat.le_of_eq rfl) (hb hby d5_1) (fun _ _ => ⟨rfl, e0, (by decide : 0 + 0 ≤ _), (by decide : 0 + 0 ≤ _)⟩)
  dsimp only [Pt.U, Pt.locs, Pt.cells, Pt.slots] at X1 l1 y1 z1 st1 hQ1
  subst l1 y1 z1
  obtain ⟨rfl, N1q, e1⟩ := hQ1
  have N1 := Fr.app N0 N1q
  refine own_st (B := T1.setTop (mkF m 4 #[.val (.ref r0), .val (.long q1), .second] [(.long (own_lim g ro un di))])) (fun t k => st1.trans k) ?_
  refine own_st (B := T1.setTop (mkF m 6 #[.val (.ref r0), .val (.long q1), .second] [(.int (lcmpW (own_lim g ro un di) q1))])) (fun t k => ?_) ?_
  · show Steps p.tables e below (T1.setTop (mkF m 4 #[.val (.ref r0), .val (.long q1), .second] [(.long (own_lim g ro un di))])) _
    refine XS.lloadN X1.here hx rfl (hb hby d5_4) rfl ?_
    show Steps p.tables e below (T1.setTop (mkF m 5 #[.val (.ref r0), .val (.long q1), .second] [(.long q1), (.long (own_lim g ro un di))])) _
    refine XS.lcmp X1.here hx rfl (hb hby d5_5) rfl ?_
    exact k
  refine own_st (B := T1.setTop (mkF m 10 #[.val (.ref r0), .val (.long q1), .second] [(.ref r0)])) (fun t k => ?_) ?_
  · show Steps p.tables e below (T1.setTop (mkF m 6 #[.val (.ref r0), .val (.long q1), .second] [(.int (lcmpW (own_lim g ro un di) q1))])) _
    refine XS.ifNo X1.here hx rfl (hb hby d5_6) rfl ((if0 _ _).trans (teq ((lw_eq _ _).mpr hl)).2) ?_
    show Steps p.tables e below (T1.setTop (mkF m 9 #[.val (.ref r0), .val (.long q1), .second] [])) _
    refine XS.aloadN X1.here hx rfl (hb hby d5_9) rfl rfl ?_
    exact k
  obtain ⟨cq2, kq2, q2a, q2b, q2c⟩ := isOf hZ e1 G.1
  obtain ⟨_, _, ⟨T2, L2, k2, n2⟩, -, X2, ⟨Lc2, hQ2, l2, y2, z2⟩, st2⟩ := X1.virtualBack hx (y := (⟨"com/example/tidejoin/tidejoin/budget/MemoryBudget", "given", "()J"⟩ : MethodName)) (z := (⟨"com/example/tidejoin/tidejoin/budget/MemoryBudget", "given", "()J"⟩ : MethodName)) hown (mvT hZ (hw _ (List.mem_of_getElem? (i := 38) rfl))) (mvT hZ (hw _ (List.mem_of_getElem? (i := 39) rfl))) (notFace_of_selects (args := #[]) (mvT hZ (hw _ (List.mem_of_getElem? (i := 41) rfl)))) (mvT hZ (hw _ (List.mem_of_getElem? (i := 41) rfl))) (mvT hZ (hw _ (List.mem_of_getElem? (i := 40) rfl))) (by decide) (backOf (W := 0) (rm7 l Z a0 hw [] r0 g ro dr me us un di pk h0 n0 Z0 G) hZ (hw _ (List.mem_of_getElem? (i := 42) rfl)) (hw _ (List.mem_of_getElem? (i := 7) rfl)) (by decide) (by decide)) q2a q2c (g := (mkF m 10 #[.val (.ref r0), .val (.long q1), .second] [(.ref r0)])) rfl (by rw [hml]; rfl) (Steps.refl _) (argsL := []) (rest := []) (lenOf pd_1 rfl) rfl (by show 2 * 0 + _ ≤ _; exact Nat.le_of_eq rfl) (hb hby d5_10) (fun _ _ => ⟨rfl, e1, (by decide : 0 + 0 ≤ _), (by decide : 0 + 0 ≤ _)⟩)
  dsimp only [Pt.U, Pt.locs, Pt.cells, Pt.slots] at X2 l2 y2 z2 st2 hQ2
  subst l2 y2 z2
  obtain ⟨rfl, N2q, e2⟩ := hQ2
  have N2 := Fr.app N1 N2q
  refine own_st (B := T2.setTop (mkF m 13 #[.val (.ref r0), .val (.long q1), .second] [(.long g)])) (fun t k => st2.trans k) ?_
  refine own_st (B := T2.setTop (mkF m 15 #[.val (.ref r0), .val (.long q1), .second] [(.int (lcmpW g q1))])) (fun t k => ?_) ?_
  · show Steps p.tables e below (T2.setTop (mkF m 13 #[.val (.ref r0), .val (.long q1), .second] [(.long g)])) _
    refine XS.lloadN X2.here hx rfl (hb hby d5_13) rfl ?_
    show Steps p.tables e below (T2.setTop (mkF m 14 #[.val (.ref r0), .val (.long q1), .second] [(.long q1), (.long g)])) _
    refine XS.lcmp X2.here hx rfl (hb hby d5_14) rfl ?_
    exact k
  refine own_st (B := T2.setTop (mkF m 19 #[.val (.ref r0), .val (.long q1), .second] [(.ref r0)])) (fun t k => ?_) ?_
  · show Steps p.tables e below (T2.setTop (mkF m 15 #[.val (.ref r0), .val (.long q1), .second] [(.int (lcmpW g q1))])) _
    refine XS.ifNo X2.here hx rfl (hb hby d5_15) rfl ((if0 _ _).trans (teq ((lw_eq _ _).mpr hg)).2) ?_
    show Steps p.tables e below (T2.setTop (mkF m 18 #[.val (.ref r0), .val (.long q1), .second] [])) _
    refine XS.aloadN X2.here hx rfl (hb hby d5_18) rfl rfl ?_
    exact k
  obtain ⟨cq3, kq3, q3a, q3b, q3c⟩ := isOf hZ e2 G.1
  obtain ⟨_, _, ⟨T3, L3, k3, n3⟩, -, X3, ⟨Lc3, hQ3, l3, y3, z3⟩, st3⟩ := X2.virtualBack hx (y := (⟨"com/example/tidejoin/tidejoin/budget/MemoryBudget", "limit", "()J"⟩ : MethodName)) (z := (⟨"com/example/tidejoin/tidejoin/budget/MemoryBudget", "limit", "()J"⟩ : MethodName)) hown (mvT hZ (hw _ (List.mem_of_getElem? (i := 29) rfl))) (mvT hZ (hw _ (List.mem_of_getElem? (i := 30) rfl))) (notFace_of_selects (args := #[]) (mvT hZ (hw _ (List.mem_of_getElem? (i := 32) rfl)))) (mvT hZ (hw _ (List.mem_of_getElem? (i := 32) rfl))) (mvT hZ (hw _ (List.mem_of_getElem? (i := 31) rfl))) (by decide) (backOf (W := 0) (rm6 l Z a0 hw [] r0 g ro dr me us un di pk h0 n0 Z0 G) hZ (hw _ (List.mem_of_getElem? (i := 33) rfl)) (hw _ (List.mem_of_getElem? (i := 7) rfl)) (by decide) (by decide)) q3a q3c (g := (mkF m 19 #[.val (.ref r0), .val (.long q1), .second] [(.ref r0)])) rfl (by rw [hml]; rfl) (Steps.refl _) (argsL := []) (rest := []) (lenOf pd_1 rfl) rfl (by show 2 * 0 + _ ≤ _; exact Nat.le_of_eq rfl) (hb hby d5_19) (fun _ _ => ⟨rfl, e2, (by decide : 0 + 0 ≤ _), (by decide : 0 + 0 ≤ _)⟩)
  dsimp only [Pt.U, Pt.locs, Pt.cells, Pt.slots] at X3 l3 y3 z3 st3 hQ3
  subst l3 y3 z3
  obtain ⟨rfl, N3q, e3⟩ := hQ3
  have N3 := Fr.app N2 N3q
  refine own_st (B := T3.setTop (mkF m 22 #[.val (.ref r0), .val (.long q1), .second] [(.long (own_lim g ro un di))])) (fun t k => st3.trans k) ?_
  refine own_st (B := T3.setTop (mkF m 23 #[.val (.ref r0), .val (.long q1), .second] [(.ref r0), (.long (own_lim g ro un di))])) (fun t k => ?_) ?_
  · show Steps p.tables e below (T3.setTop (mkF m 22 #[.val (.ref r0), .val (.long q1), .second] [(.long (own_lim g ro un di))])) _
    refine XS.aloadN X3.here hx rfl (hb hby d5_22) rfl rfl ?_
    exact k
  obtain ⟨cq4, kq4, q4a, q4b, q4c⟩ := isOf hZ e3 G.1
  obtain ⟨_, _, ⟨T4, L4, k4, n4⟩, -, X4, ⟨Lc4, hQ4, l4, y4, z4⟩, st4⟩ := X3.virtualBack hx (y := (⟨"com/example/tidejoin/tidejoin/budget/MemoryBudget", "used", "()J"⟩ : MethodName)) (z := (⟨"com/example/tidejoin/tidejoin/budget/MemoryBudget", "used", "()J"⟩ : MethodName)) hown (mvT hZ (hw _ (List.mem_of_getElem? (i := 43) rfl))) (mvT hZ (hw _ (List.mem_of_getElem? (i := 44) rfl))) (notFace_of_selects (args := #[]) (mvT hZ (hw _ (List.mem_of_getElem? (i := 46) rfl)))) (mvT hZ (hw _ (List.mem_of_getElem? (i := 46) rfl))) (mvT hZ (hw _ (List.mem_of_getElem? (i := 45) rfl))) (by decide) (backOf (W := 2) (rm8 l Z a0 hw [] r0 g ro dr me us un di pk h0 n0 Z0 G) hZ (hw _ (List.mem_of_getElem? (i := 47) rfl)) (hw _ (List.mem_of_getElem? (i := 7) rfl)) (by decide) (by decide)) q4a q4c (g := (mkF m 23 #[.val (.ref r0), .val (.long q1), .second] [(.ref r0), (.long (own_lim g ro un di))])) rfl (by rw [hml]; rfl) (Steps.refl _) (argsL := []) (rest := [(.long (own_lim g ro un di))]) (lenOf pd_1 rfl) rfl (by show 2 * 0 + _ ≤ _; exact Nat.le_of_eq rfl) (hb hby d5_23) (fun _ _ => ⟨rfl, e3, (by decide : 0 + 0 ≤ _), (by decide : 0 + 0 ≤ _)⟩)
  dsimp only [Pt.U, Pt.locs, Pt.cells, Pt.slots] at X4 l4 y4 z4 st4 hQ4
  subst l4 y4 z4
  obtain ⟨rfl, N4q, e4⟩ := hQ4
  have N4 := Fr.app N3 N4q
  refine own_st (B := T4.setTop (mkF m 26 #[.val (.ref r0), .val (.long q1), .second] [(.long us), (.long (own_lim g ro un di))])) (fun t k => st4.trans k) ?_
  refine own_st (B := T4.setTop (mkF m 27 #[.val (.ref r0), .val (.long q1), .second] [(.int (lcmpW (own_lim g ro un di) us))])) (fun t k => ?_) ?_
  · show Steps p.tables e below (T4.setTop (mkF m 26 #[.val (.ref r0), .val (.long q1), .second] [(.long us), (.long (own_lim g ro un di))])) _
    refine XS.lcmp X4.here hx rfl (hb hby d5_26) rfl ?_
    exact k
  refine own_st (B := T4.setTop (mkF m 35 #[.val (.ref r0), .val (.long q1), .second] [(.int (1 : Int32))])) (fun t k => ?_) ?_
  · show Steps p.tables e below (T4.setTop (mkF m 27 #[.val (.ref r0), .val (.long q1), .second] [(.int (lcmpW (own_lim g ro un di) us))])) _
    refine XS.ifNo X4.here hx rfl (hb hby d5_27) rfl ((if0 _ _).trans (flt (fun q => hu (hl ▸ (lw_lt _ _).mp q))).1) ?_
    show Steps p.tables e below (T4.setTop (mkF m 30 #[.val (.ref r0), .val (.long q1), .second] [])) _
    refine XS.iconst X4.here hx rfl (hb hby d5_30) ?_
    show Steps p.tables e below (T4.setTop (mkF m 31 #[.val (.ref r0), .val (.long q1), .second] [(.int (1 : Int32))])) _
    refine XS.goto X4.here hx rfl (pc0 := 31) (pc' := 35) rfl (hb hby d5_31) (by decide) (by decide) ?_
    exact k
  obtain ⟨fs, hr, hrun, hended, hW, hsame⟩ := X4.leave (v := some (.int (1 : Int32))) (fun h => by rw [Bd.returns] at h; cases h)
  refine ⟨_, _, ?_, hrun, hended, _, _, rfl, ?_, ⟨_, rfl⟩, hW, hsame.mono (by decide) (by decide)⟩
  · exact retOut X4 hx Bd.returns rfl (Or.inl ⟨rfl, by simp, _, rfl⟩) (hb hby d5_35) hr
  · show Q5 Z r0 q1 g ro dr me us un di pk h0 n0 _ T4.heap _
    rw [e4]
    exact ⟨rfl, N4, rfl⟩
theorem d10_0 : decode prog_8_method_23_code 0 = .ok (.lload_n 0, 1) := by decide +kernel
theorem d10_1 : decode prog_8_method_23_code 1 = .ok (.lconst 0, 1) := by decide +kernel
theorem d10_2 : decode prog_8_method_23_code 2 = .ok (.lcmp, 1) := by decide +kernel
theorem d10_3 : decode prog_8_method_23_code 3 = .ok (.ifCond .ge 17, 3) := by decide +kernel
theorem d10_6 : decode prog_8_method_23_code 6 = .ok (.new 12, 3) := by decide +kernel
theorem d10_9 : decode prog_8_method_23_code 9 = .ok (.dup, 1) := by decide +kernel
theorem d10_10 : decode prog_8_method_23_code 10 = .ok (.lload_n 0, 1) := by decide +kernel
theorem d10_16 : decode prog_8_method_23_code 16 = .ok (.invokespecial 18, 3) := by decide +kernel
theorem d10_19 : decode prog_8_method_23_code 19 = .ok (.athrow, 1) := by decide +kernel
theorem d10_20 : decode prog_8_method_23_code 20 = .ok (.return_, 1) := by decide +kernel
theorem ef_10 (m : MethodId) (x0 : Int64) : entryFrame m #[(.long x0)] 2 = mkF m 0 #[.val (.long x0), .second] [] := by first | (simp [entryFrame, mkF, argsToLocals, Value.category]; done) | rfl
def Q10 (Z : State) (q0 : Int64) (h0 : Heap) (n0 : Nat) (v : Option Value) (h : Heap) (L : List Loc) : Prop := v = none ∧ Fr n0 L ∧ h = h0
set_option maxRecDepth 65536 in
set_option maxHeartbeats 40000000 in
theorem rm10 (l : Launch) (Z : State) (a0 : Array Value) (hw : ∀ d ∈ tables_1, d.before a0 Z = true) (ws : List Jvm.Cond) (q0 : Int64) (h0 : Heap) (n0 : Nat) (Z0 : n0 ≤ h0.size) (hq : ¬ q0 < 0) :
    MetFree l (⟨"com/example/tidejoin/tidejoin/budget/MemoryBudget", "checkReservation", "(J)V"⟩ : MethodName) (head1 (Jvm.Cond.code (⟨"com/example/tidejoin/tidejoin/budget/MemoryBudget", "checkReservation", "(J)V"⟩ : MethodName) prog_8_method_23_code 2 none :: ws) ({ frames := 0, cells := 0, slots := 0, locals := 0 } : Room)) (fun a U => a = #[(.long q0)] ∧ Z.Warmed39 U.vm ∧ U.heap = h0) (fun _ _ _ _ _ => True) (fun _ U o U' => ∃ v L, o = .returned v ∧ Q10 Z q0 h0 n0 v U'.heap L ∧ FrameEnd U o U' L ({ frames := 0, cells := 0, slots := 0, locals := 0 } : Room).cells ({ frames := 0, cells := 0, slots := 0, locals := 0 } : Room).slots) := by
  refine MetFree.of_bodySF (plainFor_of_name pn_3) hisR ?_
  intro p e s m args below meth c s₁ Bd hml0 hP hK
  obtain ⟨rfl, hZ, hh⟩ := hP
  have hx := Bd.exec
  have hby := Bd.bytes
  have hml : c.maxLocals = 2 := hml0
  have hown : s.vm.findClass "com/example/tidejoin/tidejoin/budget/MemoryBudget" = some m.cls := findClass_of_methodNamed Bd.named
  have hnm := (name_of_methodNamed Bd.named Bd.method).1
  have X0 : Stand p l e ({ frames := 0, cells := 0, slots := 0, locals := 0 } : Room) s m #[(.long q0)] below meth c s₁ [] 0 0 := Stand.of_body Bd
  have e0 : s₁.heap = h0 := by rw [← hh, Bd.state]; rfl
  have N0 := Fr.nil n0
  show own_G p e below (fun (t : State) (o : Outcome) => t.status = .running ∧ Ended t below o ∧ ∃ v L, o = .returned v ∧ Q10 Z q0 h0 n0 v t.heap L ∧ FrameEnd s o t L ({ frames := 0, cells := 0, slots := 0, locals := 0 } : Room).cells ({ frames := 0, cells := 0, slots := 0, locals := 0 } : Room).slots) (s₁.setTop (entryFrame m #[(.long q0)] 2))
  rw [ef_10 m q0]
  refine own_st (B := s₁.setTop (mkF m 3 #[.val (.long q0), .second] [(.int (lcmpW q0 (0 : Int64)))])) (fun t k => ?_) ?_
  · show Steps p.tables e below (s₁.setTop (mkF m 0 #[.val (.long q0), .second] [])) _
    refine XS.lloadN X0.here hx rfl (hb hby d10_0) rfl ?_
    show Steps p.tables e below (s₁.setTop (mkF m 1 #[.val (.long q0), .second] [(.long q0)])) _
    refine XS.lconst X0.here hx rfl (hb hby d10_1) ?_
    show Steps p.tables e below (s₁.setTop (mkF m 2 #[.val (.long q0), .second] [(.long (0 : Int64)), (.long q0)])) _
    refine XS.lcmp X0.here hx rfl (hb hby d10_2) rfl ?_
    exact k
  refine own_st (B := s₁.setTop (mkF m 20 #[.val (.long q0), .second] [])) (fun t k => ?_) ?_
  · show Steps p.tables e below (s₁.setTop (mkF m 3 #[.val (.long q0), .second] [(.int (lcmpW q0 (0 : Int64)))])) _
    refine XS.ifYes X0.here hx rfl (pc0 := 3) (pc' := 20) rfl (hb hby d10_3) rfl ((if0 _ _).trans (flt (fun q => hq ((lw_lt _ _).mp q))).2.1) (by decide) (by decide) ?_
    exact k
  obtain ⟨fs, hr, hrun, hended, hW, hsame⟩ := X0.leave (v := none) (fun _ => rfl)
  refine ⟨_, _, ?_, hrun, hended, _, _, rfl, ?_, ⟨_, rfl⟩, hW, hsame.mono (by decide) (by decide)⟩
  · exact X0.returnOut hx Bd.returns (hb hby d10_20) hr
  · show Q10 Z q0 h0 n0 _ s₁.heap _
    rw [e0]
    exact ⟨rfl, N0, rfl⟩
theorem d12_0 : decode prog_8_method_10_code 0 = .ok (.lload_n 3, 1) := by decide +kernel
theorem d12_1 : decode prog_8_method_10_code 1 = .ok (.lconst 0, 1) := by decide +kernel
theorem d12_2 : decode prog_8_method_10_code 2 = .ok (.lcmp, 1) := by decide +kernel
theorem d12_3 : decode prog_8_method_10_code 3 = .ok (.ifCond .lt 9, 3) := by decide +kernel
theorem d12_6 : decode prog_8_method_10_code 6 = .ok (.lload_n 3, 1) := by decide +kernel
theorem d12_7 : decode prog_8_method_10_code 7 = .ok (.lload_n 1, 1) := by decide +kernel
theorem d12_8 : decode prog_8_method_10_code 8 = .ok (.lcmp, 1) := by decide +kernel
theorem d12_9 : decode prog_8_method_10_code 9 = .ok (.ifCond .le 21, 3) := by decide +kernel
theorem d12_12 : decode prog_8_method_10_code 12 = .ok (.new 12, 3) := by decide +kernel
theorem d12_15 : decode prog_8_method_10_code 15 = .ok (.dup, 1) := by decide +kernel
theorem d12_16 : decode prog_8_method_10_code 16 = .ok (.lload_n 1, 1) := by decide +kernel
theorem d12_17 : decode prog_8_method_10_code 17 = .ok (.lload_n 3, 1) := by decide +kernel
theorem d12_18 : decode prog_8_method_10_code 18 = .ok (.invokestatic 78, 3) := by decide +kernel
theorem d12_26 : decode prog_8_method_10_code 26 = .ok (.invokespecial 18, 3) := by decide +kernel
theorem d12_29 : decode prog_8_method_10_code 29 = .ok (.athrow, 1) := by decide +kernel
theorem d12_30 : decode prog_8_method_10_code 30 = .ok (.lload_n 1, 1) := by decide +kernel
theorem d12_31 : decode prog_8_method_10_code 31 = .ok (.aload_n 0, 1) := by decide +kernel
theorem d12_32 : decode prog_8_method_10_code 32 = .ok (.getfield 21, 3) := by decide +kernel
theorem d12_35 : decode prog_8_method_10_code 35 = .ok (.aload_n 0, 1) := by decide +kernel
theorem d12_36 : decode prog_8_method_10_code 36 = .ok (.getfield 58, 3) := by decide +kernel
theorem d12_39 : decode prog_8_method_10_code 39 = .ok (.lsub, 1) := by decide +kernel
theorem d12_40 : decode prog_8_method_10_code 40 = .ok (.lcmp, 1) := by decide +kernel
theorem d12_41 : decode prog_8_method_10_code 41 = .ok (.ifCond .gt 37, 3) := by decide +kernel
theorem d12_44 : decode prog_8_method_10_code 44 = .ok (.lload_n 1, 1) := by decide +kernel
theorem d12_45 : decode prog_8_method_10_code 45 = .ok (.lload_n 3, 1) := by decide +kernel
theorem d12_46 : decode prog_8_method_10_code 46 = .ok (.lsub, 1) := by decide +kernel
theorem d12_47 : decode prog_8_method_10_code 47 = .ok (.aload_n 0, 1) := by decide +kernel
theorem d12_48 : decode prog_8_method_10_code 48 = .ok (.getfield 37, 3) := by decide +kernel
theorem d12_51 : decode prog_8_method_10_code 51 = .ok (.aload_n 0, 1) := by decide +kernel
theorem d12_52 : decode prog_8_method_10_code 52 = .ok (.invokevirtual 85, 3) := by decide +kernel
theorem d12_55 : decode prog_8_method_10_code 55 = .ok (.lsub, 1) := by decide +kernel
theorem d12_56 : decode prog_8_method_10_code 56 = .ok (.lcmp, 1) := by decide +kernel
theorem d12_57 : decode prog_8_method_10_code 57 = .ok (.ifCond .gt 21, 3) := by decide +kernel
theorem d12_60 : decode prog_8_method_10_code 60 = .ok (.lload_n 3, 1) := by decide +kernel
theorem d12_61 : decode prog_8_method_10_code 61 = .ok (.aload_n 0, 1) := by decide +kernel
theorem d12_62 : decode prog_8_method_10_code 62 = .ok (.getfield 42, 3) := by decide +kernel
theorem d12_65 : decode prog_8_method_10_code 65 = .ok (.aload_n 0, 1) := by decide +kernel
theorem d12_66 : decode prog_8_method_10_code 66 = .ok (.getfield 55, 3) := by decide +kernel
theorem d12_69 : decode prog_8_method_10_code 69 = .ok (.lsub, 1) := by decide +kernel
theorem d12_70 : decode prog_8_method_10_code 70 = .ok (.lcmp, 1) := by decide +kernel
theorem d12_71 : decode prog_8_method_10_code 71 = .ok (.ifCond .gt 7, 3) := by decide +kernel
theorem d12_74 : decode prog_8_method_10_code 74 = .ok (.iconst 1, 1) := by decide +kernel
theorem d12_75 : decode prog_8_method_10_code 75 = .ok (.goto 4, 3) := by decide +kernel
theorem d12_78 : decode prog_8_method_10_code 78 = .ok (.iconst 0, 1) := by decide +kernel
theorem d12_79 : decode prog_8_method_10_code 79 = .ok (.ireturn, 1) := by decide +kernel
theorem ef_12 (m : MethodId) (x0 : Addr) (x1 : Int64) (x2 : Int64) : entryFrame m #[(.ref x0), (.long x1), (.long x2)] 5 = mkF m 0 #[.val (.ref x0), .val (.long x1), .second, .val (.long x2), .second] [] := by first | (simp [entryFrame, mkF, argsToLocals, Value.category]; done) | rfl
def Q12 (Z : State) (r0 : Addr) (q1 : Int64) (q2 : Int64) (g : Int64) (ro : Int64) (dr : Int64) (me : Value) (us : Int64) (un : Int64) (di : Int64) (pk : Int64) (h0 : Heap) (n0 : Nat) (v : Option Value) (h : Heap) (L : List Loc) : Prop := v = some (.int (own_b (own_fits g ro dr us un di q1 q2))) ∧ Fr n0 L ∧ h = h0
theorem own_sel_13 {Z s : State} {a0 args : Array Value} (hw : ∀ d ∈ tables_1, d.before a0 Z = true) (hZ : Z.Warmed39 s.vm) : (Jvm.Cond.selects "com/example/tidejoin/tidejoin/budget/MemoryBudget" (⟨"com/example/tidejoin/tidejoin/budget/MemoryBudget", "made", "()J"⟩ : MethodName) (⟨"com/example/tidejoin/tidejoin/budget/MemoryBudget", "made", "()J"⟩ : MethodName)).before args s = true := by
  have w1 : (Jvm.Cond.selects "com/example/tidejoin/tidejoin/budget/MemoryBudget" (⟨"com/example/tidejoin/tidejoin/budget/MemoryBudget", "limit", "()J"⟩ : MethodName) (⟨"com/example/tidejoin/tidejoin/budget/MemoryBudget", "limit", "()J"⟩ : MethodName)).before args s = true := mvT hZ (hw _ (List.mem_of_getElem? (i := 32) rfl))
  obtain ⟨c, r, m, h1, -, h3, -, k, h5, h6⟩ := Cond.selects_spec w1
  have h7 := findClass_of_methodNamed h3
  exact selects_self_of_private (y := (⟨"com/example/tidejoin/tidejoin/budget/MemoryBudget", "made", "()J"⟩ : MethodName)) (c := m.cls) (k := k) h7 h5 h6 (Cond.privateMethod_at (mvP hZ (hw _ (List.mem_of_getElem? (i := 69) rfl)) (args := args))) (mvT hZ (hw _ (List.mem_of_getElem? (i := 68) rfl))) (by decide)
theorem own_dec_13 {Z s : State} {a0 args : Array Value} (hw : ∀ d ∈ tables_1, d.before a0 Z = true) (hZ : Z.Warmed39 s.vm) : (Jvm.Cond.declares (⟨"com/example/tidejoin/tidejoin/budget/MemoryBudget", "made", "()J"⟩ : MethodName)).before args s = true := by
  have w1 : (Jvm.Cond.instanceMethod (⟨"com/example/tidejoin/tidejoin/budget/MemoryBudget", "made", "()J"⟩ : MethodName)).before args s = true := mvT hZ (hw _ (List.mem_of_getElem? (i := 68) rfl))
  have w2 : (Jvm.Cond.code ({ cls := "com/example/tidejoin/tidejoin/budget/MemoryBudget", name := "made", desc := "()J" } : Jvm.MethodName) prog_8_method_25_code (1 : Nat) (Option.some Jvm.ClassFile.FieldType.long)).before args s = true := mvT hZ (hw _ (List.mem_of_getElem? (i := 70) rfl))
  obtain ⟨m, meth, h1, h2, h3, -⟩ := Cond.instanceMethod_spec w1
  obtain ⟨meth', c, h5, -, -, -, -, -, -, h6⟩ := Cond.code_spec h1 w2
  cases h2.symm.trans h5
  simp [Cond.before, Cond.holds, Cond.value, h1, h2, h3, h6]
set_option maxRecDepth 65536 in
set_option maxHeartbeats 40000000 in
theorem rm12 (l : Launch) (Z : State) (a0 : Array Value) (hw : ∀ d ∈ tables_1, d.before a0 Z = true) (ws : List Jvm.Cond) (r0 : Addr) (q1 : Int64) (q2 : Int64) (g : Int64) (ro : Int64) (dr : Int64) (me : Value) (us : Int64) (un : Int64) (di : Int64) (pk : Int64) (h0 : Heap) (n0 : Nat) (Z0 : n0 ≤ h0.size) (G : own_MB Z h0 r0 g ro dr me us un di pk) (ha : ¬ q2 < 0) (hb_ : ¬ q1 < q2) :
    MetFree l (⟨"com/example/tidejoin/tidejoin/budget/MemoryBudget", "fits", "(JJ)Z"⟩ : MethodName) (head1 (Jvm.Cond.code (⟨"com/example/tidejoin/tidejoin/budget/MemoryBudget", "fits", "(JJ)Z"⟩ : MethodName) prog_8_method_10_code 5 (some .boolean) :: ws) ({ frames := 1, cells := 0, slots := 0, locals := 16 } : Room)) (fun a U => a = #[(.ref r0), (.long q1), (.long q2)] ∧ Z.Warmed39 U.vm ∧ U.heap = h0) (fun _ _ _ _ _ => True) (fun _ U o U' => ∃ v L, o = .returned v ∧ Q12 Z r0 q1 q2 g ro dr me us un di pk h0 n0 v U'.heap L ∧ FrameEnd U o U' L ({ frames := 1, cells := 0, slots := 0, locals := 16 } : Room).cells ({ frames := 1, cells := 0, slots := 0, locals := 16 } : Room).slots) := by
  refine MetFree.of_bodySF (plainFor_of_name pn_3) hisR ?_
  intro p e s m args below meth c s₁ Bd hml0 hP hK
  obtain ⟨rfl, hZ, hh⟩ := hP
  have hx := Bd.exec
  have hby := Bd.bytes
  have hml : c.maxLocals = 5 := hml0
  have hown : s.vm.findClass "com/example/tidejoin/tidejoin/budget/MemoryBudget" = some m.cls := findClass_of_methodNamed Bd.named
  have hnm := (name_of_methodNamed Bd.named Bd.method).1
  have X0 : Stand p l e ({ frames := 1, cells := 0, slots := 0, locals := 16 } : Room) s m #[(.ref r0), (.long q1), (.long q2)] below meth c s₁ [] 0 0 := Stand.of_body Bd
  have e0 : s₁.heap = h0 := by rw [← hh, Bd.state]; rfl
  have N0 := Fr.nil n0
  show own_G p e below (fun (t : State) (o : Outcome) => t.status = .running ∧ Ended t below o ∧ ∃ v L, o = .returned v ∧ Q12 Z r0 q1 q2 g ro dr me us un di pk h0 n0 v t.heap L ∧ FrameEnd s o t L ({ frames := 1, cells := 0, slots := 0, locals := 16 } : Room).cells ({ frames := 1, cells := 0, slots := 0, locals := 16 } : Room).slots) (s₁.setTop (entryFrame m #[(.ref r0), (.long q1), (.long q2)] 5))
  rw [ef_12 m r0 q1 q2]
  refine own_st (B := s₁.setTop (mkF m 3 #[.val (.ref r0), .val (.long q1), .second, .val (.long q2), .second] [(.int (lcmpW q2 (0 : Int64)))])) (fun t k => ?_) ?_
  · show Steps p.tables e below (s₁.setTop (mkF m 0 #[.val (.ref r0), .val (.long q1), .second, .val (.long q2), .second] [])) _
    refine XS.lloadN X0.here hx rfl (hb hby d12_0) rfl ?_
    show Steps p.tables e below (s₁.setTop (mkF m 1 #[.val (.ref r0), .val (.long q1), .second, .val (.long q2), .second] [(.long q2)])) _
    refine XS.lconst X0.here hx rfl (hb hby d12_1) ?_
    show Steps p.tables e below (s₁.setTop (mkF m 2 #[.val (.ref r0), .val (.long q1), .second, .val (.long q2), .second] [(.long (0 : Int64)), (.long q2)])) _
    refine XS.lcmp X0.here hx rfl (hb hby d12_2) rfl ?_
    exact k
  refine own_st (B := s₁.setTop (mkF m 9 #[.val (.ref r0), .val (.long q1), .second, .val (.long q2), .second] [(.int (lcmpW q2 q1))])) (fun t k => ?_) ?_
  · show Steps p.tables e below (s₁.setTop (mkF m 3 #[.val (.ref r0), .val (.long q1), .second, .val (.long q2), .second] [(.int (lcmpW q2 (0 : Int64)))])) _
    refine XS.ifNo X0.here hx rfl (hb hby d12_3) rfl ((if0 _ _).trans (flt (fun q => ha ((lw_lt _ _).mp q))).1) ?_
    show Steps p.tables e below (s₁.setTop (mkF m 6 #[.val (.ref r0), .val (.long q1), .second, .val (.long q2), .second] [])) _
    refine XS.lloadN X0.here hx rfl (hb hby d12_6) rfl ?_
    show Steps p.tables e below (s₁.setTop (mkF m 7 #[.val (.ref r0), .val (.long q1), .second, .val (.long q2), .second] [(.long q2)])) _
    refine XS.lloadN X0.here hx rfl (hb hby d12_7) rfl ?_
    show Steps p.tables e below (s₁.setTop (mkF m 8 #[.val (.ref r0), .val (.long q1), .second, .val (.long q2), .second] [(.long q1), (.long q2)])) _
    refine XS.lcmp X0.here hx rfl (hb hby d12_8) rfl ?_
    exact k
  refine own_st (B := s₁.setTop (mkF m 32 #[.val (.ref r0), .val (.long q1), .second, .val (.long q2), .second] [(.ref r0), (.long q1)])) (fun t k => ?_) ?_
  · show Steps p.tables e below (s₁.setTop (mkF m 9 #[.val (.ref r0), .val (.long q1), .second, .val (.long q2), .second] [(.int (lcmpW q2 q1))])) _
    refine XS.ifYes X0.here hx rfl (pc0 := 9) (pc' := 30) rfl (hb hby d12_9) rfl ((if0 _ _).trans (flt (fun q => hb_ ((lw_gt _ _).mp q))).2.2.2) (by decide) (by decide) ?_
    show Steps p.tables e below (s₁.setTop (mkF m 30 #[.val (.ref r0), .val (.long q1), .second, .val (.long q2), .second] [])) _
    refine XS.lloadN X0.here hx rfl (hb hby d12_30) rfl ?_
    show Steps p.tables e below (s₁.setTop (mkF m 31 #[.val (.ref r0), .val (.long q1), .second, .val (.long q2), .second] [(.long q1)])) _
    refine XS.aloadN X0.here hx rfl (hb hby d12_31) rfl rfl ?_
    exact k
  obtain ⟨T1, X1, e1, st1⟩ := getF X0 hx hZ hown (host := "") (Or.inl (hw _ (List.mem_of_getElem? (i := 17) rfl))) Via.refl e0 G.2.1 (g := (mkF m 32 #[.val (.ref r0), .val (.long q1), .second, .val (.long q2), .second] [(.ref r0), (.long q1)])) rfl rfl (hb hby d12_32)
  refine own_st (B := T1.setTop (mkF m 35 #[.val (.ref r0), .val (.long q1), .second, .val (.long q2), .second] [(.long g), (.long q1)])) (fun t k => st1 t k) ?_
  refine own_st (B := T1.setTop (mkF m 36 #[.val (.ref r0), .val (.long q1), .second, .val (.long q2), .second] [(.ref r0), (.long g), (.long q1)])) (fun t k => ?_) ?_
  · show Steps p.tables e below (T1.setTop (mkF m 35 #[.val (.ref r0), .val (.long q1), .second, .val (.long q2), .second] [(.long g), (.long q1)])) _
    refine XS.aloadN X1.here hx rfl (hb hby d12_35) rfl rfl ?_
    exact k
  obtain ⟨T2, X2, e2, st2⟩ := getF X1 hx hZ hown (host := "") (Or.inl (hw _ (List.mem_of_getElem? (i := 48) rfl))) Via.refl e1 G.2.2.2.2.2.1 (g := (mkF m 36 #[.val (.ref r0), .val (.long q1), .second, .val (.long q2), .second] [(.ref r0), (.long g), (.long q1)])) rfl rfl (hb hby d12_36)
  refine own_st (B := T2.setTop (mkF m 39 #[.val (.ref r0), .val (.long q1), .second, .val (.long q2), .second] [(.long us), (.long g), (.long q1)])) (fun t k => st2 t k) ?_
  refine own_st (B := T2.setTop (mkF m 41 #[.val (.ref r0), .val (.long q1), .second, .val (.long q2), .second] [(.int (lcmpW q1 (g - us)))])) (fun t k => ?_) ?_
  · show Steps p.tables e below (T2.setTop (mkF m 39 #[.val (.ref r0), .val (.long q1), .second, .val (.long q2), .second] [(.long us), (.long g), (.long q1)])) _
    refine XS.lsub X2.here hx rfl (hb hby d12_39) rfl ?_
    show Steps p.tables e below (T2.setTop (mkF m 40 #[.val (.ref r0), .val (.long q1), .second, .val (.long q2), .second] [(.long (g - us)), (.long q1)])) _
    refine XS.lcmp X2.here hx rfl (hb hby d12_40) rfl ?_
    exact k
  by_cases h41 : (g - us) < q1
  · refine own_st (B := T2.setTop (mkF m 79 #[.val (.ref r0), .val (.long q1), .second, .val (.long q2), .second] [(.int (0 : Int32))])) (fun t k => ?_) ?_
    · show Steps p.tables e below (T2.setTop (mkF m 41 #[.val (.ref r0), .val (.long q1), .second, .val (.long q2), .second] [(.int (lcmpW q1 (g - us)))])) _
      refine XS.ifYes X2.here hx rfl (pc0 := 41) (pc' := 78) rfl (hb hby d12_41) rfl ((if0 _ _).trans (tlt ((lw_gt _ _).mpr h41)).2.2.1) (by decide) (by decide) ?_
      show Steps p.tables e below (T2.setTop (mkF m 78 #[.val (.ref r0), .val (.long q1), .second, .val (.long q2), .second] [])) _
      refine XS.iconst X2.here hx rfl (hb hby d12_78) ?_
      exact k
    obtain ⟨fs, hr, hrun, hended, hW, hsame⟩ := X2.leave (v := some (.int (0 : Int32))) (fun h => by rw [Bd.returns] at h; cases h)
    refine ⟨_, _, ?_, hrun, hended, _, _, rfl, ?_, ⟨_, rfl⟩, hW, hsame.mono (by decide) (by decide)⟩
    · exact retOut X2 hx Bd.returns rfl (Or.inl ⟨rfl, by simp, _, rfl⟩) (hb hby d12_79) hr
    · show Q12 Z r0 q1 q2 g ro dr me us un di pk h0 n0 _ T2.heap _
      rw [e2]
      exact ⟨by simp [own_fits, h41], N0, rfl⟩
  · refine own_st (B := T2.setTop (mkF m 48 #[.val (.ref r0), .val (.long q1), .second, .val (.long q2), .second] [(.ref r0), (.long (q1 - q2))])) (fun t k => ?_) ?_
    · show Steps p.tables e below (T2.setTop (mkF m 41 #[.val (.ref r0), .val (.long q1), .second, .val (.long q2), .second] [(.int (lcmpW q1 (g - us)))])) _
      refine XS.ifNo X2.here hx rfl (hb hby d12_41) rfl ((if0 _ _).trans (flt (fun q => h41 ((lw_gt _ _).mp q))).2.2.1) ?_
      show Steps p.tables e below (T2.setTop (mkF m 44 #[.val (.ref r0), .val (.long q1), .second, .val (.long q2), .second] [])) _
      refine XS.lloadN X2.here hx rfl (hb hby d12_44) rfl ?_
      show Steps p.tables e below (T2.setTop (mkF m 45 #[.val (.ref r0), .val (.long q1), .second, .val (.long q2), .second] [(.long q1)])) _
      refine XS.lloadN X2.here hx rfl (hb hby d12_45) rfl ?_
      show Steps p.tables e below (T2.setTop (mkF m 46 #[.val (.ref r0), .val (.long q1), .second, .val (.long q2), .second] [(.long q2), (.long q1)])) _
      refine XS.lsub X2.here hx rfl (hb hby d12_46) rfl ?_
      show Steps p.tables e below (T2.setTop (mkF m 47 #[.val (.ref r0), .val (.long q1), .second, .val (.long q2), .second] [(.long (q1 - q2))])) _
      refine XS.aloadN X2.here hx rfl (hb hby d12_47) rfl rfl ?_
      exact k
    obtain ⟨T3, X3, e3, st3⟩ := getF X2 hx hZ hown (host := "") (Or.inl (hw _ (List.mem_of_getElem? (i := 19) rfl))) Via.refl e2 G.2.2.1 (g := (mkF m 48 #[.val (.ref r0), .val (.long q1), .second, .val (.long q2), .second] [(.ref r0), (.long (q1 - q2))])) rfl rfl (hb hby d12_48)
    refine own_st (B := T3.setTop (mkF m 51 #[.val (.ref r0), .val (.long q1), .second, .val (.long q2), .second] [(.long ro), (.long (q1 - q2))])) (fun t k => st3 t k) ?_
    refine own_st (B := T3.setTop (mkF m 52 #[.val (.ref r0), .val (.long q1), .second, .val (.long q2), .second] [(.ref r0), (.long ro), (.long (q1 - q2))])) (fun t k => ?_) ?_
    · show Steps p.tables e below (T3.setTop (mkF m 51 #[.val (.ref r0), .val (.long q1), .second, .val (.long q2), .second] [(.long ro), (.long (q1 - q2))])) _
      refine XS.aloadN X3.here hx rfl (hb hby d12_51) rfl rfl ?_
      exact k
    obtain ⟨cq4, kq4, q4a, q4b, q4c⟩ := isOf hZ e3 G.1
    obtain ⟨_, _, ⟨T4, L4, k4, n4⟩, -, X4, ⟨Lc4, hQ4, l4, y4, z4⟩, st4⟩ := X3.virtualBack hx (y := (⟨"com/example/tidejoin/tidejoin/budget/MemoryBudget", "made", "()J"⟩ : MethodName)) (z := (⟨"com/example/tidejoin/tidejoin/budget/MemoryBudget", "made", "()J"⟩ : MethodName)) hown (mvT hZ (hw _ (List.mem_of_getElem? (i := 67) rfl))) (own_dec_13 hw hZ) (notFace_of_selects (args := #[]) (own_sel_13 hw hZ)) (own_sel_13 hw hZ) (mvT hZ (hw _ (List.mem_of_getElem? (i := 68) rfl))) (by decide) (backOf (W := 4) (rm13 l Z a0 hw [] r0 g ro dr me us un di pk h0 n0 Z0 G) hZ (hw _ (List.mem_of_getElem? (i := 70) rfl)) (hw _ (List.mem_of_getElem? (i := 7) rfl)) (by decide) (by decide)) q4a q4c (g := (mkF m 52 #[.val (.ref r0), .val (.long q1), .second, .val (.long q2), .second] [(.ref r0), (.long ro), (.long (q1 - q2))])) rfl (by rw [hml]; rfl) (Steps.refl _) (argsL := []) (rest := [(.long ro), (.long (q1 - q2))]) (lenOf pd_1 rfl) rfl (by show 2 * 0 + _ ≤ _; exact Nat.le_of_eq rfl) (hb hby d12_52) (fun _ _ => ⟨rfl, e3, (by decide : 0 + 0 ≤ _), (by decide : 0 + 0 ≤ _)⟩)
    dsimp only [Pt.U, Pt.locs, Pt.cells, Pt.slots] at X4 l4 y4 z4 st4 hQ4
    subst l4 y4 z4
    obtain ⟨rfl, N4q, e4⟩ := hQ4
    have N4 := Fr.app N0 N4q
    refine own_st (B := T4.setTop (mkF m 55 #[.val (.ref r0), .val (.long q1), .second, .val (.long q2), .second] [(.long (us - un - di)), (.long ro), (.long (q1 - q2))])) (fun t k => st4.trans k) ?_
    refine own_st (B := T4.setTop (mkF m 57 #[.val (.ref r0), .val (.long q1), .second, .val (.long q2), .second] [(.int (lcmpW (q1 - q2) (ro - (us - un - di))))])) (fun t k => ?_) ?_
    · show Steps p.tables e below (T4.setTop (mkF m 55 #[.val (.ref r0), .val (.long q1), .second, .val (.long q2), .second] [(.long (us - un - di)), (.long ro), (.long (q1 - q2))])) _
      refine XS.lsub X4.here hx rfl (hb hby d12_55) rfl ?_
      show Steps p.tables e below (T4.setTop (mkF m 56 #[.val (.ref r0), .val (.long q1), .second, .val (.long q2), .second] [(.long (ro - (us - un - di))), (.long (q1 - q2))])) _
      refine XS.lcmp X4.here hx rfl (hb hby d12_56) rfl ?_
      exact k
    by_cases h57 : (ro - (us - un - di)) < (q1 - q2)
    · refine own_st (B := T4.setTop (mkF m 79 #[.val (.ref r0), .val (.long q1), .second, .val (.long q2), .second] [(.int (0 : Int32))])) (fun t k => ?_) ?_
      · show Steps p.tables e below (T4.setTop (mkF m 57 #[.val (.ref r0), .val (.long q1), .second, .val (.long q2), .second] [(.int (lcmpW (q1 - q2) (ro - (us - un - di))))])) _
        refine XS.ifYes X4.here hx rfl (pc0 := 57) (pc' := 78) rfl (hb hby d12_57) rfl ((if0 _ _).trans (tlt ((lw_gt _ _).mpr h57)).2.2.1) (by decide) (by decide) ?_
        show Steps p.tables e below (T4.setTop (mkF m 78 #[.val (.ref r0), .val (.long q1), .second, .val (.long q2), .second] [])) _
        refine XS.iconst X4.here hx rfl (hb hby d12_78) ?_
        exact k
      obtain ⟨fs, hr, hrun, hended, hW, hsame⟩ := X4.leave (v := some (.int (0 : Int32))) (fun h => by rw [Bd.returns] at h; cases h)
      refine ⟨_, _, ?_, hrun, hended, _, _, rfl, ?_, ⟨_, rfl⟩, hW, hsame.mono (by decide) (by decide)⟩
      · exact retOut X4 hx Bd.returns rfl (Or.inl ⟨rfl, by simp, _, rfl⟩) (hb hby d12_79) hr
      · show Q12 Z r0 q1 q2 g ro dr me us un di pk h0 n0 _ T4.heap _
        rw [e4]
        exact ⟨by simp [own_fits, h41, h57], N4, rfl⟩
    · refine own_st (B := T4.setTop (mkF m 62 #[.val (.ref r0), .val (.long q1), .second, .val (.long q2), .second] [(.ref r0), (.long q2)])) (fun t k => ?_) ?_
      · show Steps p.tables e below (T4.setTop (mkF m 57 #[.val (.ref r0), .val (.long q1), .second, .val (.long q2), .second] [(.int (lcmpW (q1 - q2) (ro - (us - un - di))))])) _
        refine XS.ifNo X4.here hx rfl (hb hby d12_57) rfl ((if0 _ _).trans (flt (fun q => h57 ((lw_gt _ _).mp q))).2.2.1) ?_
        show Steps p.tables e below (T4.setTop (mkF m 60 #[.val (.ref r0), .val (.long q1), .second, .val (.long q2), .second] [])) _
        refine XS.lloadN X4.here hx rfl (hb hby d12_60) rfl ?_
        show Steps p.tables e below (T4.setTop (mkF m 61 #[.val (.ref r0), .val (.long q1), .second, .val (.long q2), .second] [(.long q2)])) _
        refine XS.aloadN X4.here hx rfl (hb hby d12_61) rfl rfl ?_
        exact k
      obtain ⟨T5, X5, e5, st5⟩ := getF X4 hx hZ hown (host := "") (Or.inl (hw _ (List.mem_of_getElem? (i := 21) rfl))) Via.refl e4 G.2.2.2.1 (g := (mkF m 62 #[.val (.ref r0), .val (.long q1), .second, .val (.long q2), .second] [(.ref r0), (.long q2)])) rfl rfl (hb hby d12_62)
      refine own_st (B := T5.setTop (mkF m 65 #[.val (.ref r0), .val (.long q1), .second, .val (.long q2), .second] [(.long dr), (.long q2)])) (fun t k => st5 t k) ?_
      refine own_st (B := T5.setTop (mkF m 66 #[.val (.ref r0), .val (.long q1), .second, .val (.long q2), .second] [(.ref r0), (.long dr), (.long q2)])) (fun t k => ?_) ?_
      · show Steps p.tables e below (T5.setTop (mkF m 65 #[.val (.ref r0), .val (.long q1), .second, .val (.long q2), .second] [(.long dr), (.long q2)])) _
        refine XS.aloadN X5.here hx rfl (hb hby d12_65) rfl rfl ?_
        exact k
      obtain ⟨T6, X6, e6, st6⟩ := getF X5 hx hZ hown (host := "") (Or.inl (hw _ (List.mem_of_getElem? (i := 36) rfl))) Via.refl e5 G.2.2.2.2.2.2.2.1 (g := (mkF m 66 #[.val (.ref r0), .val (.long q1), .second, .val (.long q2), .second] [(.ref r0), (.long dr), (.long q2)])) rfl rfl (hb hby d12_66)
      refine own_st (B := T6.setTop (mkF m 69 #[.val (.ref r0), .val (.long q1), .second, .val (.long q2), .second] [(.long di), (.long dr), (.long q2)])) (fun t k => st6 t k) ?_
      refine own_st (B := T6.setTop (mkF m 71 #[.val (.ref r0), .val (.long q1), .second, .val (.long q2), .second] [(.int (lcmpW q2 (dr - di)))])) (fun t k => ?_) ?_
      · show Steps p.tables e below (T6.setTop (mkF m 69 #[.val (.ref r0), .val (.long q1), .second, .val (.long q2), .second] [(.long di), (.long dr), (.long q2)])) _
        refine XS.lsub X6.here hx rfl (hb hby d12_69) rfl ?_
        show Steps p.tables e below (T6.setTop (mkF m 70 #[.val (.ref r0), .val (.long q1), .second, .val (.long q2), .second] [(.long (dr - di)), (.long q2)])) _
        refine XS.lcmp X6.here hx rfl (hb hby d12_70) rfl ?_
        exact k
      by_cases h71 : (dr - di) < q2
      · refine own_st (B := T6.setTop (mkF m 79 #[.val (.ref r0), .val (.long q1), .second, .val (.long q2), .second] [(.int (0 : Int32))])) (fun t k => ?_) ?_
        · show Steps p.tables e below (T6.setTop (mkF m 71 #[.val (.ref r0), .val (.long q1), .second, .val (.long q2), .second] [(.int (lcmpW q2 (dr - di)))])) _
          refine XS.ifYes X6.here hx rfl (pc0 := 71) (pc' := 78) rfl (hb hby d12_71) rfl ((if0 _ _).trans (tlt ((lw_gt _ _).mpr h71)).2.2.1) (by decide) (by decide) ?_
          show Steps p.tables e below (T6.setTop (mkF m 78 #[.val (.ref r0), .val (.long q1), .second, .val (.long q2), .second] [])) _
          refine XS.iconst X6.here hx rfl (hb hby d12_78) ?_
          exact k
        obtain ⟨fs, hr, hrun, hended, hW, hsame⟩ := X6.leave (v := some (.int (0 : Int32))) (fun h => by rw [Bd.returns] at h; cases h)
        refine ⟨_, _, ?_, hrun, hended, _, _, rfl, ?_, ⟨_, rfl⟩, hW, hsame.mono (by decide) (by decide)⟩
        · exact retOut X6 hx Bd.returns rfl (Or.inl ⟨rfl, by simp, _, rfl⟩) (hb hby d12_79) hr
        · show Q12 Z r0 q1 q2 g ro dr me us un di pk h0 n0 _ T6.heap _
          rw [e6]
          exact ⟨by simp [own_fits, h41, h57, h71], N4, rfl⟩
      · refine own_st (B := T6.setTop (mkF m 79 #[.val (.ref r0), .val (.long q1), .second, .val (.long q2), .second] [(.int (1 : Int32))])) (fun t k => ?_) ?_
        · show Steps p.tables e below (T6.setTop (mkF m 71 #[.val (.ref r0), .val (.long q1), .second, .val (.long q2), .second] [(.int (lcmpW q2 (dr - di)))])) _
          refine XS.ifNo X6.here hx rfl (hb hby d12_71) rfl ((if0 _ _).trans (flt (fun q => h71 ((lw_gt _ _).mp q))).2.2.1) ?_
          show Steps p.tables e below (T6.setTop (mkF m 74 #[.val (.ref r0), .val (.long q1), .second, .val (.long q2), .second] [])) _
          refine XS.iconst X6.here hx rfl (hb hby d12_74) ?_
          show Steps p.tables e below (T6.setTop (mkF m 75 #[.val (.ref r0), .val (.long q1), .second, .val (.long q2), .second] [(.int (1 : Int32))])) _
          refine XS.goto X6.here hx rfl (pc0 := 75) (pc' := 79) rfl (hb hby d12_75) (by decide) (by decide) ?_
          exact k
        obtain ⟨fs, hr, hrun, hended, hW, hsame⟩ := X6.leave (v := some (.int (1 : Int32))) (fun h => by rw [Bd.returns] at h; cases h)
        refine ⟨_, _, ?_, hrun, hended, _, _, rfl, ?_, ⟨_, rfl⟩, hW, hsame.mono (by decide) (by decide)⟩
        · exact retOut X6 hx Bd.returns rfl (Or.inl ⟨rfl, by simp, _, rfl⟩) (hb hby d12_79) hr
        · show Q12 Z r0 q1 q2 g ro dr me us un di pk h0 n0 _ T6.heap _
          rw [e6]
          exact ⟨by simp [own_fits, h41, h57, h71], N4, rfl⟩
theorem d11_0 : decode prog_8_method_22_code 0 = .ok (.aload_n 0, 1) := by decide +kernel
theorem d11_1 : decode prog_8_method_22_code 1 = .ok (.lload_n 1, 1) := by decide +kernel
theorem d11_2 : decode prog_8_method_22_code 2 = .ok (.lload_n 3, 1) := by decide +kernel
theorem d11_3 : decode prog_8_method_22_code 3 = .ok (.invokevirtual 67, 3) := by decide +kernel
theorem d11_6 : decode prog_8_method_22_code 6 = .ok (.ifCond .ne 5, 3) := by decide +kernel
theorem d11_9 : decode prog_8_method_22_code 9 = .ok (.iconst 0, 1) := by decide +kernel
theorem d11_10 : decode prog_8_method_22_code 10 = .ok (.ireturn, 1) := by decide +kernel
theorem d11_11 : decode prog_8_method_22_code 11 = .ok (.aload_n 0, 1) := by decide +kernel
theorem d11_12 : decode prog_8_method_22_code 12 = .ok (.dup, 1) := by decide +kernel
theorem d11_13 : decode prog_8_method_22_code 13 = .ok (.getfield 58, 3) := by decide +kernel
theorem d11_16 : decode prog_8_method_22_code 16 = .ok (.lload_n 1, 1) := by decide +kernel
theorem d11_17 : decode prog_8_method_22_code 17 = .ok (.ladd, 1) := by decide +kernel
theorem d11_18 : decode prog_8_method_22_code 18 = .ok (.putfield 58, 3) := by decide +kernel
theorem d11_21 : decode prog_8_method_22_code 21 = .ok (.aload_n 0, 1) := by decide +kernel
theorem d11_22 : decode prog_8_method_22_code 22 = .ok (.dup, 1) := by decide +kernel
theorem d11_23 : decode prog_8_method_22_code 23 = .ok (.getfield 55, 3) := by decide +kernel
theorem d11_26 : decode prog_8_method_22_code 26 = .ok (.lload_n 3, 1) := by decide +kernel
theorem d11_27 : decode prog_8_method_22_code 27 = .ok (.ladd, 1) := by decide +kernel
theorem d11_28 : decode prog_8_method_22_code 28 = .ok (.putfield 55, 3) := by decide +kernel
theorem d11_31 : decode prog_8_method_22_code 31 = .ok (.aload_n 0, 1) := by decide +kernel
theorem d11_32 : decode prog_8_method_22_code 32 = .ok (.aload_n 0, 1) := by decide +kernel
theorem d11_33 : decode prog_8_method_22_code 33 = .ok (.getfield 61, 3) := by decide +kernel
theorem d11_36 : decode prog_8_method_22_code 36 = .ok (.aload_n 0, 1) := by decide +kernel
theorem d11_37 : decode prog_8_method_22_code 37 = .ok (.getfield 58, 3) := by decide +kernel
theorem d11_40 : decode prog_8_method_22_code 40 = .ok (.invokestatic 113, 3) := by decide +kernel
theorem d11_43 : decode prog_8_method_22_code 43 = .ok (.putfield 61, 3) := by decide +kernel
theorem d11_46 : decode prog_8_method_22_code 46 = .ok (.iconst 1, 1) := by decide +kernel
theorem d11_47 : decode prog_8_method_22_code 47 = .ok (.ireturn, 1) := by decide +kernel
theorem ef_11 (m : MethodId) (x0 : Addr) (x1 : Int64) (x2 : Int64) : entryFrame m #[(.ref x0), (.long x1), (.long x2)] 5 = mkF m 0 #[.val (.ref x0), .val (.long x1), .second, .val (.long x2), .second] [] := by first | (simp [entryFrame, mkF, argsToLocals, Value.category]; done) | rfl
def Q11 (Z : State) (r0 : Addr) (q1 : Int64) (q2 : Int64) (g : Int64) (ro : Int64) (dr : Int64) (me : Value) (us : Int64) (un : Int64) (di : Int64) (pk : Int64) (h0 : Heap) (n0 : Nat) (v : Option Value) (h : Heap) (L : List Loc) : Prop := v = some (.int (own_b (own_fits g ro dr us un di q1 q2))) ∧ Fr n0 L ∧ Keep h0 h [r0] ∧ ∃ pk', own_MB Z h r0 g ro dr me (bif own_fits g ro dr us un di q1 q2 then us + q1 else us) un (bif own_fits g ro dr us un di q1 q2 then di + q2 else di) pk'
theorem pd_2 : parseMethodDescriptor "(JJ)Z" = some ⟨[.long, .long], some .boolean⟩ := by decide +kernel
theorem pd_3 : parseMethodDescriptor "(JJ)J" = some ⟨[.long, .long], some .long⟩ := by decide +kernel
set_option maxRecDepth 65536 in
set_option maxHeartbeats 40000000 in
theorem rm11 (l : Launch) (Z : State) (a0 : Array Value) (hw : ∀ d ∈ tables_1, d.before a0 Z = true) (ws : List Jvm.Cond) (r0 : Addr) (q1 : Int64) (q2 : Int64) (g : Int64) (ro : Int64) (dr : Int64) (me : Value) (us : Int64) (un : Int64) (di : Int64) (pk : Int64) (h0 : Heap) (n0 : Nat) (Z0 : n0 ≤ h0.size) (G : own_MB Z h0 r0 g ro dr me us un di pk) (ge : n0 ≤ r0) (ha : ¬ q2 < 0) (hb_ : ¬ q1 < q2) :
    MetFree l (⟨"com/example/tidejoin/tidejoin/budget/MemoryBudget", "tryReserve", "(JJ)Z"⟩ : MethodName) (head1 (Jvm.Cond.code (⟨"com/example/tidejoin/tidejoin/budget/MemoryBudget", "tryReserve", "(JJ)Z"⟩ : MethodName) prog_8_method_22_code 5 (some .boolean) :: ws) ({ frames := 2, cells := 0, slots := 0, locals := 32 } : Room)) (fun a U => a = #[(.ref r0), (.long q1), (.long q2)] ∧ Z.Warmed39 U.vm ∧ U.heap = h0) (fun _ _ _ _ _ => True) (fun _ U o U' => ∃ v L, o = .returned v ∧ Q11 Z r0 q1 q2 g ro dr me us un di pk h0 n0 v U'.heap L ∧ FrameEnd U o U' L ({ frames := 2, cells := 0, slots := 0, locals := 32 } : Room).cells ({ frames := 2, cells := 0, slots := 0, locals := 32 } : Room).slots) := by
  refine MetFree.of_bodySF (plainFor_of_name pn_3) hisR ?_
  intro p e s m args below meth c s₁ Bd hml0 hP hK
  obtain ⟨rfl, hZ, hh⟩ := hP
  have hx := Bd.exec
  have hby := Bd.bytes
  have hml : c.maxLocals = 5 := hml0
  have hown : s.vm.findClass "com/example/tidejoin/tidejoin/budget/MemoryBudget" = some m.cls := findClass_of_methodNamed Bd.named
  have hnm := (name_of_methodNamed Bd.named Bd.method).1
  have X0 : Stand p l e ({ frames := 2, cells := 0, slots := 0, locals := 32 } : Room) s m #[(.ref r0), (.long q1), (.long q2)] below meth c s₁ [] 0 0 := Stand.of_body Bd
  have e0 : s₁.heap = h0 := by rw [← hh, Bd.state]; rfl
  have N0 := Fr.nil n0
  show own_G p e below (fun (t : State) (o : Outcome) => t.status = .running ∧ Ended t below o ∧ ∃ v L, o = .returned v ∧ Q11 Z r0 q1 q2 g ro dr me us un di pk h0 n0 v t.heap L ∧ FrameEnd s o t L ({ frames := 2, cells := 0, slots := 0, locals := 32 } : Room).cells ({ frames := 2, cells := 0, slots := 0, locals := 32 } : Room).slots) (s₁.setTop (entryFrame m #[(.ref r0), (.long q1), (.long q2)] 5))
  rw [ef_11 m r0 q1 q2]
  have K := Keep.refl h0 [r0]
  refine own_st (B := s₁.setTop (mkF m 3 #[.val (.ref r0), .val (.long q1), .second, .val (.long q2), .second] [(.long q2), (.long q1), (.ref r0)])) (fun t k => ?_) ?_
  · show Steps p.tables e below (s₁.setTop (mkF m 0 #[.val (.ref r0), .val (.long q1), .second, .val (.long q2), .second] [])) _
    refine XS.aloadN X0.here hx rfl (hb hby d11_0) rfl rfl ?_
    show Steps p.tables e below (s₁.setTop (mkF m 1 #[.val (.ref r0), .val (.long q1), .second, .val (.long q2), .second] [(.ref r0)])) _
    refine XS.lloadN X0.here hx rfl (hb hby d11_1) rfl ?_
    show Steps p.tables e below (s₁.setTop (mkF m 2 #[.val (.ref r0), .val (.long q1), .second, .val (.long q2), .second] [(.long q1), (.ref r0)])) _
    refine XS.lloadN X0.here hx rfl (hb hby d11_2) rfl ?_
    exact k
  obtain ⟨cq1, kq1, q1a, q1b, q1c⟩ := isOf hZ e0 G.1
  obtain ⟨_, _, ⟨T1, L1, k1, n1⟩, -, X1, ⟨Lc1, hQ1, l1, y1, z1⟩, st1⟩ := X0.virtualBack hx (y := (⟨"com/example/tidejoin/tidejoin/budget/MemoryBudget", "fits", "(JJ)Z"⟩ : MethodName)) (z := (⟨"com/example/tidejoin/tidejoin/budget/MemoryBudget", "fits", "(JJ)Z"⟩ : MethodName)) hown (mvT hZ (hw _ (List.mem_of_getElem? (i := 62) rfl))) (mvT hZ (hw _ (List.mem_of_getElem? (i := 63) rfl))) (notFace_of_selects (args := #[]) (mvT hZ (hw _ (List.mem_of_getElem? (i := 65) rfl)))) (mvT hZ (hw _ (List.mem_of_getElem? (i := 65) rfl))) (mvT hZ (hw _ (List.mem_of_getElem? (i := 64) rfl))) (by decide) (backOf (W := 0) (rm12 l Z a0 hw [] r0 q1 q2 g ro dr me us un di pk h0 n0 Z0 G ha hb_) hZ (hw _ (List.mem_of_getElem? (i := 66) rfl)) (hw _ (List.mem_of_getElem? (i := 7) rfl)) (by decide) (by decide)) q1a q1c (g := (mkF m 3 #[.val (.ref r0), .val (.long q1), .second, .val (.long q2), .second] [(.long q2), (.long q1), (.ref r0)])) rfl (by rw [hml]; rfl) (Steps.refl _) (argsL := [(.long q1), (.long q2)]) (rest := []) (lenOf pd_2 rfl) rfl (by show 2 * 0 + _ ≤ _; exact Nat.le_of_eq rfl) (hb hby d11_3) (fun _ _ => ⟨rfl, e0, (by decide : 0 + 0 ≤ _), (by decide : 0 + 0 ≤ _)⟩)
  dsimp only [Pt.U, Pt.locs, Pt.cells, Pt.slots] at X1 l1 y1 z1 st1 hQ1
  subst l1 y1 z1
  obtain ⟨rfl, N1q, e1⟩ := hQ1
  have N1 := Fr.app N0 N1q
  refine own_st (B := T1.setTop (mkF m 6 #[.val (.ref r0), .val (.long q1), .second, .val (.long q2), .second] [(.int (own_b (own_fits g ro dr us un di q1 q2)))])) (fun t k => st1.trans k) ?_
  by_cases hf : own_fits g ro dr us un di q1 q2 = false
  · refine own_st (B := T1.setTop (mkF m 10 #[.val (.ref r0), .val (.long q1), .second, .val (.long q2), .second] [(.int (0 : Int32))])) (fun t k => ?_) ?_
    · show Steps p.tables e below (T1.setTop (mkF m 6 #[.val (.ref r0), .val (.long q1), .second, .val (.long q2), .second] [(.int (own_b (own_fits g ro dr us un di q1 q2)))])) _
      refine XS.ifNo X1.here hx rfl (hb hby d11_6) rfl ((if0 _ _).trans (teq (own_b_ne.mpr hf)).2) ?_
      show Steps p.tables e below (T1.setTop (mkF m 9 #[.val (.ref r0), .val (.long q1), .second, .val (.long q2), .second] [])) _
      refine XS.iconst X1.here hx rfl (hb hby d11_9) ?_
      exact k
    obtain ⟨fs, hr, hrun, hended, hW, hsame⟩ := X1.leave (v := some (.int (0 : Int32))) (fun h => by rw [Bd.returns] at h; cases h)
    refine ⟨_, _, ?_, hrun, hended, _, _, rfl, ?_, ⟨_, rfl⟩, hW, hsame.mono (by decide) (by decide)⟩
    · exact retOut X1 hx Bd.returns rfl (Or.inl ⟨rfl, by simp, _, rfl⟩) (hb hby d11_10) hr
    · show Q11 Z r0 q1 q2 g ro dr me us un di pk h0 n0 _ T1.heap _
      rw [e1]
      exact (by rw [Q11, hf]; exact ⟨rfl, N1, K, pk, G⟩)
  · refine own_st (B := T1.setTop (mkF m 13 #[.val (.ref r0), .val (.long q1), .second, .val (.long q2), .second] [(.ref r0), (.ref r0)])) (fun t k => ?_) ?_
    · show Steps p.tables e below (T1.setTop (mkF m 6 #[.val (.ref r0), .val (.long q1), .second, .val (.long q2), .second] [(.int (own_b (own_fits g ro dr us un di q1 q2)))])) _
      refine XS.ifYes X1.here hx rfl (pc0 := 6) (pc' := 11) rfl (hb hby d11_6) rfl ((if0 _ _).trans (feq (fun q => hf (own_b_ne.mp q))).2) (by decide) (by decide) ?_
      show Steps p.tables e below (T1.setTop (mkF m 11 #[.val (.ref r0), .val (.long q1), .second, .val (.long q2), .second] [])) _
      refine XS.aloadN X1.here hx rfl (hb hby d11_11) rfl rfl ?_
      show Steps p.tables e below (T1.setTop (mkF m 12 #[.val (.ref r0), .val (.long q1), .second, .val (.long q2), .second] [(.ref r0)])) _
      refine XS.dup X1.here hx rfl (hb hby d11_12) rfl rfl ?_
      exact k
    rw [Bool.not_eq_false] at hf
    obtain ⟨T2, X2, e2, st2⟩ := getF X1 hx hZ hown (host := "") (Or.inl (hw _ (List.mem_of_getElem? (i := 48) rfl))) Via.refl e1 G.2.2.2.2.2.1 (g := (mkF m 13 #[.val (.ref r0), .val (.long q1), .second, .val (.long q2), .second] [(.ref r0), (.ref r0)])) rfl rfl (hb hby d11_13)
    refine own_st (B := T2.setTop (mkF m 16 #[.val (.ref r0), .val (.long q1), .second, .val (.long q2), .second] [(.long us), (.ref r0)])) (fun t k => st2 t k) ?_
    refine own_st (B := T2.setTop (mkF m 18 #[.val (.ref r0), .val (.long q1), .second, .val (.long q2), .second] [(.long (us + q1)), (.ref r0)])) (fun t k => ?_) ?_
    · show Steps p.tables e below (T2.setTop (mkF m 16 #[.val (.ref r0), .val (.long q1), .second, .val (.long q2), .second] [(.long us), (.ref r0)])) _
      refine XS.lloadN X2.here hx rfl (hb hby d11_16) rfl ?_
      show Steps p.tables e below (T2.setTop (mkF m 17 #[.val (.ref r0), .val (.long q1), .second, .val (.long q2), .second] [(.long q1), (.long us), (.ref r0)])) _
      refine XS.ladd X2.here hx rfl (hb hby d11_17) rfl ?_
      exact k
    obtain ⟨T3, h3, X3, e3, W3, st3⟩ := putF X2 hx hZ hown (host := "") (Or.inl (hw _ (List.mem_of_getElem? (i := 48) rfl))) Via.refl e2 G.2.2.2.2.2.1 G.1 (Or.inl (hw _ (List.mem_of_getElem? (i := 49) rfl))) (hw _ (List.mem_of_getElem? (i := 6) rfl)) (ty := .long) (by decide) rfl rfl (g := (mkF m 18 #[.val (.ref r0), .val (.long q1), .second, .val (.long q2), .second] [(.long (us + q1)), (.ref r0)])) rfl rfl (hb hby d11_18)
    refine own_st (B := T3.setTop (mkF m 21 #[.val (.ref r0), .val (.long q1), .second, .val (.long q2), .second] [])) (fun t k => st3 t k) ?_
    have N3 := Fr.snoc X3 N1 ge
    have Gs3 := G.put_used hw W3
    have Ks3 : Keep h0 h3 [r0] := K.wr W3 (Or.inl (List.mem_of_getElem? (i := 0) rfl))
    refine own_st (B := T3.setTop (mkF m 23 #[.val (.ref r0), .val (.long q1), .second, .val (.long q2), .second] [(.ref r0), (.ref r0)])) (fun t k => ?_) ?_
    · show Steps p.tables e below (T3.setTop (mkF m 21 #[.val (.ref r0), .val (.long q1), .second, .val (.long q2), .second] [])) _
      refine XS.aloadN X3.here hx rfl (hb hby d11_21) rfl rfl ?_
      show Steps p.tables e below (T3.setTop (mkF m 22 #[.val (.ref r0), .val (.long q1), .second, .val (.long q2), .second] [(.ref r0)])) _
      refine XS.dup X3.here hx rfl (hb hby d11_22) rfl rfl ?_
      exact k
    obtain ⟨T4, X4, e4, st4⟩ := getF X3 hx hZ hown (host := "") (Or.inl (hw _ (List.mem_of_getElem? (i := 36) rfl))) Via.refl e3 Gs3.2.2.2.2.2.2.2.1 (g := (mkF m 23 #[.val (.ref r0), .val (.long q1), .second, .val (.long q2), .second] [(.ref r0), (.ref r0)])) rfl rfl (hb hby d11_23)
    refine own_st (B := T4.setTop (mkF m 26 #[.val (.ref r0), .val (.long q1), .second, .val (.long q2), .second] [(.long di), (.ref r0)])) (fun t k => st4 t k) ?_
    refine own_st (B := T4.setTop (mkF m 28 #[.val (.ref r0), .val (.long q1), .second, .val (.long q2), .second] [(.long (di + q2)), (.ref r0)])) (fun t k => ?_) ?_
    · show Steps p.tables e below (T4.setTop (mkF m 26 #[.val (.ref r0), .val (.long q1), .second, .val (.long q2), .second] [(.long di), (.ref r0)])) _
      refine XS.lloadN X4.here hx rfl (hb hby d11_26) rfl ?_
      show Steps p.tables e below (T4.setTop (mkF m 27 #[.val (.ref r0), .val (.long q1), .second, .val (.long q2), .second] [(.long q2), (.long di), (.ref r0)])) _
      refine XS.ladd X4.here hx rfl (hb hby d11_27) rfl ?_
      exact k
    obtain ⟨T5, h5, X5, e5, W5, st5⟩ := putF X4 hx hZ hown (host := "") (Or.inl (hw _ (List.mem_of_getElem? (i := 36) rfl))) Via.refl e4 Gs3.2.2.2.2.2.2.2.1 Gs3.1 (Or.inl (hw _ (List.mem_of_getElem? (i := 37) rfl))) (hw _ (List.mem_of_getElem? (i := 6) rfl)) (ty := .long) (by decide) rfl rfl (g := (mkF m 28 #[.val (.ref r0), .val (.long q1), .second, .val (.long q2), .second] [(.long (di + q2)), (.ref r0)])) rfl rfl (hb hby d11_28)
    refine own_st (B := T5.setTop (mkF m 31 #[.val (.ref r0), .val (.long q1), .second, .val (.long q2), .second] [])) (fun t k => st5 t k) ?_
    have N5 := Fr.snoc X5 N3 ge
    have Gs5 := Gs3.put_direct hw W5
    have Ks5 : Keep h0 h5 [r0] := Ks3.wr W5 (Or.inl (List.mem_of_getElem? (i := 0) rfl))
    refine own_st (B := T5.setTop (mkF m 33 #[.val (.ref r0), .val (.long q1), .second, .val (.long q2), .second] [(.ref r0), (.ref r0)])) (fun t k => ?_) ?_
    · show Steps p.tables e below (T5.setTop (mkF m 31 #[.val (.ref r0), .val (.long q1), .second, .val (.long q2), .second] [])) _
      refine XS.aloadN X5.here hx rfl (hb hby d11_31) rfl rfl ?_
      show Steps p.tables e below (T5.setTop (mkF m 32 #[.val (.ref r0), .val (.long q1), .second, .val (.long q2), .second] [(.ref r0)])) _
      refine XS.aloadN X5.here hx rfl (hb hby d11_32) rfl rfl ?_
      exact k
    obtain ⟨T6, X6, e6, st6⟩ := getF X5 hx hZ hown (host := "") (Or.inl (hw _ (List.mem_of_getElem? (i := 71) rfl))) Via.refl e5 Gs5.2.2.2.2.2.2.2.2 (g := (mkF m 33 #[.val (.ref r0), .val (.long q1), .second, .val (.long q2), .second] [(.ref r0), (.ref r0)])) rfl rfl (hb hby d11_33)
    refine own_st (B := T6.setTop (mkF m 36 #[.val (.ref r0), .val (.long q1), .second, .val (.long q2), .second] [(.long pk), (.ref r0)])) (fun t k => st6 t k) ?_
    refine own_st (B := T6.setTop (mkF m 37 #[.val (.ref r0), .val (.long q1), .second, .val (.long q2), .second] [(.ref r0), (.long pk), (.ref r0)])) (fun t k => ?_) ?_
    · show Steps p.tables e below (T6.setTop (mkF m 36 #[.val (.ref r0), .val (.long q1), .second, .val (.long q2), .second] [(.long pk), (.ref r0)])) _
      refine XS.aloadN X6.here hx rfl (hb hby d11_36) rfl rfl ?_
      exact k
    obtain ⟨T7, X7, e7, st7⟩ := getF X6 hx hZ hown (host := "") (Or.inl (hw _ (List.mem_of_getElem? (i := 48) rfl))) Via.refl e6 Gs5.2.2.2.2.2.1 (g := (mkF m 37 #[.val (.ref r0), .val (.long q1), .second, .val (.long q2), .second] [(.ref r0), (.long pk), (.ref r0)])) rfl rfl (hb hby d11_37)
    refine own_st (B := T7.setTop (mkF m 40 #[.val (.ref r0), .val (.long q1), .second, .val (.long q2), .second] [(.long (us + q1)), (.long pk), (.ref r0)])) (fun t k => st7 t k) ?_
    have Zs : n0 ≤ h5.size := Nat.le_trans Z0 Ks5.1
    obtain ⟨_, _, ⟨T8, L8, k8, n8⟩, -, X8, ⟨Lc8, hQ8, l8, y8, z8⟩, st8⟩ := Jvm.LawKit.callS X7 hx (y := (⟨"java/lang/Math", "max", "(JJ)J"⟩ : MethodName)) hown (mvT hZ (hw _ (List.mem_of_getElem? (i := 73) rfl))) (mvT hZ (hw _ (List.mem_of_getElem? (i := 2) rfl))) (mvT hZ (hw _ (List.mem_of_getElem? (i := 3) rfl))) (mvT hZ (hw _ (List.mem_of_getElem? (i := 4) rfl))) (by decide) (backOf (W := 1) (rm1 l Z a0 hw [] pk (us + q1) h5 n0 Zs) hZ (hw _ (List.mem_of_getElem? (i := 4) rfl)) (hw _ (List.mem_of_getElem? (i := 3) rfl)) (by decide) (by decide)) (g := (mkF m 40 #[.val (.ref r0), .val (.long q1), .second, .val (.long q2), .second] [(.long (us + q1)), (.long pk), (.ref r0)])) rfl (by rw [hml]; rfl) (argsL := [(.long pk), (.long (us + q1))]) (rest := [(.ref r0)]) (lenOf pd_3 rfl) rfl (by show 2 * 0 + _ ≤ _; exact Nat.le_of_eq rfl) (hb hby d11_40) (fun _ _ => ⟨rfl, e7, (by decide : 0 + 0 ≤ _), (by decide : 0 + 0 ≤ _)⟩)
    dsimp only [Pt.U, Pt.locs, Pt.cells, Pt.slots] at X8 l8 y8 z8 st8 hQ8
    subst l8 y8 z8
    obtain ⟨rfl, N8q, e8⟩ := hQ8
    have N8 := Fr.app N5 N8q
    refine own_st (B := T8.setTop (mkF m 43 #[.val (.ref r0), .val (.long q1), .second, .val (.long q2), .second] [(.long (if pk < (us + q1) then (us + q1) else pk)), (.ref r0)])) (fun t k => st8 _ k) ?_
    obtain ⟨T9, h9, X9, e9, W9, st9⟩ := putF X8 hx hZ hown (host := "") (Or.inl (hw _ (List.mem_of_getElem? (i := 71) rfl))) Via.refl e8 Gs5.2.2.2.2.2.2.2.2 Gs5.1 (Or.inl (hw _ (List.mem_of_getElem? (i := 72) rfl))) (hw _ (List.mem_of_getElem? (i := 6) rfl)) (ty := .long) (by decide) rfl rfl (g := (mkF m 43 #[.val (.ref r0), .val (.long q1), .second, .val (.long q2), .second] [(.long (if pk < (us + q1) then (us + q1) else pk)), (.ref r0)])) rfl rfl (hb hby d11_43)
    refine own_st (B := T9.setTop (mkF m 46 #[.val (.ref r0), .val (.long q1), .second, .val (.long q2), .second] [])) (fun t k => st9 t k) ?_
    have N9 := Fr.snoc X9 N8 ge
    have Gs9 := Gs5.put_peak hw W9
    have Ks9 : Keep h0 h9 [r0] := Ks5.wr W9 (Or.inl (List.mem_of_getElem? (i := 0) rfl))
    refine own_st (B := T9.setTop (mkF m 47 #[.val (.ref r0), .val (.long q1), .second, .val (.long q2), .second] [(.int (1 : Int32))])) (fun t k => ?_) ?_
    · show Steps p.tables e below (T9.setTop (mkF m 46 #[.val (.ref r0), .val (.long q1), .second, .val (.long q2), .second] [])) _
      refine XS.iconst X9.here hx rfl (hb hby d11_46) ?_
      exact k
    obtain ⟨fs, hr, hrun, hended, hW, hsame⟩ := X9.leave (v := some (.int (1 : Int32))) (fun h => by rw [Bd.returns] at h; cases h)
    refine ⟨_, _, ?_, hrun, hended, _, _, rfl, ?_, ⟨_, rfl⟩, hW, hsame.mono (by decide) (by decide)⟩
    · exact retOut X9 hx Bd.returns rfl (Or.inl ⟨rfl, by simp, _, rfl⟩) (hb hby d11_47) hr
    · show Q11 Z r0 q1 q2 g ro dr me us un di pk h0 n0 _ T9.heap _
      rw [e9]
      exact (by rw [Q11, hf]; exact ⟨rfl, N9, Ks9, _, Gs9⟩)
theorem d9_0 : decode prog_8_method_21_code 0 = .ok (.lload_n 1, 1) := by decide +kernel
theorem d9_1 : decode prog_8_method_21_code 1 = .ok (.invokestatic 93, 3) := by decide +kernel
theorem d9_4 : decode prog_8_method_21_code 4 = .ok (.aload_n 0, 1) := by decide +kernel
theorem d9_5 : decode prog_8_method_21_code 5 = .ok (.lload_n 1, 1) := by decide +kernel
theorem d9_6 : decode prog_8_method_21_code 6 = .ok (.lconst 0, 1) := by decide +kernel
theorem d9_7 : decode prog_8_method_21_code 7 = .ok (.invokevirtual 107, 3) := by decide +kernel
theorem d9_10 : decode prog_8_method_21_code 10 = .ok (.ireturn, 1) := by decide +kernel
theorem ef_9 (m : MethodId) (x0 : Addr) (x1 : Int64) : entryFrame m #[(.ref x0), (.long x1)] 3 = mkF m 0 #[.val (.ref x0), .val (.long x1), .second] [] := by first | (simp [entryFrame, mkF, argsToLocals, Value.category]; done) | rfl
def Q9 (Z : State) (r0 : Addr) (q1 : Int64) (g : Int64) (ro : Int64) (dr : Int64) (me : Value) (us : Int64) (un : Int64) (di : Int64) (pk : Int64) (h0 : Heap) (n0 : Nat) (v : Option Value) (h : Heap) (L : List Loc) : Prop := v = some (.int (own_b (own_fits g ro dr us un di q1 0))) ∧ Fr n0 L ∧ Keep h0 h [r0] ∧ ∃ pk', own_MB Z h r0 g ro dr me (bif own_fits g ro dr us un di q1 0 then us + q1 else us) un (bif own_fits g ro dr us un di q1 0 then di + 0 else di) pk'
theorem pd_4 : parseMethodDescriptor "(J)V" = some ⟨[.long], none⟩ := by decide +kernel
theorem own_sel_11 {Z s : State} {a0 args : Array Value} (hw : ∀ d ∈ tables_1, d.before a0 Z = true) (hZ : Z.Warmed39 s.vm) : (Jvm.Cond.selects "com/example/tidejoin/tidejoin/budget/MemoryBudget" (⟨"com/example/tidejoin/tidejoin/budget/MemoryBudget", "tryReserve", "(JJ)Z"⟩ : MethodName) (⟨"com/example/tidejoin/tidejoin/budget/MemoryBudget", "tryReserve", "(JJ)Z"⟩ : MethodName)).before args s = true := by
  have w1 : (Jvm.Cond.selects "com/example/tidejoin/tidejoin/budget/MemoryBudget" (⟨"com/example/tidejoin/tidejoin/budget/MemoryBudget", "limit", "()J"⟩ : MethodName) (⟨"com/example/tidejoin/tidejoin/budget/MemoryBudget", "limit", "()J"⟩ : MethodName)).before args s = true := mvT hZ (hw _ (List.mem_of_getElem? (i := 32) rfl))
  obtain ⟨c, r, m, h1, -, h3, -, k, h5, h6⟩ := Cond.selects_spec w1
  have h7 := findClass_of_methodNamed h3
  exact selects_self_of_private (y := (⟨"com/example/tidejoin/tidejoin/budget/MemoryBudget", "tryReserve", "(JJ)Z"⟩ : MethodName)) (c := m.cls) (k := k) h7 h5 h6 (Cond.privateMethod_at (mvP hZ (hw _ (List.mem_of_getElem? (i := 60) rfl)) (args := args))) (mvT hZ (hw _ (List.mem_of_getElem? (i := 59) rfl))) (by decide)
theorem own_dec_11 {Z s : State} {a0 args : Array Value} (hw : ∀ d ∈ tables_1, d.before a0 Z = true) (hZ : Z.Warmed39 s.vm) : (Jvm.Cond.declares (⟨"com/example/tidejoin/tidejoin/budget/MemoryBudget", "tryReserve", "(JJ)Z"⟩ : MethodName)).before args s = true := by
  have w1 : (Jvm.Cond.instanceMethod (⟨"com/example/tidejoin/tidejoin/budget/MemoryBudget", "tryReserve", "(JJ)Z"⟩ : MethodName)).before args s = true := mvT hZ (hw _ (List.mem_of_getElem? (i := 59) rfl))
  have w2 : (Jvm.Cond.code ({ cls := "com/example/tidejoin/tidejoin/budget/MemoryBudget", name := "tryReserve", desc := "(JJ)Z" } : Jvm.MethodName) prog_8_method_22_code (5 : Nat) (Option.some Jvm.ClassFile.FieldType.boolean)).before args s = true := mvT hZ (hw _ (List.mem_of_getElem? (i := 61) rfl))
  obtain ⟨m, meth, h1, h2, h3, -⟩ := Cond.instanceMethod_spec w1
  obtain ⟨meth', c, h5, -, -, -, -, -, -, h6⟩ := Cond.code_spec h1 w2
  cases h2.symm.trans h5
  simp [Cond.before, Cond.holds, Cond.value, h1, h2, h3, h6]
set_option maxRecDepth 65536 in
set_option maxHeartbeats 40000000 in
theorem rm9 (l : Launch) (Z : State) (a0 : Array Value) (hw : ∀ d ∈ tables_1, d.before a0 Z = true) (ws : List Jvm.Cond) (r0 : Addr) (q1 : Int64) (g : Int64) (ro : Int64) (dr : Int64) (me : Value) (us : Int64) (un : Int64) (di : Int64) (pk : Int64) (h0 : Heap) (n0 : Nat) (Z0 : n0 ≤ h0.size) (G : own_MB Z h0 r0 g ro dr me us un di pk) (ge : n0 ≤ r0) (hq : ¬ q1 < 0) :
    MetFree l (⟨"com/example/tidejoin/tidejoin/budget/MemoryBudget", "tryReserve", "(J)Z"⟩ : MethodName) (head1 (Jvm.Cond.code (⟨"com/example/tidejoin/tidejoin/budget/MemoryBudget", "tryReserve", "(J)Z"⟩ : MethodName) prog_8_method_21_code 3 (some .boolean) :: ws) ({ frames := 3, cells := 0, slots := 0, locals := 48 } : Room)) (fun a U => a = #[(.ref r0), (.long q1)] ∧ Z.Warmed39 U.vm ∧ U.heap = h0) (fun _ _ _ _ _ => True) (fun _ U o U' => ∃ v L, o = .returned v ∧ Q9 Z r0 q1 g ro dr me us un di pk h0 n0 v U'.heap L ∧ FrameEnd U o U' L ({ frames := 3, cells := 0, slots := 0, locals := 48 } : Room).cells ({ frames := 3, cells := 0, slots := 0, locals := 48 } : Room).slots) := by
  refine MetFree.of_bodySF (plainFor_of_name pn_3) hisR ?_
  intro p e s m args below meth c s₁ Bd hml0 hP hK
  obtain ⟨rfl, hZ, hh⟩ := hP
  have hx := Bd.exec
  have hby := Bd.bytes
  have hml : c.maxLocals = 3 := hml0
  have hown : s.vm.findClass "com/example/tidejoin/tidejoin/budget/MemoryBudget" = some m.cls := findClass_of_methodNamed Bd.named
  have hnm := (name_of_methodNamed Bd.named Bd.method).1
  have X0 : Stand p l e ({ frames := 3, cells := 0, slots := 0, locals := 48 } : Room) s m #[(.ref r0), (.long q1)] below meth c s₁ [] 0 0 := Stand.of_body Bd
  have e0 : s₁.heap = h0 := by rw [← hh, Bd.state]; rfl
  have N0 := Fr.nil n0
  show own_G p e below (fun (t : State) (o : Outcome) => t.status = .running ∧ Ended t below o ∧ ∃ v L, o = .returned v ∧ Q9 Z r0 q1 g ro dr me us un di pk h0 n0 v t.heap L ∧ FrameEnd s o t L ({ frames := 3, cells := 0, slots := 0, locals := 48 } : Room).cells ({ frames := 3, cells := 0, slots := 0, locals := 48 } : Room).slots) (s₁.setTop (entryFrame m #[(.ref r0), (.long q1)] 3))
  rw [ef_9 m r0 q1]
  refine own_st (B := s₁.setTop (mkF m 1 #[.val (.ref r0), .val (.long q1), .second] [(.long q1)])) (fun t k => ?_) ?_
  · show Steps p.tables e below (s₁.setTop (mkF m 0 #[.val (.ref r0), .val (.long q1), .second] [])) _
    refine XS.lloadN X0.here hx rfl (hb hby d9_0) rfl ?_
    exact k
  obtain ⟨_, _, ⟨T1, L1, k1, n1⟩, -, X1, ⟨Lc1, hQ1, l1, y1, z1⟩, st1⟩ := Jvm.LawKit.callS X0 hx (y := (⟨"com/example/tidejoin/tidejoin/budget/MemoryBudget", "checkReservation", "(J)V"⟩ : MethodName)) hown (mvT hZ (hw _ (List.mem_of_getElem? (i := 55) rfl))) (mvT hZ (hw _ (List.mem_of_getElem? (i := 56) rfl))) (mvT hZ (hw _ (List.mem_of_getElem? (i := 7) rfl))) (mvT hZ (hw _ (List.mem_of_getElem? (i := 57) rfl))) (by decide) (backOf (W := 0) (rm10 l Z a0 hw [] q1 h0 n0 Z0 hq) hZ (hw _ (List.mem_of_getElem? (i := 57) rfl)) (hw _ (List.mem_of_getElem? (i := 7) rfl)) (by decide) (by decide)) (g := (mkF m 1 #[.val (.ref r0), .val (.long q1), .second] [(.long q1)])) rfl (by rw [hml]; rfl) (argsL := [(.long q1)]) (rest := []) (lenOf pd_4 rfl) rfl (by show 2 * 0 + _ ≤ _; exact Nat.le_of_eq rfl) (hb hby d9_1) (fun _ _ => ⟨rfl, e0, (by decide : 0 + 0 ≤ _), (by decide : 0 + 0 ≤ _)⟩)
  dsimp only [Pt.U, Pt.locs, Pt.cells, Pt.slots] at X1 l1 y1 z1 st1 hQ1
  subst l1 y1 z1
  obtain ⟨rfl, N1q, e1⟩ := hQ1
  have N1 := Fr.app N0 N1q
  refine own_st (B := T1.setTop (mkF m 4 #[.val (.ref r0), .val (.long q1), .second] [])) (fun t k => st1 _ k) ?_
  refine own_st (B := T1.setTop (mkF m 7 #[.val (.ref r0), .val (.long q1), .second] [(.long (0 : Int64)), (.long q1), (.ref r0)])) (fun t k => ?_) ?_
  · show Steps p.tables e below (T1.setTop (mkF m 4 #[.val (.ref r0), .val (.long q1), .second] [])) _
    refine XS.aloadN X1.here hx rfl (hb hby d9_4) rfl rfl ?_
    show Steps p.tables e below (T1.setTop (mkF m 5 #[.val (.ref r0), .val (.long q1), .second] [(.ref r0)])) _
    refine XS.lloadN X1.here hx rfl (hb hby d9_5) rfl ?_
    show Steps p.tables e below (T1.setTop (mkF m 6 #[.val (.ref r0), .val (.long q1), .second] [(.long q1), (.ref r0)])) _
    refine XS.lconst X1.here hx rfl (hb hby d9_6) ?_
    exact k
  obtain ⟨cq2, kq2, q2a, q2b, q2c⟩ := isOf hZ e1 G.1
  obtain ⟨_, _, ⟨T2, L2, k2, n2⟩, -, X2, ⟨Lc2, hQ2, l2, y2, z2⟩, st2⟩ := X1.virtualBack hx (y := (⟨"com/example/tidejoin/tidejoin/budget/MemoryBudget", "tryReserve", "(JJ)Z"⟩ : MethodName)) (z := (⟨"com/example/tidejoin/tidejoin/budget/MemoryBudget", "tryReserve", "(JJ)Z"⟩ : MethodName)) hown (mvT hZ (hw _ (List.mem_of_getElem? (i := 58) rfl))) (own_dec_11 hw hZ) (notFace_of_selects (args := #[]) (own_sel_11 hw hZ)) (own_sel_11 hw hZ) (mvT hZ (hw _ (List.mem_of_getElem? (i := 59) rfl))) (by decide) (backOf (W := 0) (rm11 l Z a0 hw [] r0 q1 (0 : Int64) g ro dr me us un di pk h0 n0 Z0 G ge (by decide) hq) hZ (hw _ (List.mem_of_getElem? (i := 61) rfl)) (hw _ (List.mem_of_getElem? (i := 7) rfl)) (by decide) (by decide)) q2a q2c (g := (mkF m 7 #[.val (.ref r0), .val (.long q1), .second] [(.long (0 : Int64)), (.long q1), (.ref r0)])) rfl (by rw [hml]; rfl) (Steps.refl _) (argsL := [(.long q1), (.long (0 : Int64))]) (rest := []) (lenOf pd_2 rfl) rfl (by show 2 * 0 + _ ≤ _; exact Nat.le_of_eq rfl) (hb hby d9_7) (fun _ _ => ⟨rfl, e1, (by decide : 0 + 0 ≤ _), (by decide : 0 + 0 ≤ _)⟩)
  dsimp only [Pt.U, Pt.locs, Pt.cells, Pt.slots] at X2 l2 y2 z2 st2 hQ2
  subst l2 y2 z2
  obtain ⟨rfl, N2q, K, pk', G'⟩ := hQ2
  have N2 := Fr.app N1 N2q
  refine own_st (B := T2.setTop (mkF m 10 #[.val (.ref r0), .val (.long q1), .second] [(.int (own_b (own_fits g ro dr us un di q1 0)))])) (fun t k => st2.trans k) ?_
  obtain ⟨fs, hr, hrun, hended, hW, hsame⟩ := X2.leave (v := some (.int (own_b (own_fits g ro dr us un di q1 0)))) (fun h => by rw [Bd.returns] at h; cases h)
  refine ⟨_, _, ?_, hrun, hended, _, _, rfl, ?_, ⟨_, rfl⟩, hW, hsame.mono (by decide) (by decide)⟩
  · exact retOut X2 hx Bd.returns (own_nb _) (Or.inl ⟨rfl, by simp, _, rfl⟩) (hb hby d9_10) hr
  · show Q9 Z r0 q1 g ro dr me us un di pk h0 n0 _ T2.heap _
    exact ⟨rfl, N2, K, pk', G'⟩
theorem d18_0 : decode prog_8_method_15_code 0 = .ok (.aload_n 0, 1) := by decide +kernel
theorem d18_1 : decode prog_8_method_15_code 1 = .ok (.lload_n 1, 1) := by decide +kernel
theorem d18_2 : decode prog_8_method_15_code 2 = .ok (.lload_n 3, 1) := by decide +kernel
theorem d18_3 : decode prog_8_method_15_code 3 = .ok (.invokevirtual 107, 3) := by decide +kernel
theorem d18_6 : decode prog_8_method_15_code 6 = .ok (.ifCond .eq 4, 3) := by decide +kernel
theorem d18_9 : decode prog_8_method_15_code 9 = .ok (.return_, 1) := by decide +kernel
theorem d18_10 : decode prog_8_method_15_code 10 = .ok (.lload_n 1, 1) := by decide +kernel
theorem d18_11 : decode prog_8_method_15_code 11 = .ok (.aload_n 0, 1) := by decide +kernel
theorem d18_12 : decode prog_8_method_15_code 12 = .ok (.getfield 21, 3) := by decide +kernel
theorem d18_15 : decode prog_8_method_15_code 15 = .ok (.aload_n 0, 1) := by decide +kernel
theorem d18_16 : decode prog_8_method_15_code 16 = .ok (.getfield 58, 3) := by decide +kernel
theorem d18_19 : decode prog_8_method_15_code 19 = .ok (.lsub, 1) := by decide +kernel
theorem d18_20 : decode prog_8_method_15_code 20 = .ok (.lsub, 1) := by decide +kernel
theorem d18_21 : decode prog_8_method_15_code 21 = .ok (.lload_n 1, 1) := by decide +kernel
theorem d18_22 : decode prog_8_method_15_code 22 = .ok (.lload_n 3, 1) := by decide +kernel
theorem d18_23 : decode prog_8_method_15_code 23 = .ok (.lsub, 1) := by decide +kernel
theorem d18_24 : decode prog_8_method_15_code 24 = .ok (.aload_n 0, 1) := by decide +kernel
theorem d18_25 : decode prog_8_method_15_code 25 = .ok (.invokevirtual 110, 3) := by decide +kernel
theorem d18_28 : decode prog_8_method_15_code 28 = .ok (.aload_n 0, 1) := by decide +kernel
theorem d18_29 : decode prog_8_method_15_code 29 = .ok (.getfield 58, 3) := by decide +kernel
theorem d18_32 : decode prog_8_method_15_code 32 = .ok (.lsub, 1) := by decide +kernel
theorem d18_33 : decode prog_8_method_15_code 33 = .ok (.lsub, 1) := by decide +kernel
theorem d18_34 : decode prog_8_method_15_code 34 = .ok (.invokestatic 113, 3) := by decide +kernel
theorem d18_37 : decode prog_8_method_15_code 37 = .ok (.lstore 5, 2) := by decide +kernel
theorem d18_39 : decode prog_8_method_15_code 39 = .ok (.lload 5, 2) := by decide +kernel
theorem d18_41 : decode prog_8_method_15_code 41 = .ok (.lconst 0, 1) := by decide +kernel
theorem d18_42 : decode prog_8_method_15_code 42 = .ok (.lcmp, 1) := by decide +kernel
theorem d18_43 : decode prog_8_method_15_code 43 = .ok (.ifCond .le 61, 3) := by decide +kernel
theorem d18_46 : decode prog_8_method_15_code 46 = .ok (.aload_n 0, 1) := by decide +kernel
theorem d18_47 : decode prog_8_method_15_code 47 = .ok (.getfield 89, 3) := by decide +kernel
theorem d18_50 : decode prog_8_method_15_code 50 = .ok (.ifnull 54, 3) := by decide +kernel
theorem d18_53 : decode prog_8_method_15_code 53 = .ok (.aload_n 0, 1) := by decide +kernel
theorem d18_54 : decode prog_8_method_15_code 54 = .ok (.getfield 116, 3) := by decide +kernel
theorem d18_57 : decode prog_8_method_15_code 57 = .ok (.ifCond .ne 47, 3) := by decide +kernel
theorem d18_60 : decode prog_8_method_15_code 60 = .ok (.aload_n 0, 1) := by decide +kernel
theorem d18_61 : decode prog_8_method_15_code 61 = .ok (.iconst 1, 1) := by decide +kernel
theorem d18_62 : decode prog_8_method_15_code 62 = .ok (.putfield 116, 3) := by decide +kernel
theorem d18_65 : decode prog_8_method_15_code 65 = .ok (.aload_n 0, 1) := by decide +kernel
theorem d18_66 : decode prog_8_method_15_code 66 = .ok (.getfield 89, 3) := by decide +kernel
theorem d18_69 : decode prog_8_method_15_code 69 = .ok (.lload 5, 2) := by decide +kernel
theorem d18_71 : decode prog_8_method_15_code 71 = .ok (.invokeinterface 120 3, 5) := by decide +kernel
theorem d18_76 : decode prog_8_method_15_code 76 = .ok (.aload_n 0, 1) := by decide +kernel
theorem d18_77 : decode prog_8_method_15_code 77 = .ok (.iconst 0, 1) := by decide +kernel
theorem d18_78 : decode prog_8_method_15_code 78 = .ok (.putfield 116, 3) := by decide +kernel
theorem d18_81 : decode prog_8_method_15_code 81 = .ok (.goto 13, 3) := by decide +kernel
theorem d18_84 : decode prog_8_method_15_code 84 = .ok (.astore 7, 2) := by decide +kernel
theorem d18_86 : decode prog_8_method_15_code 86 = .ok (.aload_n 0, 1) := by decide +kernel
theorem d18_87 : decode prog_8_method_15_code 87 = .ok (.iconst 0, 1) := by decide +kernel
theorem d18_88 : decode prog_8_method_15_code 88 = .ok (.putfield 116, 3) := by decide +kernel
theorem d18_91 : decode prog_8_method_15_code 91 = .ok (.aload 7, 2) := by decide +kernel
theorem d18_93 : decode prog_8_method_15_code 93 = .ok (.athrow, 1) := by decide +kernel
theorem d18_94 : decode prog_8_method_15_code 94 = .ok (.aload_n 0, 1) := by decide +kernel
theorem d18_95 : decode prog_8_method_15_code 95 = .ok (.lload_n 1, 1) := by decide +kernel
theorem d18_96 : decode prog_8_method_15_code 96 = .ok (.lload_n 3, 1) := by decide +kernel
theorem d18_97 : decode prog_8_method_15_code 97 = .ok (.invokevirtual 107, 3) := by decide +kernel
theorem d18_100 : decode prog_8_method_15_code 100 = .ok (.ifCond .eq 4, 3) := by decide +kernel
theorem d18_103 : decode prog_8_method_15_code 103 = .ok (.return_, 1) := by decide +kernel
theorem d18_104 : decode prog_8_method_15_code 104 = .ok (.aload_n 0, 1) := by decide +kernel
theorem d18_105 : decode prog_8_method_15_code 105 = .ok (.aload_n 0, 1) := by decide +kernel
theorem d18_106 : decode prog_8_method_15_code 106 = .ok (.getfield 58, 3) := by decide +kernel
theorem d18_109 : decode prog_8_method_15_code 109 = .ok (.lload_n 1, 1) := by decide +kernel
theorem d18_110 : decode prog_8_method_15_code 110 = .ok (.invokestatic 71, 3) := by decide +kernel
theorem d18_113 : decode prog_8_method_15_code 113 = .ok (.lload_n 3, 1) := by decide +kernel
theorem d18_114 : decode prog_8_method_15_code 114 = .ok (.invokevirtual 125, 3) := by decide +kernel
theorem d18_117 : decode prog_8_method_15_code 117 = .ok (.athrow, 1) := by decide +kernel
theorem ef_18 (m : MethodId) (x0 : Addr) (x1 : Int64) (x2 : Int64) : entryFrame m #[(.ref x0), (.long x1), (.long x2)] 8 = mkF m 0 #[.val (.ref x0), .val (.long x1), .second, .val (.long x2), .second, .unset, .unset, .unset] [] := by first | (simp [entryFrame, mkF, argsToLocals, Value.category]; done) | rfl
def Q18 (Z : State) (r0 : Addr) (q1 : Int64) (q2 : Int64) (g : Int64) (ro : Int64) (dr : Int64) (me : Value) (us : Int64) (un : Int64) (di : Int64) (pk : Int64) (h0 : Heap) (n0 : Nat) (v : Option Value) (h : Heap) (L : List Loc) : Prop := v = none ∧ Fr n0 L ∧ Keep h0 h [r0] ∧ ∃ pk', own_MB Z h r0 g ro dr me (us + q1) un (di + q2) pk'
set_option maxRecDepth 65536 in
set_option maxHeartbeats 40000000 in
theorem rm18 (l : Launch) (Z : State) (a0 : Array Value) (hw : ∀ d ∈ tables_1, d.before a0 Z = true) (ws : List Jvm.Cond) (r0 : Addr) (q1 : Int64) (q2 : Int64) (g : Int64) (ro : Int64) (dr : Int64) (me : Value) (us : Int64) (un : Int64) (di : Int64) (pk : Int64) (h0 : Heap) (n0 : Nat) (Z0 : n0 ≤ h0.size) (G : own_MB Z h0 r0 g ro dr me us un di pk) (ge : n0 ≤ r0) (ha : ¬ q2 < 0) (hb_ : ¬ q1 < q2) (hf : own_fits g ro dr us un di q1 q2 = true) :
    MetFree l (⟨"com/example/tidejoin/tidejoin/budget/MemoryBudget", "reserve", "(JJ)V"⟩ : MethodName) (head1 (Jvm.Cond.codeWith (⟨"com/example/tidejoin/tidejoin/budget/MemoryBudget", "reserve", "(JJ)V"⟩ : MethodName) prog_8_method_15_code 8 none [((65), (76), (84), (0)), ((84), (86), (84), (0))] :: ws) ({ frames := 3, cells := 0, slots := 0, locals := 48 } : Room)) (fun a U => a = #[(.ref r0), (.long q1), (.long q2)] ∧ Z.Warmed39 U.vm ∧ U.heap = h0) (fun _ _ _ _ _ => True) (fun _ U o U' => ∃ v L, o = .returned v ∧ Q18 Z r0 q1 q2 g ro dr me us un di pk h0 n0 v U'.heap L ∧ FrameEnd U o U' L ({ frames := 3, cells := 0, slots := 0, locals := 48 } : Room).cells ({ frames := 3, cells := 0, slots := 0, locals := 48 } : Room).slots) := by
  refine MetFree.of_bodySF (plainFor_of_name pn_3) hisWith ?_
  intro p e s m args below meth c s₁ Bd hml0 hP hK
  obtain ⟨rfl, hZ, hh⟩ := hP
  have hx := Bd.exec
  have hby := Bd.bytes
  have hml : c.maxLocals = 8 := hml0
  have hown : s.vm.findClass "com/example/tidejoin/tidejoin/budget/MemoryBudget" = some m.cls := findClass_of_methodNamed Bd.named
  have hnm := (name_of_methodNamed Bd.named Bd.method).1
  have X0 : Stand p l e ({ frames := 3, cells := 0, slots := 0, locals := 48 } : Room) s m #[(.ref r0), (.long q1), (.long q2)] below meth c s₁ [] 0 0 := Stand.of_body Bd
  have e0 : s₁.heap = h0 := by rw [← hh, Bd.state]; rfl
  have N0 := Fr.nil n0
  show own_G p e below (fun (t : State) (o : Outcome) => t.status = .running ∧ Ended t below o ∧ ∃ v L, o = .returned v ∧ Q18 Z r0 q1 q2 g ro dr me us un di pk h0 n0 v t.heap L ∧ FrameEnd s o t L ({ frames := 3, cells := 0, slots := 0, locals := 48 } : Room).cells ({ frames := 3, cells := 0, slots := 0, locals := 48 } : Room).slots) (s₁.setTop (entryFrame m #[(.ref r0), (.long q1), (.long q2)] 8))
  rw [ef_18 m r0 q1 q2]
  refine own_st (B := s₁.setTop (mkF m 3 #[.val (.ref r0), .val (.long q1), .second, .val (.long q2), .second, .unset, .unset, .unset] [(.long q2), (.long q1), (.ref r0)])) (fun t k => ?_) ?_
  · show Steps p.tables e below (s₁.setTop (mkF m 0 #[.val (.ref r0), .val (.long q1), .second, .val (.long q2), .second, .unset, .unset, .unset] [])) _
    refine XS.aloadN X0.here hx rfl (hb hby d18_0) rfl rfl ?_
    show Steps p.tables e below (s₁.setTop (mkF m 1 #[.val (.ref r0), .val (.long q1), .second, .val (.long q2), .second, .unset, .unset, .unset] [(.ref r0)])) _
    refine XS.lloadN X0.here hx rfl (hb hby d18_1) rfl ?_
    show Steps p.tables e below (s₁.setTop (mkF m 2 #[.val (.ref r0), .val (.long q1), .second, .val (.long q2), .second, .unset, .unset, .unset] [(.long q1), (.ref r0)])) _
    refine XS.lloadN X0.here hx rfl (hb hby d18_2) rfl ?_
    exact k
  obtain ⟨cq1, kq1, q1a, q1b, q1c⟩ := isOf hZ e0 G.1
  obtain ⟨_, _, ⟨T1, L1, k1, n1⟩, -, X1, ⟨Lc1, hQ1, l1, y1, z1⟩, st1⟩ := X0.virtualBack hx (y := (⟨"com/example/tidejoin/tidejoin/budget/MemoryBudget", "tryReserve", "(JJ)Z"⟩ : MethodName)) (z := (⟨"com/example/tidejoin/tidejoin/budget/MemoryBudget", "tryReserve", "(JJ)Z"⟩ : MethodName)) hown (mvT hZ (hw _ (List.mem_of_getElem? (i := 58) rfl))) (own_dec_11 hw hZ) (notFace_of_selects (args := #[]) (own_sel_11 hw hZ)) (own_sel_11 hw hZ) (mvT hZ (hw _ (List.mem_of_getElem? (i := 59) rfl))) (by decide) (backOf (W := 0) (rm11 l Z a0 hw [] r0 q1 q2 g ro dr me us un di pk h0 n0 Z0 G ge ha hb_) hZ (hw _ (List.mem_of_getElem? (i := 61) rfl)) (hw _ (List.mem_of_getElem? (i := 7) rfl)) (by decide) (by decide)) q1a q1c (g := (mkF m 3 #[.val (.ref r0), .val (.long q1), .second, .val (.long q2), .second, .unset, .unset, .unset] [(.long q2), (.long q1), (.ref r0)])) rfl (by rw [hml]; rfl) (Steps.refl _) (argsL := [(.long q1), (.long q2)]) (rest := []) (lenOf pd_2 rfl) rfl (by show 2 * 0 + _ ≤ _; exact Nat.le_of_eq rfl) (hb hby d18_3) (fun _ _ => ⟨rfl, e0, (by decide : 0 + 0 ≤ _), (by decide : 0 + 0 ≤ _)⟩)
  dsimp only [Pt.U, Pt.locs, Pt.cells, Pt.slots] at X1 l1 y1 z1 st1 hQ1
  subst l1 y1 z1
  obtain ⟨rfl, N1q, K, pk', G'⟩ := hQ1
  have N1 := Fr.app N0 N1q
  refine own_st (B := T1.setTop (mkF m 6 #[.val (.ref r0), .val (.long q1), .second, .val (.long q2), .second, .unset, .unset, .unset] [(.int (own_b (own_fits g ro dr us un di q1 q2)))])) (fun t k => st1.trans k) ?_
  rw [hf] at G'
  refine own_st (B := T1.setTop (mkF m 9 #[.val (.ref r0), .val (.long q1), .second, .val (.long q2), .second, .unset, .unset, .unset] [])) (fun t k => ?_) ?_
  · show Steps p.tables e below (T1.setTop (mkF m 6 #[.val (.ref r0), .val (.long q1), .second, .val (.long q2), .second, .unset, .unset, .unset] [(.int (own_b (own_fits g ro dr us un di q1 q2)))])) _
    refine XS.ifNo X1.here hx rfl (hb hby d18_6) rfl ((if0 _ _).trans (feq (fun q => by rw [hf] at q; exact absurd q (by decide))).1) ?_
    exact k
  obtain ⟨fs, hr, hrun, hended, hW, hsame⟩ := X1.leave (v := none) (fun _ => rfl)
  refine ⟨_, _, ?_, hrun, hended, _, _, rfl, ?_, ⟨_, rfl⟩, hW, hsame.mono (by decide) (by decide)⟩
  · exact X1.returnOut hx Bd.returns (hb hby d18_9) hr
  · show Q18 Z r0 q1 q2 g ro dr me us un di pk h0 n0 _ T1.heap _
    exact ⟨rfl, N1, K, pk', G'⟩
theorem d17_0 : decode prog_5_method_5_code 0 = .ok (.lload_n 0, 1) := by decide +kernel
theorem d17_1 : decode prog_5_method_5_code 1 = .ok (.ldc2_w 29, 3) := by decide +kernel
theorem d17_4 : decode prog_5_method_5_code 4 = .ok (.ladd, 1) := by decide +kernel
theorem d17_5 : decode prog_5_method_5_code 5 = .ok (.lreturn, 1) := by decide +kernel
theorem pn_17 : plainName "com/example/tidejoin/tidejoin/budget/Footprint" = true := by first | (simp [plainName, overriddenIn]; done) | decide +kernel
theorem ef_17 (m : MethodId) (x0 : Int64) : entryFrame m #[(.long x0)] 2 = mkF m 0 #[.val (.long x0), .second] [] := by first | (simp [entryFrame, mkF, argsToLocals, Value.category]; done) | rfl
def Q17 (Z : State) (q0 : Int64) (h0 : Heap) (n0 : Nat) (v : Option Value) (h : Heap) (L : List Loc) : Prop := v = some (.long (q0 + 256)) ∧ Fr n0 L ∧ h = h0
set_option maxRecDepth 65536 in
set_option maxHeartbeats 40000000 in
theorem rm17 (l : Launch) (Z : State) (a0 : Array Value) (hw : ∀ d ∈ tables_1, d.before a0 Z = true) (ws : List Jvm.Cond) (q0 : Int64) (h0 : Heap) (n0 : Nat) (Z0 : n0 ≤ h0.size) :
    MetFree l (⟨"com/example/tidejoin/tidejoin/budget/Footprint", "directBuffer", "(J)J"⟩ : MethodName) (head1 (Jvm.Cond.code (⟨"com/example/tidejoin/tidejoin/budget/Footprint", "directBuffer", "(J)J"⟩ : MethodName) prog_5_method_5_code 2 (some .long) :: ws) ({ frames := 0, cells := 0, slots := 0, locals := 0 } : Room)) (fun a U => a = #[(.long q0)] ∧ Z.Warmed39 U.vm ∧ U.heap = h0) (fun _ _ _ _ _ => True) (fun _ U o U' => ∃ v L, o = .returned v ∧ Q17 Z q0 h0 n0 v U'.heap L ∧ FrameEnd U o U' L ({ frames := 0, cells := 0, slots := 0, locals := 0 } : Room).cells ({ frames := 0, cells := 0, slots := 0, locals := 0 } : Room).slots) := by
  refine MetFree.of_bodySF (plainFor_of_name pn_17) hisR ?_
  intro p e s m args below meth c s₁ Bd hml0 hP hK
  obtain ⟨rfl, hZ, hh⟩ := hP
  have hx := Bd.exec
  have hby := Bd.bytes
  have hml : c.maxLocals = 2 := hml0
  have hown : s.vm.findClass "com/example/tidejoin/tidejoin/budget/Footprint" = some m.cls := findClass_of_methodNamed Bd.named
  have hnm := (name_of_methodNamed Bd.named Bd.method).1
  have X0 : Stand p l e ({ frames := 0, cells := 0, slots := 0, locals := 0 } : Room) s m #[(.long q0)] below meth c s₁ [] 0 0 := Stand.of_body Bd
  have e0 : s₁.heap = h0 := by rw [← hh, Bd.state]; rfl
  have N0 := Fr.nil n0
  show own_G p e below (fun (t : State) (o : Outcome) => t.status = .running ∧ Ended t below o ∧ ∃ v L, o = .returned v ∧ Q17 Z q0 h0 n0 v t.heap L ∧ FrameEnd s o t L ({ frames := 0, cells := 0, slots := 0, locals := 0 } : Room).cells ({ frames := 0, cells := 0, slots := 0, locals := 0 } : Room).slots) (s₁.setTop (entryFrame m #[(.long q0)] 2))
  rw [ef_17 m q0]
  refine own_st (B := s₁.setTop (mkF m 5 #[.val (.long q0), .second] [(.long (q0 + (256 : Int64)))])) (fun t k => ?_) ?_
  · show Steps p.tables e below (s₁.setTop (mkF m 0 #[.val (.long q0), .second] [])) _
    refine XS.lloadN X0.here hx rfl (hb hby d17_0) rfl ?_
    show Steps p.tables e below (s₁.setTop (mkF m 1 #[.val (.long q0), .second] [(.long q0)])) _
    refine X0.ldc2Long hx hown (mvT hZ (hw _ (List.mem_of_getElem? (i := 94) rfl))) (g := (mkF m 1 #[.val (.long q0), .second] [(.long q0)])) rfl (hb hby d17_1) _ ?_
    show Steps p.tables e below (s₁.setTop (mkF m 4 #[.val (.long q0), .second] [(.long (256 : Int64)), (.long q0)])) _
    refine XS.ladd X0.here hx rfl (hb hby d17_4) rfl ?_
    exact k
  obtain ⟨fs, hr, hrun, hended, hW, hsame⟩ := X0.leave (v := some (.long (q0 + (256 : Int64)))) (fun h => by rw [Bd.returns] at h; cases h)
  refine ⟨_, _, ?_, hrun, hended, _, _, rfl, ?_, ⟨_, rfl⟩, hW, hsame.mono (by decide) (by decide)⟩
  · exact retOut X0 hx Bd.returns rfl (Or.inr (Or.inl ⟨rfl, rfl, _, rfl⟩)) (hb hby d17_5) hr
  · show Q17 Z q0 h0 n0 _ s₁.heap _
    rw [e0]
    exact ⟨rfl, N0, rfl⟩
theorem d16_0 : decode prog_8_method_14_code 0 = .ok (.lload_n 1, 1) := by decide +kernel
theorem d16_1 : decode prog_8_method_14_code 1 = .ok (.lconst 0, 1) := by decide +kernel
theorem d16_2 : decode prog_8_method_14_code 2 = .ok (.lcmp, 1) := by decide +kernel
theorem d16_3 : decode prog_8_method_14_code 3 = .ok (.ifCond .ge 17, 3) := by decide +kernel
theorem d16_6 : decode prog_8_method_14_code 6 = .ok (.new 12, 3) := by decide +kernel
theorem d16_9 : decode prog_8_method_14_code 9 = .ok (.dup, 1) := by decide +kernel
theorem d16_10 : decode prog_8_method_14_code 10 = .ok (.lload_n 1, 1) := by decide +kernel
theorem d16_16 : decode prog_8_method_14_code 16 = .ok (.invokespecial 18, 3) := by decide +kernel
theorem d16_19 : decode prog_8_method_14_code 19 = .ok (.athrow, 1) := by decide +kernel
theorem d16_20 : decode prog_8_method_14_code 20 = .ok (.aload_n 0, 1) := by decide +kernel
theorem d16_21 : decode prog_8_method_14_code 21 = .ok (.lload_n 1, 1) := by decide +kernel
theorem d16_22 : decode prog_8_method_14_code 22 = .ok (.invokestatic 101, 3) := by decide +kernel
theorem d16_25 : decode prog_8_method_14_code 25 = .ok (.lload_n 1, 1) := by decide +kernel
theorem d16_26 : decode prog_8_method_14_code 26 = .ok (.invokevirtual 96, 3) := by decide +kernel
theorem d16_29 : decode prog_8_method_14_code 29 = .ok (.return_, 1) := by decide +kernel
theorem ef_16 (m : MethodId) (x0 : Addr) (x1 : Int64) : entryFrame m #[(.ref x0), (.long x1)] 3 = mkF m 0 #[.val (.ref x0), .val (.long x1), .second] [] := by first | (simp [entryFrame, mkF, argsToLocals, Value.category]; done) | rfl
def Q16 (Z : State) (r0 : Addr) (q1 : Int64) (g : Int64) (ro : Int64) (dr : Int64) (me : Value) (us : Int64) (un : Int64) (di : Int64) (pk : Int64) (h0 : Heap) (n0 : Nat) (v : Option Value) (h : Heap) (L : List Loc) : Prop := v = none ∧ Fr n0 L ∧ Keep h0 h [r0] ∧ ∃ pk', own_MB Z h r0 g ro dr me (us + (q1 + 256)) un (di + q1) pk'
theorem pd_5 : parseMethodDescriptor "(J)J" = some ⟨[.long], some .long⟩ := by decide +kernel
theorem pd_6 : parseMethodDescriptor "(JJ)V" = some ⟨[.long, .long], none⟩ := by decide +kernel
theorem own_sel_18 {Z s : State} {a0 args : Array Value} (hw : ∀ d ∈ tables_1, d.before a0 Z = true) (hZ : Z.Warmed39 s.vm) : (Jvm.Cond.selects "com/example/tidejoin/tidejoin/budget/MemoryBudget" (⟨"com/example/tidejoin/tidejoin/budget/MemoryBudget", "reserve", "(JJ)V"⟩ : MethodName) (⟨"com/example/tidejoin/tidejoin/budget/MemoryBudget", "reserve", "(JJ)V"⟩ : MethodName)).before args s = true := by
  have w1 : (Jvm.Cond.selects "com/example/tidejoin/tidejoin/budget/MemoryBudget" (⟨"com/example/tidejoin/tidejoin/budget/MemoryBudget", "limit", "()J"⟩ : MethodName) (⟨"com/example/tidejoin/tidejoin/budget/MemoryBudget", "limit", "()J"⟩ : MethodName)).before args s = true := mvT hZ (hw _ (List.mem_of_getElem? (i := 32) rfl))
  obtain ⟨c, r, m, h1, -, h3, -, k, h5, h6⟩ := Cond.selects_spec w1
  have h7 := findClass_of_methodNamed h3
  exact selects_self_of_private (y := (⟨"com/example/tidejoin/tidejoin/budget/MemoryBudget", "reserve", "(JJ)V"⟩ : MethodName)) (c := m.cls) (k := k) h7 h5 h6 (Cond.privateMethod_at (mvP hZ (hw _ (List.mem_of_getElem? (i := 97) rfl)) (args := args))) (mvT hZ (hw _ (List.mem_of_getElem? (i := 96) rfl))) (by decide)
theorem own_dec_18 {Z s : State} {a0 args : Array Value} (hw : ∀ d ∈ tables_1, d.before a0 Z = true) (hZ : Z.Warmed39 s.vm) : (Jvm.Cond.declares (⟨"com/example/tidejoin/tidejoin/budget/MemoryBudget", "reserve", "(JJ)V"⟩ : MethodName)).before args s = true := by
  have w1 : (Jvm.Cond.instanceMethod (⟨"com/example/tidejoin/tidejoin/budget/MemoryBudget", "reserve", "(JJ)V"⟩ : MethodName)).before args s = true := mvT hZ (hw _ (List.mem_of_getElem? (i := 96) rfl))
  have w2 : (Jvm.Cond.codeWith ({ cls := "com/example/tidejoin/tidejoin/budget/MemoryBudget", name := "reserve", desc := "(JJ)V" } : Jvm.MethodName) prog_8_method_15_code (8 : Nat) (Option.none : Option Jvm.ClassFile.FieldType) [((65 : Nat), (76 : Nat), (84 : Nat), (0 : Nat)), ((84 : Nat), (86 : Nat), (84 : Nat), (0 : Nat))]).before args s = true := mvT hZ (hw _ (List.mem_of_getElem? (i := 98) rfl))
  obtain ⟨m, meth, h1, h2, h3, -⟩ := Cond.instanceMethod_spec w1
  obtain ⟨m', meth', c, h4, h5, -, -, -, -, -, -, h6⟩ := Cond.codeWith_spec w2
  cases h1.symm.trans h4
  cases h2.symm.trans h5
  simp [Cond.before, Cond.holds, Cond.value, h1, h2, h3, h6]
set_option maxRecDepth 65536 in
set_option maxHeartbeats 40000000 in
theorem rm16 (l : Launch) (Z : State) (a0 : Array Value) (hw : ∀ d ∈ tables_1, d.before a0 Z = true) (ws : List Jvm.Cond) (r0 : Addr) (q1 : Int64) (g : Int64) (ro : Int64) (dr : Int64) (me : Value) (us : Int64) (un : Int64) (di : Int64) (pk : Int64) (h0 : Heap) (n0 : Nat) (Z0 : n0 ≤ h0.size) (G : own_MB Z h0 r0 g ro dr me us un di pk) (ge : n0 ≤ r0) (ha : ¬ q1 < 0) (hb_ : ¬ (q1 + 256) < q1) (hf : own_fits g ro dr us un di (q1 + 256) q1 = true) :
    MetFree l (⟨"com/example/tidejoin/tidejoin/budget/MemoryBudget", "reserveDirectBuffer", "(J)V"⟩ : MethodName) (head1 (Jvm.Cond.code (⟨"com/example/tidejoin/tidejoin/budget/MemoryBudget", "reserveDirectBuffer", "(J)V"⟩ : MethodName) prog_8_method_14_code 3 none :: ws) ({ frames := 4, cells := 0, slots := 0, locals := 67 } : Room)) (fun a U => a = #[(.ref r0), (.long q1)] ∧ Z.Warmed39 U.vm ∧ U.heap = h0) (fun _ _ _ _ _ => True) (fun _ U o U' => ∃ v L, o = .returned v ∧ Q16 Z r0 q1 g ro dr me us un di pk h0 n0 v U'.heap L ∧ FrameEnd U o U' L ({ frames := 4, cells := 0, slots := 0, locals := 67 } : Room).cells ({ frames := 4, cells := 0, slots := 0, locals := 67 } : Room).slots) := by
  refine MetFree.of_bodySF (plainFor_of_name pn_3) hisR ?_
  intro p e s m args below meth c s₁ Bd hml0 hP hK
  obtain ⟨rfl, hZ, hh⟩ := hP
  have hx := Bd.exec
  have hby := Bd.bytes
  have hml : c.maxLocals = 3 := hml0
  have hown : s.vm.findClass "com/example/tidejoin/tidejoin/budget/MemoryBudget" = some m.cls := findClass_of_methodNamed Bd.named
  have hnm := (name_of_methodNamed Bd.named Bd.method).1
  have X0 : Stand p l e ({ frames := 4, cells := 0, slots := 0, locals := 67 } : Room) s m #[(.ref r0), (.long q1)] below meth c s₁ [] 0 0 := Stand.of_body Bd
  have e0 : s₁.heap = h0 := by rw [← hh, Bd.state]; rfl
  have N0 := Fr.nil n0
  show own_G p e below (fun (t : State) (o : Outcome) => t.status = .running ∧ Ended t below o ∧ ∃ v L, o = .returned v ∧ Q16 Z r0 q1 g ro dr me us un di pk h0 n0 v t.heap L ∧ FrameEnd s o t L ({ frames := 4, cells := 0, slots := 0, locals := 67 } : Room).cells ({ frames := 4, cells := 0, slots := 0, locals := 67 } : Room).slots) (s₁.setTop (entryFrame m #[(.ref r0), (.long q1)] 3))
  rw [ef_16 m r0 q1]
  refine own_st (B := s₁.setTop (mkF m 3 #[.val (.ref r0), .val (.long q1), .second] [(.int (lcmpW q1 (0 : Int64)))])) (fun t k => ?_) ?_
  · show Steps p.tables e below (s₁.setTop (mkF m 0 #[.val (.ref r0), .val (.long q1), .second] [])) _
    refine XS.lloadN X0.here hx rfl (hb hby d16_0) rfl ?_
    show Steps p.tables e below (s₁.setTop (mkF m 1 #[.val (.ref r0), .val (.long q1), .second] [(.long q1)])) _
    refine XS.lconst X0.here hx rfl (hb hby d16_1) ?_
    show Steps p.tables e below (s₁.setTop (mkF m 2 #[.val (.ref r0), .val (.long q1), .second] [(.long (0 : Int64)), (.long q1)])) _
    refine XS.lcmp X0.here hx rfl (hb hby d16_2) rfl ?_
    exact k
  refine own_st (B := s₁.setTop (mkF m 22 #[.val (.ref r0), .val (.long q1), .second] [(.long q1), (.ref r0)])) (fun t k => ?_) ?_
  · show Steps p.tables e below (s₁.setTop (mkF m 3 #[.val (.ref r0), .val (.long q1), .second] [(.int (lcmpW q1 (0 : Int64)))])) _
    refine XS.ifYes X0.here hx rfl (pc0 := 3) (pc' := 20) rfl (hb hby d16_3) rfl ((if0 _ _).trans (flt (fun q => ha ((lw_lt _ _).mp q))).2.1) (by decide) (by decide) ?_
    show Steps p.tables e below (s₁.setTop (mkF m 20 #[.val (.ref r0), .val (.long q1), .second] [])) _
    refine XS.aloadN X0.here hx rfl (hb hby d16_20) rfl rfl ?_
    show Steps p.tables e below (s₁.setTop (mkF m 21 #[.val (.ref r0), .val (.long q1), .second] [(.ref r0)])) _
    refine XS.lloadN X0.here hx rfl (hb hby d16_21) rfl ?_
    exact k
  obtain ⟨_, _, ⟨T1, L1, k1, n1⟩, -, X1, ⟨Lc1, hQ1, l1, y1, z1⟩, st1⟩ := Jvm.LawKit.callS X0 hx (y := (⟨"com/example/tidejoin/tidejoin/budget/Footprint", "directBuffer", "(J)J"⟩ : MethodName)) hown (mvT hZ (hw _ (List.mem_of_getElem? (i := 90) rfl))) (mvT hZ (hw _ (List.mem_of_getElem? (i := 91) rfl))) (mvT hZ (hw _ (List.mem_of_getElem? (i := 92) rfl))) (mvT hZ (hw _ (List.mem_of_getElem? (i := 93) rfl))) (by decide) (backOf (W := 1) (rm17 l Z a0 hw [] q1 h0 n0 Z0) hZ (hw _ (List.mem_of_getElem? (i := 93) rfl)) (hw _ (List.mem_of_getElem? (i := 92) rfl)) (by decide) (by decide)) (g := (mkF m 22 #[.val (.ref r0), .val (.long q1), .second] [(.long q1), (.ref r0)])) rfl (by rw [hml]; rfl) (argsL := [(.long q1)]) (rest := [(.ref r0)]) (lenOf pd_5 rfl) rfl (by show 2 * 0 + _ ≤ _; exact Nat.le_of_eq rfl) (hb hby d16_22) (fun _ _ => ⟨rfl, e0, (by decide : 0 + 0 ≤ _), (by decide : 0 + 0 ≤ _)⟩)
  dsimp only [Pt.U, Pt.locs, Pt.cells, Pt.slots] at X1 l1 y1 z1 st1 hQ1
  subst l1 y1 z1
  obtain ⟨rfl, N1q, e1⟩ := hQ1
  have N1 := Fr.app N0 N1q
  refine own_st (B := T1.setTop (mkF m 25 #[.val (.ref r0), .val (.long q1), .second] [(.long (q1 + 256)), (.ref r0)])) (fun t k => st1 _ k) ?_
  refine own_st (B := T1.setTop (mkF m 26 #[.val (.ref r0), .val (.long q1), .second] [(.long q1), (.long (q1 + 256)), (.ref r0)])) (fun t k => ?_) ?_
  · show Steps p.tables e below (T1.setTop (mkF m 25 #[.val (.ref r0), .val (.long q1), .second] [(.long (q1 + 256)), (.ref r0)])) _
    refine XS.lloadN X1.here hx rfl (hb hby d16_25) rfl ?_
    exact k
  obtain ⟨cq2, kq2, q2a, q2b, q2c⟩ := isOf hZ e1 G.1
  obtain ⟨_, _, ⟨T2, L2, k2, n2⟩, -, X2, ⟨Lc2, hQ2, l2, y2, z2⟩, st2⟩ := X1.virtualBack hx (y := (⟨"com/example/tidejoin/tidejoin/budget/MemoryBudget", "reserve", "(JJ)V"⟩ : MethodName)) (z := (⟨"com/example/tidejoin/tidejoin/budget/MemoryBudget", "reserve", "(JJ)V"⟩ : MethodName)) hown (mvT hZ (hw _ (List.mem_of_getElem? (i := 95) rfl))) (own_dec_18 hw hZ) (notFace_of_selects (args := #[]) (own_sel_18 hw hZ)) (own_sel_18 hw hZ) (mvT hZ (hw _ (List.mem_of_getElem? (i := 96) rfl))) (by decide) (backOfWith (W := 0) (rm18 l Z a0 hw [] r0 (q1 + 256) q1 g ro dr me us un di pk h0 n0 Z0 G ge ha hb_ hf) hZ (hw _ (List.mem_of_getElem? (i := 98) rfl)) (hw _ (List.mem_of_getElem? (i := 7) rfl)) (by decide) (by decide)) q2a q2c (g := (mkF m 26 #[.val (.ref r0), .val (.long q1), .second] [(.long q1), (.long (q1 + 256)), (.ref r0)])) rfl (by rw [hml]; rfl) (Steps.refl _) (argsL := [(.long (q1 + 256)), (.long q1)]) (rest := []) (lenOf pd_6 rfl) rfl (by show 2 * 0 + _ ≤ _; exact Nat.le_of_eq rfl) (hb hby d16_26) (fun _ _ => ⟨rfl, e1, (by decide : 0 + 0 ≤ _), (by decide : 0 + 0 ≤ _)⟩)
  dsimp only [Pt.U, Pt.locs, Pt.cells, Pt.slots] at X2 l2 y2 z2 st2 hQ2
  subst l2 y2 z2
  obtain ⟨rfl, N2q, K, pk', G'⟩ := hQ2
  have N2 := Fr.app N1 N2q
  refine own_st (B := T2.setTop (mkF m 29 #[.val (.ref r0), .val (.long q1), .second] [])) (fun t k => st2.trans k) ?_
  obtain ⟨fs, hr, hrun, hended, hW, hsame⟩ := X2.leave (v := none) (fun _ => rfl)
  refine ⟨_, _, ?_, hrun, hended, _, _, rfl, ?_, ⟨_, rfl⟩, hW, hsame.mono (by decide) (by decide)⟩
  · exact X2.returnOut hx Bd.returns (hb hby d16_29) hr
  · show Q16 Z r0 q1 g ro dr me us un di pk h0 n0 _ T2.heap _
    exact ⟨rfl, N2, K, pk', G'⟩
theorem d15_0 : decode prog_8_method_29_code 0 = .ok (.lload_n 1, 1) := by decide +kernel
theorem d15_1 : decode prog_8_method_29_code 1 = .ok (.lconst 0, 1) := by decide +kernel
theorem d15_2 : decode prog_8_method_29_code 2 = .ok (.lcmp, 1) := by decide +kernel
theorem d15_3 : decode prog_8_method_29_code 3 = .ok (.ifCond .lt 12, 3) := by decide +kernel
theorem d15_6 : decode prog_8_method_29_code 6 = .ok (.lload_n 1, 1) := by decide +kernel
theorem d15_7 : decode prog_8_method_29_code 7 = .ok (.aload_n 0, 1) := by decide +kernel
theorem d15_8 : decode prog_8_method_29_code 8 = .ok (.invokevirtual 85, 3) := by decide +kernel
theorem d15_11 : decode prog_8_method_29_code 11 = .ok (.lcmp, 1) := by decide +kernel
theorem d15_12 : decode prog_8_method_29_code 12 = .ok (.ifCond .le 21, 3) := by decide +kernel
theorem d15_15 : decode prog_8_method_29_code 15 = .ok (.new 160, 3) := by decide +kernel
theorem d15_18 : decode prog_8_method_29_code 18 = .ok (.dup, 1) := by decide +kernel
theorem d15_19 : decode prog_8_method_29_code 19 = .ok (.lload_n 1, 1) := by decide +kernel
theorem d15_20 : decode prog_8_method_29_code 20 = .ok (.aload_n 0, 1) := by decide +kernel
theorem d15_21 : decode prog_8_method_29_code 21 = .ok (.invokevirtual 85, 3) := by decide +kernel
theorem d15_29 : decode prog_8_method_29_code 29 = .ok (.invokespecial 165, 3) := by decide +kernel
theorem d15_32 : decode prog_8_method_29_code 32 = .ok (.athrow, 1) := by decide +kernel
theorem d15_33 : decode prog_8_method_29_code 33 = .ok (.aload_n 0, 1) := by decide +kernel
theorem d15_34 : decode prog_8_method_29_code 34 = .ok (.dup, 1) := by decide +kernel
theorem d15_35 : decode prog_8_method_29_code 35 = .ok (.getfield 52, 3) := by decide +kernel
theorem d15_38 : decode prog_8_method_29_code 38 = .ok (.lload_n 1, 1) := by decide +kernel
theorem d15_39 : decode prog_8_method_29_code 39 = .ok (.ladd, 1) := by decide +kernel
theorem d15_40 : decode prog_8_method_29_code 40 = .ok (.putfield 52, 3) := by decide +kernel
theorem d15_43 : decode prog_8_method_29_code 43 = .ok (.return_, 1) := by decide +kernel
theorem ef_15 (m : MethodId) (x0 : Addr) (x1 : Int64) : entryFrame m #[(.ref x0), (.long x1)] 3 = mkF m 0 #[.val (.ref x0), .val (.long x1), .second] [] := by first | (simp [entryFrame, mkF, argsToLocals, Value.category]; done) | rfl
def Q15 (Z : State) (r0 : Addr) (q1 : Int64) (g : Int64) (ro : Int64) (dr : Int64) (me : Value) (us : Int64) (un : Int64) (di : Int64) (pk : Int64) (h0 : Heap) (n0 : Nat) (v : Option Value) (h : Heap) (L : List Loc) : Prop := v = none ∧ Fr n0 L ∧ Keep h0 h [r0] ∧ own_MB Z h r0 g ro dr me us (un + q1) di pk
set_option maxRecDepth 65536 in
set_option maxHeartbeats 40000000 in
theorem rm15 (l : Launch) (Z : State) (a0 : Array Value) (hw : ∀ d ∈ tables_1, d.before a0 Z = true) (ws : List Jvm.Cond) (r0 : Addr) (q1 : Int64) (g : Int64) (ro : Int64) (dr : Int64) (me : Value) (us : Int64) (un : Int64) (di : Int64) (pk : Int64) (h0 : Heap) (n0 : Nat) (Z0 : n0 ≤ h0.size) (G : own_MB Z h0 r0 g ro dr me us un di pk) (ge : n0 ≤ r0) (ha : ¬ q1 < 0) (hm : ¬ (us - un - di) < q1) :
    MetFree l (⟨"com/example/tidejoin/tidejoin/budget/MemoryBudget", "markUnmade", "(J)V"⟩ : MethodName) (head1 (Jvm.Cond.code (⟨"com/example/tidejoin/tidejoin/budget/MemoryBudget", "markUnmade", "(J)V"⟩ : MethodName) prog_8_method_29_code 3 none :: ws) ({ frames := 1, cells := 0, slots := 0, locals := 14 } : Room)) (fun a U => a = #[(.ref r0), (.long q1)] ∧ Z.Warmed39 U.vm ∧ U.heap = h0) (fun _ _ _ _ _ => True) (fun _ U o U' => ∃ v L, o = .returned v ∧ Q15 Z r0 q1 g ro dr me us un di pk h0 n0 v U'.heap L ∧ FrameEnd U o U' L ({ frames := 1, cells := 0, slots := 0, locals := 14 } : Room).cells ({ frames := 1, cells := 0, slots := 0, locals := 14 } : Room).slots) := by
  refine MetFree.of_bodySF (plainFor_of_name pn_3) hisR ?_
  intro p e s m args below meth c s₁ Bd hml0 hP hK
  obtain ⟨rfl, hZ, hh⟩ := hP
  have hx := Bd.exec
  have hby := Bd.bytes
  have hml : c.maxLocals = 3 := hml0
  have hown : s.vm.findClass "com/example/tidejoin/tidejoin/budget/MemoryBudget" = some m.cls := findClass_of_methodNamed Bd.named
  have hnm := (name_of_methodNamed Bd.named Bd.method).1
  have X0 : Stand p l e ({ frames := 1, cells := 0, slots := 0, locals := 14 } : Room) s m #[(.ref r0), (.long q1)] below meth c s₁ [] 0 0 := Stand.of_body Bd
  have e0 : s₁.heap = h0 := by rw [← hh, Bd.state]; rfl
  have N0 := Fr.nil n0
  show own_G p e below (fun (t : State) (o : Outcome) => t.status = .running ∧ Ended t below o ∧ ∃ v L, o = .returned v ∧ Q15 Z r0 q1 g ro dr me us un di pk h0 n0 v t.heap L ∧ FrameEnd s o t L ({ frames := 1, cells := 0, slots := 0, locals := 14 } : Room).cells ({ frames := 1, cells := 0, slots := 0, locals := 14 } : Room).slots) (s₁.setTop (entryFrame m #[(.ref r0), (.long q1)] 3))
  rw [ef_15 m r0 q1]
  have K := Keep.refl h0 [r0]
  refine own_st (B := s₁.setTop (mkF m 3 #[.val (.ref r0), .val (.long q1), .second] [(.int (lcmpW q1 (0 : Int64)))])) (fun t k => ?_) ?_
  · show Steps p.tables e below (s₁.setTop (mkF m 0 #[.val (.ref r0), .val (.long q1), .second] [])) _
    refine XS.lloadN X0.here hx rfl (hb hby d15_0) rfl ?_
    show Steps p.tables e below (s₁.setTop (mkF m 1 #[.val (.ref r0), .val (.long q1), .second] [(.long q1)])) _
    refine XS.lconst X0.here hx rfl (hb hby d15_1) ?_
    show Steps p.tables e below (s₁.setTop (mkF m 2 #[.val (.ref r0), .val (.long q1), .second] [(.long (0 : Int64)), (.long q1)])) _
    refine XS.lcmp X0.here hx rfl (hb hby d15_2) rfl ?_
    exact k
  refine own_st (B := s₁.setTop (mkF m 8 #[.val (.ref r0), .val (.long q1), .second] [(.ref r0), (.long q1)])) (fun t k => ?_) ?_
  · show Steps p.tables e below (s₁.setTop (mkF m 3 #[.val (.ref r0), .val (.long q1), .second] [(.int (lcmpW q1 (0 : Int64)))])) _
    refine XS.ifNo X0.here hx rfl (hb hby d15_3) rfl ((if0 _ _).trans (flt (fun q => ha ((lw_lt _ _).mp q))).1) ?_
    show Steps p.tables e below (s₁.setTop (mkF m 6 #[.val (.ref r0), .val (.long q1), .second] [])) _
    refine XS.lloadN X0.here hx rfl (hb hby d15_6) rfl ?_
    show Steps p.tables e below (s₁.setTop (mkF m 7 #[.val (.ref r0), .val (.long q1), .second] [(.long q1)])) _
    refine XS.aloadN X0.here hx rfl (hb hby d15_7) rfl rfl ?_
    exact k
  obtain ⟨cq1, kq1, q1a, q1b, q1c⟩ := isOf hZ e0 G.1
  obtain ⟨_, _, ⟨T1, L1, k1, n1⟩, -, X1, ⟨Lc1, hQ1, l1, y1, z1⟩, st1⟩ := X0.virtualBack hx (y := (⟨"com/example/tidejoin/tidejoin/budget/MemoryBudget", "made", "()J"⟩ : MethodName)) (z := (⟨"com/example/tidejoin/tidejoin/budget/MemoryBudget", "made", "()J"⟩ : MethodName)) hown (mvT hZ (hw _ (List.mem_of_getElem? (i := 67) rfl))) (own_dec_13 hw hZ) (notFace_of_selects (args := #[]) (own_sel_13 hw hZ)) (own_sel_13 hw hZ) (mvT hZ (hw _ (List.mem_of_getElem? (i := 68) rfl))) (by decide) (backOf (W := 2) (rm13 l Z a0 hw [] r0 g ro dr me us un di pk h0 n0 Z0 G) hZ (hw _ (List.mem_of_getElem? (i := 70) rfl)) (hw _ (List.mem_of_getElem? (i := 7) rfl)) (by decide) (by decide)) q1a q1c (g := (mkF m 8 #[.val (.ref r0), .val (.long q1), .second] [(.ref r0), (.long q1)])) rfl (by rw [hml]; rfl) (Steps.refl _) (argsL := []) (rest := [(.long q1)]) (lenOf pd_1 rfl) rfl (by show 2 * 0 + _ ≤ _; exact Nat.le_of_eq rfl) (hb hby d15_8) (fun _ _ => ⟨rfl, e0, (by decide : 0 + 0 ≤ _), (by decide : 0 + 0 ≤ _)⟩)
  dsimp only [Pt.U, Pt.locs, Pt.cells, Pt.slots] at X1 l1 y1 z1 st1 hQ1
  subst l1 y1 z1
  obtain ⟨rfl, N1q, e1⟩ := hQ1
  have N1 := Fr.app N0 N1q
  refine own_st (B := T1.setTop (mkF m 11 #[.val (.ref r0), .val (.long q1), .second] [(.long (us - un - di)), (.long q1)])) (fun t k => st1.trans k) ?_
  refine own_st (B := T1.setTop (mkF m 12 #[.val (.ref r0), .val (.long q1), .second] [(.int (lcmpW q1 (us - un - di)))])) (fun t k => ?_) ?_
  · show Steps p.tables e below (T1.setTop (mkF m 11 #[.val (.ref r0), .val (.long q1), .second] [(.long (us - un - di)), (.long q1)])) _
    refine XS.lcmp X1.here hx rfl (hb hby d15_11) rfl ?_
    exact k
  refine own_st (B := T1.setTop (mkF m 35 #[.val (.ref r0), .val (.long q1), .second] [(.ref r0), (.ref r0)])) (fun t k => ?_) ?_
  · show Steps p.tables e below (T1.setTop (mkF m 12 #[.val (.ref r0), .val (.long q1), .second] [(.int (lcmpW q1 (us - un - di)))])) _
    refine XS.ifYes X1.here hx rfl (pc0 := 12) (pc' := 33) rfl (hb hby d15_12) rfl ((if0 _ _).trans (flt (fun q => hm ((lw_gt _ _).mp q))).2.2.2) (by decide) (by decide) ?_
    show Steps p.tables e below (T1.setTop (mkF m 33 #[.val (.ref r0), .val (.long q1), .second] [])) _
    refine XS.aloadN X1.here hx rfl (hb hby d15_33) rfl rfl ?_
    show Steps p.tables e below (T1.setTop (mkF m 34 #[.val (.ref r0), .val (.long q1), .second] [(.ref r0)])) _
    refine XS.dup X1.here hx rfl (hb hby d15_34) rfl rfl ?_
    exact k
  obtain ⟨T2, X2, e2, st2⟩ := getF X1 hx hZ hown (host := "") (Or.inl (hw _ (List.mem_of_getElem? (i := 34) rfl))) Via.refl e1 G.2.2.2.2.2.2.1 (g := (mkF m 35 #[.val (.ref r0), .val (.long q1), .second] [(.ref r0), (.ref r0)])) rfl rfl (hb hby d15_35)
  refine own_st (B := T2.setTop (mkF m 38 #[.val (.ref r0), .val (.long q1), .second] [(.long un), (.ref r0)])) (fun t k => st2 t k) ?_
  refine own_st (B := T2.setTop (mkF m 40 #[.val (.ref r0), .val (.long q1), .second] [(.long (un + q1)), (.ref r0)])) (fun t k => ?_) ?_
  · show Steps p.tables e below (T2.setTop (mkF m 38 #[.val (.ref r0), .val (.long q1), .second] [(.long un), (.ref r0)])) _
    refine XS.lloadN X2.here hx rfl (hb hby d15_38) rfl ?_
    show Steps p.tables e below (T2.setTop (mkF m 39 #[.val (.ref r0), .val (.long q1), .second] [(.long q1), (.long un), (.ref r0)])) _
    refine XS.ladd X2.here hx rfl (hb hby d15_39) rfl ?_
    exact k
  obtain ⟨T3, h3, X3, e3, W3, st3⟩ := putF X2 hx hZ hown (host := "") (Or.inl (hw _ (List.mem_of_getElem? (i := 34) rfl))) Via.refl e2 G.2.2.2.2.2.2.1 G.1 (Or.inl (hw _ (List.mem_of_getElem? (i := 35) rfl))) (hw _ (List.mem_of_getElem? (i := 6) rfl)) (ty := .long) (by decide) rfl rfl (g := (mkF m 40 #[.val (.ref r0), .val (.long q1), .second] [(.long (un + q1)), (.ref r0)])) rfl rfl (hb hby d15_40)
  refine own_st (B := T3.setTop (mkF m 43 #[.val (.ref r0), .val (.long q1), .second] [])) (fun t k => st3 t k) ?_
  have N3 := Fr.snoc X3 N1 ge
  have Gs3 := G.put_unmade hw W3
  have Ks3 : Keep h0 h3 [r0] := K.wr W3 (Or.inl (List.mem_of_getElem? (i := 0) rfl))
  obtain ⟨fs, hr, hrun, hended, hW, hsame⟩ := X3.leave (v := none) (fun _ => rfl)
  refine ⟨_, _, ?_, hrun, hended, _, _, rfl, ?_, ⟨_, rfl⟩, hW, hsame.mono (by decide) (by decide)⟩
  · exact X3.returnOut hx Bd.returns (hb hby d15_43) hr
  · show Q15 Z r0 q1 g ro dr me us un di pk h0 n0 _ T3.heap _
    rw [e3]
    exact ⟨rfl, N3, Ks3, Gs3⟩
theorem ef_0 (m : MethodId) (x0 : Int64) (x1 : Int64) (x2 : Int64) (x3 : Int64) (x4 : Int32) : entryFrame m #[(.long x0), (.long x1), (.long x2), (.long x3), (.int x4)] maxLocals = mkF m 0 #[.val (.long x0), .second, .val (.long x1), .second, .val (.long x2), .second, .val (.long x3), .second, .val (.int x4), .unset, .unset, .unset, .unset, .unset, .unset, .unset, .unset, .unset, .unset, .unset, .unset] [] := by first | (simp [entryFrame, mkF, argsToLocals, Value.category, maxLocals]; done) | rfl
def Q0 (Z : State) (q0 : Int64) (q1 : Int64) (q2 : Int64) (q3 : Int64) (fl : Int32) (h0 : Heap) (n0 : Nat) (v : Option Value) (h : Heap) (L : List Loc) : Prop := v = some (.int (1 : Int32)) ∧ Fr n0 L
theorem pd_7 : parseMethodDescriptor "(Lcom/example/tidejoin/tidejoin/budget/MemoryBudget;J)Z" = some ⟨[(.object "com/example/tidejoin/tidejoin/budget/MemoryBudget"), .long], some .boolean⟩ := by decide +kernel
theorem pd_8 : parseMethodDescriptor "(J)Z" = some ⟨[.long], some .boolean⟩ := by decide +kernel
set_option maxRecDepth 65536 in
set_option maxHeartbeats 40000000 in
theorem rm0 (l : Launch) (Z : State) (a0 : Array Value) (hw : ∀ d ∈ tables_1, d.before a0 Z = true) (ws : List Jvm.Cond) (q0 : Int64) (q1 : Int64) (q2 : Int64) (q3 : Int64) (fl : Int32) (h0 : Heap) (n0 : Nat) (Z0 : n0 ≤ h0.size) :
    MetFree l x (head1 (Jvm.Cond.code x code maxLocals ret :: ws) room_1) (fun a U => a = #[(.long q0), (.long q1), (.long q2), (.long q3), (.int fl)] ∧ Z.Warmed39 U.vm ∧ U.heap = h0) (fun _ _ _ _ _ => True) (fun _ U o U' => ∃ v L, o = .returned v ∧ Q0 Z q0 q1 q2 q3 fl h0 n0 v U'.heap L ∧ FrameEnd U o U' L room_1.cells room_1.slots) := by
  refine MetFree.of_bodySF (plainFor_of_name pn_5) hisR ?_
  intro p e s m args below meth c s₁ Bd hml0 hP hK
  obtain ⟨rfl, hZ, hh⟩ := hP
  have hx := Bd.exec
  have hby := Bd.bytes
  have hml : c.maxLocals = 21 := hml0
  have hown : s.vm.findClass "com/example/tidejoin/tidejoin/budget/MemoryBudgetLimitPinLaw" = some m.cls := findClass_of_methodNamed Bd.named
  have hnm := (name_of_methodNamed Bd.named Bd.method).1
  have X0 : Stand p l e room_1 s m #[(.long q0), (.long q1), (.long q2), (.long q3), (.int fl)] below meth c s₁ [] 0 0 := Stand.of_body Bd
  have e0 : s₁.heap = h0 := by rw [← hh, Bd.state]; rfl
  have N0 := Fr.nil n0
  show own_G p e below (fun (t : State) (o : Outcome) => t.status = .running ∧ Ended t below o ∧ ∃ v L, o = .returned v ∧ Q0 Z q0 q1 q2 q3 fl h0 n0 v t.heap L ∧ FrameEnd s o t L room_1.cells room_1.slots) (s₁.setTop (entryFrame m #[(.long q0), (.long q1), (.long q2), (.long q3), (.int fl)] maxLocals))
  rw [ef_0 m q0 q1 q2 q3 fl]
  refine own_st (B := s₁.setTop (mkF m 6 #[.val (.long q0), .second, .val (.long q1), .second, .val (.long q2), .second, .val (.long q3), .second, .val (.int fl), .unset, .unset, .unset, .unset, .unset, .unset, .unset, .unset, .unset, .unset, .unset, .unset] [(.long (q0 &&& (9223372036854775807 : Int64))), (.long (1 : Int64))])) (fun t k => ?_) ?_
  · show Steps p.tables e below (s₁.setTop (mkF m 0 #[.val (.long q0), .second, .val (.long q1), .second, .val (.long q2), .second, .val (.long q3), .second, .val (.int fl), .unset, .unset, .unset, .unset, .unset, .unset, .unset, .unset, .unset, .unset, .unset, .unset] [])) _
    refine XS.lconst X0.here hx rfl (hb hby at_0) ?_
    show Steps p.tables e below (s₁.setTop (mkF m 1 #[.val (.long q0), .second, .val (.long q1), .second, .val (.long q2), .second, .val (.long q3), .second, .val (.int fl), .unset, .unset, .unset, .unset, .unset, .unset, .unset, .unset, .unset, .unset, .unset, .unset] [(.long (1 : Int64))])) _
    refine XS.lloadN X0.here hx rfl (hb hby at_1) rfl ?_
    show Steps p.tables e below (s₁.setTop (mkF m 2 #[.val (.long q0), .second, .val (.long q1), .second, .val (.long q2), .second, .val (.long q3), .second, .val (.int fl), .unset, .unset, .unset, .unset, .unset, .unset, .unset, .unset, .unset, .unset, .unset, .unset] [(.long q0), (.long (1 : Int64))])) _
    refine X0.ldc2Long hx hown (mvT hZ (hw _ (List.mem_of_getElem? (i := 0) rfl))) (g := (mkF m 2 #[.val (.long q0), .second, .val (.long q1), .second, .val (.long q2), .second, .val (.long q3), .second, .val (.int fl), .unset, .unset, .unset, .unset, .unset, .unset, .unset, .unset, .unset, .unset, .unset, .unset] [(.long q0), (.long (1 : Int64))])) rfl (hb hby at_2) _ ?_
    show Steps p.tables e below (s₁.setTop (mkF m 5 #[.val (.long q0), .second, .val (.long q1), .second, .val (.long q2), .second, .val (.long q3), .second, .val (.int fl), .unset, .unset, .unset, .unset, .unset, .unset, .unset, .unset, .unset, .unset, .unset, .unset] [(.long (9223372036854775807 : Int64)), (.long q0), (.long (1 : Int64))])) _
    refine XS.land X0.here hx rfl (hb hby at_5) rfl ?_
    exact k
  obtain ⟨_, _, ⟨T1, L1, k1, n1⟩, -, X1, ⟨Lc1, hQ1, l1, y1, z1⟩, st1⟩ := Jvm.LawKit.callS X0 hx (y := (⟨"java/lang/Math", "max", "(JJ)J"⟩ : MethodName)) hown (mvT hZ (hw _ (List.mem_of_getElem? (i := 1) rfl))) (mvT hZ (hw _ (List.mem_of_getElem? (i := 2) rfl))) (mvT hZ (hw _ (List.mem_of_getElem? (i := 3) rfl))) (mvT hZ (hw _ (List.mem_of_getElem? (i := 4) rfl))) (by decide) (backOf (W := 0) (rm1 l Z a0 hw [] (1 : Int64) (q0 &&& (9223372036854775807 : Int64)) h0 n0 Z0) hZ (hw _ (List.mem_of_getElem? (i := 4) rfl)) (hw _ (List.mem_of_getElem? (i := 3) rfl)) (by decide) (by decide)) (g := (mkF m 6 #[.val (.long q0), .second, .val (.long q1), .second, .val (.long q2), .second, .val (.long q3), .second, .val (.int fl), .unset, .unset, .unset, .unset, .unset, .unset, .unset, .unset, .unset, .unset, .unset, .unset] [(.long (q0 &&& (9223372036854775807 : Int64))), (.long (1 : Int64))])) rfl (by rw [hml]; rfl) (argsL := [(.long (1 : Int64)), (.long (q0 &&& (9223372036854775807 : Int64)))]) (rest := []) (lenOf pd_3 rfl) rfl (by show 2 * 0 + _ ≤ _; exact Nat.le_of_eq rfl) (hb hby at_6) (fun _ _ => ⟨rfl, e0, (by decide : 0 + 0 ≤ _), (by decide : 0 + 0 ≤ _)⟩)
  dsimp only [Pt.U, Pt.locs, Pt.cells, Pt.slots] at X1 l1 y1 z1 st1 hQ1
  subst l1 y1 z1
  obtain ⟨rfl, N1q, e1⟩ := hQ1
  have N1 := Fr.app N0 N1q
  refine own_st (B := T1.setTop (mkF m 9 #[.val (.long q0), .second, .val (.long q1), .second, .val (.long q2), .second, .val (.long q3), .second, .val (.int fl), .unset, .unset, .unset, .unset, .unset, .unset, .unset, .unset, .unset, .unset, .unset, .unset] [(.long (if (1 : Int64) < (q0 &&& (9223372036854775807 : Int64)) then (q0 &&& (9223372036854775807 : Int64)) else (1 : Int64)))])) (fun t k => st1 _ k) ?_
  generalize hll : (if (1 : Int64) < (q0 &&& (9223372036854775807 : Int64)) then (q0 &&& (9223372036854775807 : Int64)) else (1 : Int64)) = ll
  have hl1 : 1 ≤ ll.toInt := by rw [← hll]; exact own_max1 _
  have hl0 : ll ≠ 0 := by
    intro q; rw [q, own_i0] at hl1; omega
  refine own_st (B := T1.setTop (mkF m 11 #[.val (.long q0), .second, .val (.long q1), .second, .val (.long q2), .second, .val (.long q3), .second, .val (.int fl), .val (.long ll), .second, .unset, .unset, .unset, .unset, .unset, .unset, .unset, .unset, .unset, .unset] [])) (fun t k => ?_) ?_
  · show Steps p.tables e below (T1.setTop (mkF m 9 #[.val (.long q0), .second, .val (.long q1), .second, .val (.long q2), .second, .val (.long q3), .second, .val (.int fl), .unset, .unset, .unset, .unset, .unset, .unset, .unset, .unset, .unset, .unset, .unset, .unset] [(.long ll)])) _
    refine XS.lstore X1.here hx rfl (hb hby at_9) rfl (l' := #[.val (.long q0), .second, .val (.long q1), .second, .val (.long q2), .second, .val (.long q3), .second, .val (.int fl), .val (.long ll), .second, .unset, .unset, .unset, .unset, .unset, .unset, .unset, .unset, .unset, .unset]) rfl ?_
    exact k
  obtain ⟨T2, h2, X2, e2, E2, A2, D2, -, st2⟩ := newO X1 hx hZ hown (hw _ (List.mem_of_getElem? (i := 5) rfl)) (hw _ (List.mem_of_getElem? (i := 6) rfl)) (hw _ (List.mem_of_getElem? (i := 7) rfl)) e1 (g := (mkF m 11 #[.val (.long q0), .second, .val (.long q1), .second, .val (.long q2), .second, .val (.long q3), .second, .val (.int fl), .val (.long ll), .second, .unset, .unset, .unset, .unset, .unset, .unset, .unset, .unset, .unset, .unset] [])) rfl (hb hby at_11) (by decide) (by decide)
  obtain ⟨o, g2⟩ : ∃ z, z = h0.size := ⟨_, rfl⟩
  rw [← g2] at A2 D2 st2
  refine own_st (B := T2.setTop (mkF m 14 #[.val (.long q0), .second, .val (.long q1), .second, .val (.long q2), .second, .val (.long q3), .second, .val (.int fl), .val (.long ll), .second, .unset, .unset, .unset, .unset, .unset, .unset, .unset, .unset, .unset, .unset] [(.ref o)])) (fun t k => st2 t k) ?_
  have G0 := own_MB.new hw A2 D2
  have go : n0 ≤ o := Nat.le_trans Z0 (Nat.le_of_eq g2.symm)
  have Za : n0 ≤ h2.size := Nat.le_trans Z0 E2.1
  refine own_st (B := T2.setTop (mkF m 17 #[.val (.long q0), .second, .val (.long q1), .second, .val (.long q2), .second, .val (.long q3), .second, .val (.int fl), .val (.long ll), .second, .unset, .unset, .unset, .unset, .unset, .unset, .unset, .unset, .unset, .unset] [(.long ll), (.ref o), (.ref o)])) (fun t k => ?_) ?_
  · show Steps p.tables e below (T2.setTop (mkF m 14 #[.val (.long q0), .second, .val (.long q1), .second, .val (.long q2), .second, .val (.long q3), .second, .val (.int fl), .val (.long ll), .second, .unset, .unset, .unset, .unset, .unset, .unset, .unset, .unset, .unset, .unset] [(.ref o)])) _
    refine XS.dup X2.here hx rfl (hb hby at_14) rfl rfl ?_
    show Steps p.tables e below (T2.setTop (mkF m 15 #[.val (.long q0), .second, .val (.long q1), .second, .val (.long q2), .second, .val (.long q3), .second, .val (.int fl), .val (.long ll), .second, .unset, .unset, .unset, .unset, .unset, .unset, .unset, .unset, .unset, .unset] [(.ref o), (.ref o)])) _
    refine XS.lload X2.here hx rfl (hb hby at_15) rfl ?_
    exact k
  obtain ⟨_, _, ⟨T3, L3, k3, n3⟩, -, X3, ⟨Lc3, hQ3, l3, y3, z3⟩, st3⟩ := X2.specialBack hx (y := (⟨"com/example/tidejoin/tidejoin/budget/MemoryBudget", "<init>", "(J)V"⟩ : MethodName)) rfl hown (mvT hZ (hw _ (List.mem_of_getElem? (i := 8) rfl))) (mvT hZ (hw _ (List.mem_of_getElem? (i := 9) rfl))) (mvT hZ (hw _ (List.mem_of_getElem? (i := 10) rfl))) (by decide) (backOf (W := 1) (rm2 l Z a0 hw [] o ll h2 n0 Za G0 go (own_nlt (by rw [show (1 : Int64).toInt = 1 from by decide]; exact hl1))) hZ (hw _ (List.mem_of_getElem? (i := 10) rfl)) (hw _ (List.mem_of_getElem? (i := 7) rfl)) (by decide) (by decide)) (g := (mkF m 17 #[.val (.long q0), .second, .val (.long q1), .second, .val (.long q2), .second, .val (.long q3), .second, .val (.int fl), .val (.long ll), .second, .unset, .unset, .unset, .unset, .unset, .unset, .unset, .unset, .unset, .unset] [(.long ll), (.ref o), (.ref o)])) rfl (by rw [hml]; rfl) (Steps.refl _) (a := o) (argsL := [(.long ll)]) (rest := [(.ref o)]) (lenOf pd_4 rfl) rfl (by show 2 * 0 + _ ≤ _; exact Nat.le_of_eq rfl) (hb hby at_17) (fun _ _ => ⟨rfl, e2, (by decide : 1 + 0 ≤ _), (by decide : 10 + 0 ≤ _)⟩)
  dsimp only [Pt.U, Pt.locs, Pt.cells, Pt.slots] at X3 l3 y3 z3 st3 hQ3
  subst l3 y3 z3
  obtain ⟨rfl, N3q, K1, G1⟩ := hQ3
  have N3 := Fr.app N1 N3q
  refine own_st (B := T3.setTop (mkF m 20 #[.val (.long q0), .second, .val (.long q1), .second, .val (.long q2), .second, .val (.long q3), .second, .val (.int fl), .val (.long ll), .second, .unset, .unset, .unset, .unset, .unset, .unset, .unset, .unset, .unset, .unset] [(.ref o)])) (fun t k => st3.trans k) ?_
  have Zb : n0 ≤ T3.heap.size := Nat.le_trans Za K1.1
  have I1 := own_inv0 hl1
  refine own_st (B := T3.setTop (mkF m 26 #[.val (.long q0), .second, .val (.long q1), .second, .val (.long q2), .second, .val (.long q3), .second, .val (.int fl), .val (.long ll), .second, .val (.ref o), .unset, .unset, .unset, .unset, .unset, .unset, .unset, .unset, .unset] [(.long ll), (.ref o)])) (fun t k => ?_) ?_
  · show Steps p.tables e below (T3.setTop (mkF m 20 #[.val (.long q0), .second, .val (.long q1), .second, .val (.long q2), .second, .val (.long q3), .second, .val (.int fl), .val (.long ll), .second, .unset, .unset, .unset, .unset, .unset, .unset, .unset, .unset, .unset, .unset] [(.ref o)])) _
    refine XS.astore X3.here hx rfl (hb hby at_20) rfl rfl (l' := #[.val (.long q0), .second, .val (.long q1), .second, .val (.long q2), .second, .val (.long q3), .second, .val (.int fl), .val (.long ll), .second, .val (.ref o), .unset, .unset, .unset, .unset, .unset, .unset, .unset, .unset, .unset]) rfl ?_
    show Steps p.tables e below (T3.setTop (mkF m 22 #[.val (.long q0), .second, .val (.long q1), .second, .val (.long q2), .second, .val (.long q3), .second, .val (.int fl), .val (.long ll), .second, .val (.ref o), .unset, .unset, .unset, .unset, .unset, .unset, .unset, .unset, .unset] [])) _
    refine XS.aload X3.here hx rfl (hb hby at_22) rfl rfl ?_
    show Steps p.tables e below (T3.setTop (mkF m 24 #[.val (.long q0), .second, .val (.long q1), .second, .val (.long q2), .second, .val (.long q3), .second, .val (.int fl), .val (.long ll), .second, .val (.ref o), .unset, .unset, .unset, .unset, .unset, .unset, .unset, .unset, .unset] [(.ref o)])) _
    refine XS.lload X3.here hx rfl (hb hby at_24) rfl ?_
    exact k
  obtain ⟨_, _, ⟨T4, L4, k4, n4⟩, -, X4, ⟨Lc4, hQ4, l4, y4, z4⟩, st4⟩ := Jvm.LawKit.callS X3 hx (y := (⟨"com/example/tidejoin/tidejoin/budget/MemoryBudgetLimitPinLaw", "same", "(Lcom/example/tidejoin/tidejoin/budget/MemoryBudget;J)Z"⟩ : MethodName)) hown (mvT hZ (hw _ (List.mem_of_getElem? (i := 25) rfl))) (mvT hZ (hw _ (List.mem_of_getElem? (i := 26) rfl))) (mvT hZ (hw _ (List.mem_of_getElem? (i := 27) rfl))) (mvT hZ (hw _ (List.mem_of_getElem? (i := 28) rfl))) (by decide) (backOf (W := 0) (rm5 l Z a0 hw [] o ll ll ll ll .null 0 0 0 0 T3.heap n0 Zb G1 (own_inv_lim I1) rfl (own_inv_us I1)) hZ (hw _ (List.mem_of_getElem? (i := 28) rfl)) (hw _ (List.mem_of_getElem? (i := 27) rfl)) (by decide) (by decide)) (g := (mkF m 26 #[.val (.long q0), .second, .val (.long q1), .second, .val (.long q2), .second, .val (.long q3), .second, .val (.int fl), .val (.long ll), .second, .val (.ref o), .unset, .unset, .unset, .unset, .unset, .unset, .unset, .unset, .unset] [(.long ll), (.ref o)])) rfl (by rw [hml]; rfl) (argsL := [(.ref o), (.long ll)]) (rest := []) (lenOf pd_7 rfl) rfl (by show 2 * 0 + _ ≤ _; exact Nat.le_of_eq rfl) (hb hby at_26) (fun _ _ => ⟨rfl, rfl, (by decide : 1 + 0 ≤ _), (by decide : 10 + 0 ≤ _)⟩)
  dsimp only [Pt.U, Pt.locs, Pt.cells, Pt.slots] at X4 l4 y4 z4 st4 hQ4
  subst l4 y4 z4
  obtain ⟨rfl, N4q, e4⟩ := hQ4
  have N4 := Fr.app N3 N4q
  refine own_st (B := T4.setTop (mkF m 29 #[.val (.long q0), .second, .val (.long q1), .second, .val (.long q2), .second, .val (.long q3), .second, .val (.int fl), .val (.long ll), .second, .val (.ref o), .unset, .unset, .unset, .unset, .unset, .unset, .unset, .unset, .unset] [(.int (1 : Int32))])) (fun t k => st4 _ k) ?_
  refine own_st (B := T4.setTop (mkF m 38 #[.val (.long q0), .second, .val (.long q1), .second, .val (.long q2), .second, .val (.long q3), .second, .val (.int fl), .val (.long ll), .second, .val (.ref o), .val (.int (1 : Int32)), .val (.long (q1 &&& (9223372036854775807 : Int64))), .second, .unset, .unset, .unset, .unset, .unset, .unset] [])) (fun t k => ?_) ?_
  · show Steps p.tables e below (T4.setTop (mkF m 29 #[.val (.long q0), .second, .val (.long q1), .second, .val (.long q2), .second, .val (.long q3), .second, .val (.int fl), .val (.long ll), .second, .val (.ref o), .unset, .unset, .unset, .unset, .unset, .unset, .unset, .unset, .unset] [(.int (1 : Int32))])) _
    refine XS.istore X4.here hx rfl (hb hby at_29) rfl (l' := #[.val (.long q0), .second, .val (.long q1), .second, .val (.long q2), .second, .val (.long q3), .second, .val (.int fl), .val (.long ll), .second, .val (.ref o), .val (.int (1 : Int32)), .unset, .unset, .unset, .unset, .unset, .unset, .unset, .unset]) rfl ?_
    show Steps p.tables e below (T4.setTop (mkF m 31 #[.val (.long q0), .second, .val (.long q1), .second, .val (.long q2), .second, .val (.long q3), .second, .val (.int fl), .val (.long ll), .second, .val (.ref o), .val (.int (1 : Int32)), .unset, .unset, .unset, .unset, .unset, .unset, .unset, .unset] [])) _
    refine XS.lloadN X4.here hx rfl (hb hby at_31) rfl ?_
    show Steps p.tables e below (T4.setTop (mkF m 32 #[.val (.long q0), .second, .val (.long q1), .second, .val (.long q2), .second, .val (.long q3), .second, .val (.int fl), .val (.long ll), .second, .val (.ref o), .val (.int (1 : Int32)), .unset, .unset, .unset, .unset, .unset, .unset, .unset, .unset] [(.long q1)])) _
    refine X4.ldc2Long hx hown (mvT hZ (hw _ (List.mem_of_getElem? (i := 0) rfl))) (g := (mkF m 32 #[.val (.long q0), .second, .val (.long q1), .second, .val (.long q2), .second, .val (.long q3), .second, .val (.int fl), .val (.long ll), .second, .val (.ref o), .val (.int (1 : Int32)), .unset, .unset, .unset, .unset, .unset, .unset, .unset, .unset] [(.long q1)])) rfl (hb hby at_32) _ ?_
    show Steps p.tables e below (T4.setTop (mkF m 35 #[.val (.long q0), .second, .val (.long q1), .second, .val (.long q2), .second, .val (.long q3), .second, .val (.int fl), .val (.long ll), .second, .val (.ref o), .val (.int (1 : Int32)), .unset, .unset, .unset, .unset, .unset, .unset, .unset, .unset] [(.long (9223372036854775807 : Int64)), (.long q1)])) _
    refine XS.land X4.here hx rfl (hb hby at_35) rfl ?_
    show Steps p.tables e below (T4.setTop (mkF m 36 #[.val (.long q0), .second, .val (.long q1), .second, .val (.long q2), .second, .val (.long q3), .second, .val (.int fl), .val (.long ll), .second, .val (.ref o), .val (.int (1 : Int32)), .unset, .unset, .unset, .unset, .unset, .unset, .unset, .unset] [(.long (q1 &&& (9223372036854775807 : Int64)))])) _
    refine XS.lstore X4.here hx rfl (hb hby at_36) rfl (l' := #[.val (.long q0), .second, .val (.long q1), .second, .val (.long q2), .second, .val (.long q3), .second, .val (.int fl), .val (.long ll), .second, .val (.ref o), .val (.int (1 : Int32)), .val (.long (q1 &&& (9223372036854775807 : Int64))), .second, .unset, .unset, .unset, .unset, .unset, .unset]) rfl ?_
    exact k
  generalize hrr : (q1 &&& (9223372036854775807 : Int64)) = rr
  have hr0 : 0 ≤ rr.toInt := by rw [← hrr]; exact own_mask _
  refine own_st (B := T4.setTop (mkF m 42 #[.val (.long q0), .second, .val (.long q1), .second, .val (.long q2), .second, .val (.long q3), .second, .val (.int fl), .val (.long ll), .second, .val (.ref o), .val (.int (1 : Int32)), .val (.long rr), .second, .unset, .unset, .unset, .unset, .unset, .unset] [(.long rr), (.ref o)])) (fun t k => ?_) ?_
  · show Steps p.tables e below (T4.setTop (mkF m 38 #[.val (.long q0), .second, .val (.long q1), .second, .val (.long q2), .second, .val (.long q3), .second, .val (.int fl), .val (.long ll), .second, .val (.ref o), .val (.int (1 : Int32)), .val (.long rr), .second, .unset, .unset, .unset, .unset, .unset, .unset] [])) _
    refine XS.aload X4.here hx rfl (hb hby at_38) rfl rfl ?_
    show Steps p.tables e below (T4.setTop (mkF m 40 #[.val (.long q0), .second, .val (.long q1), .second, .val (.long q2), .second, .val (.long q3), .second, .val (.int fl), .val (.long ll), .second, .val (.ref o), .val (.int (1 : Int32)), .val (.long rr), .second, .unset, .unset, .unset, .unset, .unset, .unset] [(.ref o)])) _
    refine XS.lload X4.here hx rfl (hb hby at_40) rfl ?_
    exact k
  obtain ⟨cq5, kq5, q5a, q5b, q5c⟩ := isOf hZ e4 G1.1
  obtain ⟨_, _, ⟨T5, L5, k5, n5⟩, -, X5, ⟨Lc5, hQ5, l5, y5, z5⟩, st5⟩ := X4.virtualBack hx (y := (⟨"com/example/tidejoin/tidejoin/budget/MemoryBudget", "tryReserve", "(J)Z"⟩ : MethodName)) (z := (⟨"com/example/tidejoin/tidejoin/budget/MemoryBudget", "tryReserve", "(J)Z"⟩ : MethodName)) hown (mvT hZ (hw _ (List.mem_of_getElem? (i := 50) rfl))) (mvT hZ (hw _ (List.mem_of_getElem? (i := 51) rfl))) (notFace_of_selects (args := #[]) (mvT hZ (hw _ (List.mem_of_getElem? (i := 53) rfl)))) (mvT hZ (hw _ (List.mem_of_getElem? (i := 53) rfl))) (mvT hZ (hw _ (List.mem_of_getElem? (i := 52) rfl))) (by decide) (backOf (W := 0) (rm9 l Z a0 hw [] o rr ll ll ll .null 0 0 0 0 T3.heap n0 Zb G1 go (own_nlt (by rw [own_i0]; exact hr0))) hZ (hw _ (List.mem_of_getElem? (i := 54) rfl)) (hw _ (List.mem_of_getElem? (i := 7) rfl)) (by decide) (by decide)) q5a q5c (g := (mkF m 42 #[.val (.long q0), .second, .val (.long q1), .second, .val (.long q2), .second, .val (.long q3), .second, .val (.int fl), .val (.long ll), .second, .val (.ref o), .val (.int (1 : Int32)), .val (.long rr), .second, .unset, .unset, .unset, .unset, .unset, .unset] [(.long rr), (.ref o)])) rfl (by rw [hml]; rfl) (Steps.refl _) (argsL := [(.long rr)]) (rest := []) (lenOf pd_8 rfl) rfl (by show 2 * 0 + _ ≤ _; exact Nat.le_of_eq rfl) (hb hby at_42) (fun _ _ => ⟨rfl, e4, (by decide : 1 + 0 ≤ _), (by decide : 10 + 0 ≤ _)⟩)
  dsimp only [Pt.U, Pt.locs, Pt.cells, Pt.slots] at X5 l5 y5 z5 st5 hQ5
  subst l5 y5 z5
  obtain ⟨rfl, N5q, K2, pk2, G2⟩ := hQ5
  have N5 := Fr.app N4 N5q
  refine own_st (B := T5.setTop (mkF m 45 #[.val (.long q0), .second, .val (.long q1), .second, .val (.long q2), .second, .val (.long q3), .second, .val (.int fl), .val (.long ll), .second, .val (.ref o), .val (.int (1 : Int32)), .val (.long rr), .second, .unset, .unset, .unset, .unset, .unset, .unset] [(.int (own_b (own_fits ll ll ll 0 0 0 rr 0)))])) (fun t k => st5.trans k) ?_
  have Zc : n0 ≤ T5.heap.size := Nat.le_trans Zb K2.1
  generalize hff : own_fits ll ll ll 0 0 0 rr 0 = ff at G2 ⊢
  obtain ⟨us, di, G3, I3, hm3⟩ : ∃ us di : Int64, own_MB Z T5.heap o ll ll ll .null us 0 di pk2 ∧ own_Inv ll us 0 di ∧ (ff = true → rr.toInt ≤ us.toInt - di.toInt) := by
    cases ff
    · exact ⟨_, _, G2, I1, fun q => by cases q⟩
    · obtain ⟨j1, j2, j3⟩ := own_inv_res I1 (by rw [own_i0]; omega) (by rw [own_i0]; exact hr0) hff
      exact ⟨_, _, G2, j1, fun _ => by
        show rr.toInt ≤ (0 + rr).toInt - ((0 : Int64) + 0).toInt
        rw [j2, j3, own_i0]; omega⟩
  refine own_st (B := T5.setTop (mkF m 49 #[.val (.long q0), .second, .val (.long q1), .second, .val (.long q2), .second, .val (.long q3), .second, .val (.int fl), .val (.long ll), .second, .val (.ref o), .val (.int (1 : Int32)), .val (.long rr), .second, .val (.int (own_b ff)), .unset, .unset, .unset, .unset, .unset] [(.int (1 : Int32))])) (fun t k => ?_) ?_
  · show Steps p.tables e below (T5.setTop (mkF m 45 #[.val (.long q0), .second, .val (.long q1), .second, .val (.long q2), .second, .val (.long q3), .second, .val (.int fl), .val (.long ll), .second, .val (.ref o), .val (.int (1 : Int32)), .val (.long rr), .second, .unset, .unset, .unset, .unset, .unset, .unset] [(.int (own_b ff))])) _
    refine XS.istore X5.here hx rfl (hb hby at_45) rfl (l' := #[.val (.long q0), .second, .val (.long q1), .second, .val (.long q2), .second, .val (.long q3), .second, .val (.int fl), .val (.long ll), .second, .val (.ref o), .val (.int (1 : Int32)), .val (.long rr), .second, .val (.int (own_b ff)), .unset, .unset, .unset, .unset, .unset]) rfl ?_
    show Steps p.tables e below (T5.setTop (mkF m 47 #[.val (.long q0), .second, .val (.long q1), .second, .val (.long q2), .second, .val (.long q3), .second, .val (.int fl), .val (.long ll), .second, .val (.ref o), .val (.int (1 : Int32)), .val (.long rr), .second, .val (.int (own_b ff)), .unset, .unset, .unset, .unset, .unset] [])) _
    refine XS.iload X5.here hx rfl (hb hby at_47) rfl ?_
    exact k
  refine own_st (B := T5.setTop (mkF m 56 #[.val (.long q0), .second, .val (.long q1), .second, .val (.long q2), .second, .val (.long q3), .second, .val (.int fl), .val (.long ll), .second, .val (.ref o), .val (.int (1 : Int32)), .val (.long rr), .second, .val (.int (own_b ff)), .unset, .unset, .unset, .unset, .unset] [(.long ll), (.ref o)])) (fun t k => ?_) ?_
  · show Steps p.tables e below (T5.setTop (mkF m 49 #[.val (.long q0), .second, .val (.long q1), .second, .val (.long q2), .second, .val (.long q3), .second, .val (.int fl), .val (.long ll), .second, .val (.ref o), .val (.int (1 : Int32)), .val (.long rr), .second, .val (.int (own_b ff)), .unset, .unset, .unset, .unset, .unset] [(.int (1 : Int32))])) _
    refine XS.ifNo X5.here hx rfl (hb hby at_49) rfl ((if0 _ _).trans (feq (by decide)).1) ?_
    show Steps p.tables e below (T5.setTop (mkF m 52 #[.val (.long q0), .second, .val (.long q1), .second, .val (.long q2), .second, .val (.long q3), .second, .val (.int fl), .val (.long ll), .second, .val (.ref o), .val (.int (1 : Int32)), .val (.long rr), .second, .val (.int (own_b ff)), .unset, .unset, .unset, .unset, .unset] [])) _
    refine XS.aload X5.here hx rfl (hb hby at_52) rfl rfl ?_
    show Steps p.tables e below (T5.setTop (mkF m 54 #[.val (.long q0), .second, .val (.long q1), .second, .val (.long q2), .second, .val (.long q3), .second, .val (.int fl), .val (.long ll), .second, .val (.ref o), .val (.int (1 : Int32)), .val (.long rr), .second, .val (.int (own_b ff)), .unset, .unset, .unset, .unset, .unset] [(.ref o)])) _
    refine XS.lload X5.here hx rfl (hb hby at_54) rfl ?_
    exact k
  obtain ⟨_, _, ⟨T6, L6, k6, n6⟩, -, X6, ⟨Lc6, hQ6, l6, y6, z6⟩, st6⟩ := Jvm.LawKit.callS X5 hx (y := (⟨"com/example/tidejoin/tidejoin/budget/MemoryBudgetLimitPinLaw", "same", "(Lcom/example/tidejoin/tidejoin/budget/MemoryBudget;J)Z"⟩ : MethodName)) hown (mvT hZ (hw _ (List.mem_of_getElem? (i := 25) rfl))) (mvT hZ (hw _ (List.mem_of_getElem? (i := 26) rfl))) (mvT hZ (hw _ (List.mem_of_getElem? (i := 27) rfl))) (mvT hZ (hw _ (List.mem_of_getElem? (i := 28) rfl))) (by decide) (backOf (W := 0) (rm5 l Z a0 hw [] o ll ll ll ll .null us 0 di pk2 T5.heap n0 Zc G3 (own_inv_lim I3) rfl (own_inv_us I3)) hZ (hw _ (List.mem_of_getElem? (i := 28) rfl)) (hw _ (List.mem_of_getElem? (i := 27) rfl)) (by decide) (by decide)) (g := (mkF m 56 #[.val (.long q0), .second, .val (.long q1), .second, .val (.long q2), .second, .val (.long q3), .second, .val (.int fl), .val (.long ll), .second, .val (.ref o), .val (.int (1 : Int32)), .val (.long rr), .second, .val (.int (own_b ff)), .unset, .unset, .unset, .unset, .unset] [(.long ll), (.ref o)])) rfl (by rw [hml]; rfl) (argsL := [(.ref o), (.long ll)]) (rest := []) (lenOf pd_7 rfl) rfl (by show 2 * 0 + _ ≤ _; exact Nat.le_of_eq rfl) (hb hby at_56) (fun _ _ => ⟨rfl, rfl, (by decide : 1 + 0 ≤ _), (by decide : 10 + 0 ≤ _)⟩)
  dsimp only [Pt.U, Pt.locs, Pt.cells, Pt.slots] at X6 l6 y6 z6 st6 hQ6
  subst l6 y6 z6
  obtain ⟨rfl, N6q, e6⟩ := hQ6
  have N6 := Fr.app N5 N6q
  refine own_st (B := T6.setTop (mkF m 59 #[.val (.long q0), .second, .val (.long q1), .second, .val (.long q2), .second, .val (.long q3), .second, .val (.int fl), .val (.long ll), .second, .val (.ref o), .val (.int (1 : Int32)), .val (.long rr), .second, .val (.int (own_b ff)), .unset, .unset, .unset, .unset, .unset] [(.int (1 : Int32))])) (fun t k => st6 _ k) ?_
  refine own_st (B := T6.setTop (mkF m 73 #[.val (.long q0), .second, .val (.long q1), .second, .val (.long q2), .second, .val (.long q3), .second, .val (.int fl), .val (.long ll), .second, .val (.ref o), .val (.int (1 : Int32)), .val (.long rr), .second, .val (.int (own_b ff)), .unset, .unset, .unset, .unset, .unset] [(.int (fl &&& (1 : Int32)))])) (fun t k => ?_) ?_
  · show Steps p.tables e below (T6.setTop (mkF m 59 #[.val (.long q0), .second, .val (.long q1), .second, .val (.long q2), .second, .val (.long q3), .second, .val (.int fl), .val (.long ll), .second, .val (.ref o), .val (.int (1 : Int32)), .val (.long rr), .second, .val (.int (own_b ff)), .unset, .unset, .unset, .unset, .unset] [(.int (1 : Int32))])) _
    refine XS.ifNo X6.here hx rfl (hb hby at_59) rfl ((if0 _ _).trans (feq (by decide)).1) ?_
    show Steps p.tables e below (T6.setTop (mkF m 62 #[.val (.long q0), .second, .val (.long q1), .second, .val (.long q2), .second, .val (.long q3), .second, .val (.int fl), .val (.long ll), .second, .val (.ref o), .val (.int (1 : Int32)), .val (.long rr), .second, .val (.int (own_b ff)), .unset, .unset, .unset, .unset, .unset] [])) _
    refine XS.iconst X6.here hx rfl (hb hby at_62) ?_
    show Steps p.tables e below (T6.setTop (mkF m 63 #[.val (.long q0), .second, .val (.long q1), .second, .val (.long q2), .second, .val (.long q3), .second, .val (.int fl), .val (.long ll), .second, .val (.ref o), .val (.int (1 : Int32)), .val (.long rr), .second, .val (.int (own_b ff)), .unset, .unset, .unset, .unset, .unset] [(.int (1 : Int32))])) _
    refine XS.goto X6.here hx rfl (pc0 := 63) (pc' := 67) rfl (hb hby at_63) (by decide) (by decide) ?_
    show Steps p.tables e below (T6.setTop (mkF m 67 #[.val (.long q0), .second, .val (.long q1), .second, .val (.long q2), .second, .val (.long q3), .second, .val (.int fl), .val (.long ll), .second, .val (.ref o), .val (.int (1 : Int32)), .val (.long rr), .second, .val (.int (own_b ff)), .unset, .unset, .unset, .unset, .unset] [(.int (1 : Int32))])) _
    refine XS.istore X6.here hx rfl (hb hby at_67) rfl (l' := #[.val (.long q0), .second, .val (.long q1), .second, .val (.long q2), .second, .val (.long q3), .second, .val (.int fl), .val (.long ll), .second, .val (.ref o), .val (.int (1 : Int32)), .val (.long rr), .second, .val (.int (own_b ff)), .unset, .unset, .unset, .unset, .unset]) rfl ?_
    show Steps p.tables e below (T6.setTop (mkF m 69 #[.val (.long q0), .second, .val (.long q1), .second, .val (.long q2), .second, .val (.long q3), .second, .val (.int fl), .val (.long ll), .second, .val (.ref o), .val (.int (1 : Int32)), .val (.long rr), .second, .val (.int (own_b ff)), .unset, .unset, .unset, .unset, .unset] [])) _
    refine XS.iload X6.here hx rfl (hb hby at_69) rfl ?_
    show Steps p.tables e below (T6.setTop (mkF m 71 #[.val (.long q0), .second, .val (.long q1), .second, .val (.long q2), .second, .val (.long q3), .second, .val (.int fl), .val (.long ll), .second, .val (.ref o), .val (.int (1 : Int32)), .val (.long rr), .second, .val (.int (own_b ff)), .unset, .unset, .unset, .unset, .unset] [(.int fl)])) _
    refine XS.iconst X6.here hx rfl (hb hby at_71) ?_
    show Steps p.tables e below (T6.setTop (mkF m 72 #[.val (.long q0), .second, .val (.long q1), .second, .val (.long q2), .second, .val (.long q3), .second, .val (.int fl), .val (.long ll), .second, .val (.ref o), .val (.int (1 : Int32)), .val (.long rr), .second, .val (.int (own_b ff)), .unset, .unset, .unset, .unset, .unset] [(.int (1 : Int32)), (.int fl)])) _
    refine XS.iand X6.here hx rfl (hb hby at_72) rfl ?_
    exact k
  have k81 : ∀ df : Bool, own_G p e below (fun (t : State) (o : Outcome) => t.status = .running ∧ Ended t below o ∧ ∃ v L, o = .returned v ∧ Q0 Z q0 q1 q2 q3 fl h0 n0 v t.heap L ∧ FrameEnd s o t L room_1.cells room_1.slots) (T6.setTop (mkF m 81 #[.val (.long q0), .second, .val (.long q1), .second, .val (.long q2), .second, .val (.long q3), .second, .val (.int fl), .val (.long ll), .second, .val (.ref o), .val (.int (1 : Int32)), .val (.long rr), .second, .val (.int (own_b ff)), .unset, .unset, .unset, .unset, .unset] [(.int (own_b df))])) := by
    intro df
    refine own_st (B := T6.setTop (mkF m 94 #[.val (.long q0), .second, .val (.long q1), .second, .val (.long q2), .second, .val (.long q3), .second, .val (.int fl), .val (.long ll), .second, .val (.ref o), .val (.int (1 : Int32)), .val (.long rr), .second, .val (.int (own_b ff)), .val (.int (own_b df)), .val (.long ((q3 &&& (4611686018427387903 : Int64)) - ((q3 &&& (4611686018427387903 : Int64)) / ll) * ll)), .second, .unset, .unset] [])) (fun t k => ?_) ?_
    · show Steps p.tables e below (T6.setTop (mkF m 81 #[.val (.long q0), .second, .val (.long q1), .second, .val (.long q2), .second, .val (.long q3), .second, .val (.int fl), .val (.long ll), .second, .val (.ref o), .val (.int (1 : Int32)), .val (.long rr), .second, .val (.int (own_b ff)), .unset, .unset, .unset, .unset, .unset] [(.int (own_b df))])) _
      refine XS.istore X6.here hx rfl (hb hby at_81) rfl (l' := #[.val (.long q0), .second, .val (.long q1), .second, .val (.long q2), .second, .val (.long q3), .second, .val (.int fl), .val (.long ll), .second, .val (.ref o), .val (.int (1 : Int32)), .val (.long rr), .second, .val (.int (own_b ff)), .val (.int (own_b df)), .unset, .unset, .unset, .unset]) rfl ?_
      show Steps p.tables e below (T6.setTop (mkF m 83 #[.val (.long q0), .second, .val (.long q1), .second, .val (.long q2), .second, .val (.long q3), .second, .val (.int fl), .val (.long ll), .second, .val (.ref o), .val (.int (1 : Int32)), .val (.long rr), .second, .val (.int (own_b ff)), .val (.int (own_b df)), .unset, .unset, .unset, .unset] [])) _
      refine XS.lload X6.here hx rfl (hb hby at_83) rfl ?_
      show Steps p.tables e below (T6.setTop (mkF m 85 #[.val (.long q0), .second, .val (.long q1), .second, .val (.long q2), .second, .val (.long q3), .second, .val (.int fl), .val (.long ll), .second, .val (.ref o), .val (.int (1 : Int32)), .val (.long rr), .second, .val (.int (own_b ff)), .val (.int (own_b df)), .unset, .unset, .unset, .unset] [(.long q3)])) _
      refine X6.ldc2Long hx hown (mvT hZ (hw _ (List.mem_of_getElem? (i := 74) rfl))) (g := (mkF m 85 #[.val (.long q0), .second, .val (.long q1), .second, .val (.long q2), .second, .val (.long q3), .second, .val (.int fl), .val (.long ll), .second, .val (.ref o), .val (.int (1 : Int32)), .val (.long rr), .second, .val (.int (own_b ff)), .val (.int (own_b df)), .unset, .unset, .unset, .unset] [(.long q3)])) rfl (hb hby at_85) _ ?_
      show Steps p.tables e below (T6.setTop (mkF m 88 #[.val (.long q0), .second, .val (.long q1), .second, .val (.long q2), .second, .val (.long q3), .second, .val (.int fl), .val (.long ll), .second, .val (.ref o), .val (.int (1 : Int32)), .val (.long rr), .second, .val (.int (own_b ff)), .val (.int (own_b df)), .unset, .unset, .unset, .unset] [(.long (4611686018427387903 : Int64)), (.long q3)])) _
      refine XS.land X6.here hx rfl (hb hby at_88) rfl ?_
      show Steps p.tables e below (T6.setTop (mkF m 89 #[.val (.long q0), .second, .val (.long q1), .second, .val (.long q2), .second, .val (.long q3), .second, .val (.int fl), .val (.long ll), .second, .val (.ref o), .val (.int (1 : Int32)), .val (.long rr), .second, .val (.int (own_b ff)), .val (.int (own_b df)), .unset, .unset, .unset, .unset] [(.long (q3 &&& (4611686018427387903 : Int64)))])) _
      refine XS.lload X6.here hx rfl (hb hby at_89) rfl ?_
      show Steps p.tables e below (T6.setTop (mkF m 91 #[.val (.long q0), .second, .val (.long q1), .second, .val (.long q2), .second, .val (.long q3), .second, .val (.int fl), .val (.long ll), .second, .val (.ref o), .val (.int (1 : Int32)), .val (.long rr), .second, .val (.int (own_b ff)), .val (.int (own_b df)), .unset, .unset, .unset, .unset] [(.long ll), (.long (q3 &&& (4611686018427387903 : Int64)))])) _
      refine XS.lrem X6.here hx rfl (hb hby at_91) rfl hl0 ?_
      show Steps p.tables e below (T6.setTop (mkF m 92 #[.val (.long q0), .second, .val (.long q1), .second, .val (.long q2), .second, .val (.long q3), .second, .val (.int fl), .val (.long ll), .second, .val (.ref o), .val (.int (1 : Int32)), .val (.long rr), .second, .val (.int (own_b ff)), .val (.int (own_b df)), .unset, .unset, .unset, .unset] [(.long ((q3 &&& (4611686018427387903 : Int64)) - ((q3 &&& (4611686018427387903 : Int64)) / ll) * ll))])) _
      refine XS.lstore X6.here hx rfl (hb hby at_92) rfl (l' := #[.val (.long q0), .second, .val (.long q1), .second, .val (.long q2), .second, .val (.long q3), .second, .val (.int fl), .val (.long ll), .second, .val (.ref o), .val (.int (1 : Int32)), .val (.long rr), .second, .val (.int (own_b ff)), .val (.int (own_b df)), .val (.long ((q3 &&& (4611686018427387903 : Int64)) - ((q3 &&& (4611686018427387903 : Int64)) / ll) * ll)), .second, .unset, .unset]) rfl ?_
      exact k
    generalize hcc : ((q3 &&& (4611686018427387903 : Int64)) - ((q3 &&& (4611686018427387903 : Int64)) / ll) * ll) = cc
    have hc : 0 ≤ cc.toInt ∧ cc.toInt ≤ 4611686018427387903 := by
      rw [← hcc]
      have j1 := own_mask62 q3
      have j2 := own_rem j1.1 hl1
      exact ⟨j2.1, Int.le_trans j2.2 j1.2⟩
    have h256 := own_256 hc.1 hc.2
    have hcA : ¬ cc < 0 := own_nlt (by rw [own_i0]; exact hc.1)
    have hcB : ¬ (cc + 256) < cc := own_nlt (by omega)
    have k191 : ∀ (T7 : State) (lc7 : List Loc) (X7 : Stand p l e room_1 s m #[(.long q0), (.long q1), (.long q2), (.long q3), (.int fl)] below meth c T7 lc7 1 10) (N7 : Fr n0 lc7) (Z7 : n0 ≤ T7.heap.size) (s19 s20 : Slot) (us un di pk : Int64) (G : own_MB Z T7.heap o ll ll ll .null us un di pk) (I : own_Inv ll us un di), own_G p e below (fun (t : State) (o : Outcome) => t.status = .running ∧ Ended t below o ∧ ∃ v L, o = .returned v ∧ Q0 Z q0 q1 q2 q3 fl h0 n0 v t.heap L ∧ FrameEnd s o t L room_1.cells room_1.slots) (T7.setTop (mkF m 191 #[.val (.long q0), .second, .val (.long q1), .second, .val (.long q2), .second, .val (.long q3), .second, .val (.int fl), .val (.long ll), .second, .val (.ref o), .val (.int (1 : Int32)), .val (.long rr), .second, .val (.int (own_b ff)), .val (.int (own_b df)), .val (.long cc), .second, s19, s20] [])) := by
      intro T7 lc7 X7 N7 Z7 s19 s20 us un di pk G I
      refine own_st (B := T7.setTop (mkF m 193 #[.val (.long q0), .second, .val (.long q1), .second, .val (.long q2), .second, .val (.long q3), .second, .val (.int fl), .val (.long ll), .second, .val (.ref o), .val (.int (1 : Int32)), .val (.long rr), .second, .val (.int (own_b ff)), .val (.int (own_b df)), .val (.long cc), .second, s19, s20] [(.int (own_b df))])) (fun t k => ?_) ?_
      · show Steps p.tables e below (T7.setTop (mkF m 191 #[.val (.long q0), .second, .val (.long q1), .second, .val (.long q2), .second, .val (.long q3), .second, .val (.int fl), .val (.long ll), .second, .val (.ref o), .val (.int (1 : Int32)), .val (.long rr), .second, .val (.int (own_b ff)), .val (.int (own_b df)), .val (.long cc), .second, s19, s20] [])) _
        refine XS.iload X7.here hx rfl (hb hby at_191) rfl ?_
        exact k
      by_cases hd : df = false
      · refine own_st (B := T7.setTop (mkF m 206 #[.val (.long q0), .second, .val (.long q1), .second, .val (.long q2), .second, .val (.long q3), .second, .val (.int fl), .val (.long ll), .second, .val (.ref o), .val (.int (1 : Int32)), .val (.long rr), .second, .val (.int (own_b ff)), .val (.int (own_b df)), .val (.long cc), .second, s19, s20] [(.long cc), (.long (cc + (256 : Int64))), (.ref o)])) (fun t k => ?_) ?_
        · show Steps p.tables e below (T7.setTop (mkF m 193 #[.val (.long q0), .second, .val (.long q1), .second, .val (.long q2), .second, .val (.long q3), .second, .val (.int fl), .val (.long ll), .second, .val (.ref o), .val (.int (1 : Int32)), .val (.long rr), .second, .val (.int (own_b ff)), .val (.int (own_b df)), .val (.long cc), .second, s19, s20] [(.int (own_b df))])) _
          refine XS.ifNo X7.here hx rfl (hb hby at_193) rfl ((if0 _ _).trans (teq (own_b_ne.mpr hd)).2) ?_
          show Steps p.tables e below (T7.setTop (mkF m 196 #[.val (.long q0), .second, .val (.long q1), .second, .val (.long q2), .second, .val (.long q3), .second, .val (.int fl), .val (.long ll), .second, .val (.ref o), .val (.int (1 : Int32)), .val (.long rr), .second, .val (.int (own_b ff)), .val (.int (own_b df)), .val (.long cc), .second, s19, s20] [])) _
          refine XS.aload X7.here hx rfl (hb hby at_196) rfl rfl ?_
          show Steps p.tables e below (T7.setTop (mkF m 198 #[.val (.long q0), .second, .val (.long q1), .second, .val (.long q2), .second, .val (.long q3), .second, .val (.int fl), .val (.long ll), .second, .val (.ref o), .val (.int (1 : Int32)), .val (.long rr), .second, .val (.int (own_b ff)), .val (.int (own_b df)), .val (.long cc), .second, s19, s20] [(.ref o)])) _
          refine XS.lload X7.here hx rfl (hb hby at_198) rfl ?_
          show Steps p.tables e below (T7.setTop (mkF m 200 #[.val (.long q0), .second, .val (.long q1), .second, .val (.long q2), .second, .val (.long q3), .second, .val (.int fl), .val (.long ll), .second, .val (.ref o), .val (.int (1 : Int32)), .val (.long rr), .second, .val (.int (own_b ff)), .val (.int (own_b df)), .val (.long cc), .second, s19, s20] [(.long cc), (.ref o)])) _
          refine X7.ldc2Long hx hown (mvT hZ (hw _ (List.mem_of_getElem? (i := 75) rfl))) (g := (mkF m 200 #[.val (.long q0), .second, .val (.long q1), .second, .val (.long q2), .second, .val (.long q3), .second, .val (.int fl), .val (.long ll), .second, .val (.ref o), .val (.int (1 : Int32)), .val (.long rr), .second, .val (.int (own_b ff)), .val (.int (own_b df)), .val (.long cc), .second, s19, s20] [(.long cc), (.ref o)])) rfl (hb hby at_200) _ ?_
          show Steps p.tables e below (T7.setTop (mkF m 203 #[.val (.long q0), .second, .val (.long q1), .second, .val (.long q2), .second, .val (.long q3), .second, .val (.int fl), .val (.long ll), .second, .val (.ref o), .val (.int (1 : Int32)), .val (.long rr), .second, .val (.int (own_b ff)), .val (.int (own_b df)), .val (.long cc), .second, s19, s20] [(.long (256 : Int64)), (.long cc), (.ref o)])) _
          refine XS.ladd X7.here hx rfl (hb hby at_203) rfl ?_
          show Steps p.tables e below (T7.setTop (mkF m 204 #[.val (.long q0), .second, .val (.long q1), .second, .val (.long q2), .second, .val (.long q3), .second, .val (.int fl), .val (.long ll), .second, .val (.ref o), .val (.int (1 : Int32)), .val (.long rr), .second, .val (.int (own_b ff)), .val (.int (own_b df)), .val (.long cc), .second, s19, s20] [(.long (cc + (256 : Int64))), (.ref o)])) _
          refine XS.lload X7.here hx rfl (hb hby at_204) rfl ?_
          exact k
        obtain ⟨cq8, kq8, q8a, q8b, q8c⟩ := isOf hZ rfl G.1
        obtain ⟨_, _, ⟨T8, L8, k8, n8⟩, -, X8, ⟨Lc8, hQ8, l8, y8, z8⟩, st8⟩ := X7.virtualBack hx (y := (⟨"com/example/tidejoin/tidejoin/budget/MemoryBudget", "fits", "(JJ)Z"⟩ : MethodName)) (z := (⟨"com/example/tidejoin/tidejoin/budget/MemoryBudget", "fits", "(JJ)Z"⟩ : MethodName)) hown (mvT hZ (hw _ (List.mem_of_getElem? (i := 76) rfl))) (mvT hZ (hw _ (List.mem_of_getElem? (i := 63) rfl))) (notFace_of_selects (args := #[]) (mvT hZ (hw _ (List.mem_of_getElem? (i := 65) rfl)))) (mvT hZ (hw _ (List.mem_of_getElem? (i := 65) rfl))) (mvT hZ (hw _ (List.mem_of_getElem? (i := 64) rfl))) (by decide) (backOf (W := 0) (rm12 l Z a0 hw [] o (cc + (256 : Int64)) cc ll ll ll .null us un di pk T7.heap n0 Z7 G hcA hcB) hZ (hw _ (List.mem_of_getElem? (i := 66) rfl)) (hw _ (List.mem_of_getElem? (i := 7) rfl)) (by decide) (by decide)) q8a q8c (g := (mkF m 206 #[.val (.long q0), .second, .val (.long q1), .second, .val (.long q2), .second, .val (.long q3), .second, .val (.int fl), .val (.long ll), .second, .val (.ref o), .val (.int (1 : Int32)), .val (.long rr), .second, .val (.int (own_b ff)), .val (.int (own_b df)), .val (.long cc), .second, s19, s20] [(.long cc), (.long (cc + (256 : Int64))), (.ref o)])) rfl (by rw [hml]; rfl) (Steps.refl _) (argsL := [(.long (cc + (256 : Int64))), (.long cc)]) (rest := []) (lenOf pd_2 rfl) rfl (by show 2 * 0 + _ ≤ _; exact Nat.le_of_eq rfl) (hb hby at_206) (fun _ _ => ⟨rfl, rfl, (by decide : 1 + 0 ≤ _), (by decide : 10 + 0 ≤ _)⟩)
        dsimp only [Pt.U, Pt.locs, Pt.cells, Pt.slots] at X8 l8 y8 z8 st8 hQ8
        subst l8 y8 z8
        obtain ⟨rfl, N8q, e8⟩ := hQ8
        have N8 := Fr.app N7 N8q
        refine own_st (B := T8.setTop (mkF m 209 #[.val (.long q0), .second, .val (.long q1), .second, .val (.long q2), .second, .val (.long q3), .second, .val (.int fl), .val (.long ll), .second, .val (.ref o), .val (.int (1 : Int32)), .val (.long rr), .second, .val (.int (own_b ff)), .val (.int (own_b df)), .val (.long cc), .second, s19, s20] [(.int (own_b (own_fits ll ll ll us un di (cc + 256) cc)))])) (fun t k => st8.trans k) ?_
        by_cases hf : own_fits ll ll ll us un di (cc + 256) cc = false
        · refine own_st (B := T8.setTop (mkF m 243 #[.val (.long q0), .second, .val (.long q1), .second, .val (.long q2), .second, .val (.long q3), .second, .val (.int fl), .val (.long ll), .second, .val (.ref o), .val (.int (1 : Int32)), .val (.long rr), .second, .val (.int (own_b ff)), .val (.int (own_b df)), .val (.long cc), .second, s19, s20] [(.int (1 : Int32))])) (fun t k => ?_) ?_
          · show Steps p.tables e below (T8.setTop (mkF m 209 #[.val (.long q0), .second, .val (.long q1), .second, .val (.long q2), .second, .val (.long q3), .second, .val (.int fl), .val (.long ll), .second, .val (.ref o), .val (.int (1 : Int32)), .val (.long rr), .second, .val (.int (own_b ff)), .val (.int (own_b df)), .val (.long cc), .second, s19, s20] [(.int (own_b (own_fits ll ll ll us un di (cc + 256) cc)))])) _
            refine XS.ifYes X8.here hx rfl (pc0 := 209) (pc' := 241) rfl (hb hby at_209) rfl ((if0 _ _).trans (teq (own_b_ne.mpr hf)).1) (by decide) (by decide) ?_
            show Steps p.tables e below (T8.setTop (mkF m 241 #[.val (.long q0), .second, .val (.long q1), .second, .val (.long q2), .second, .val (.long q3), .second, .val (.int fl), .val (.long ll), .second, .val (.ref o), .val (.int (1 : Int32)), .val (.long rr), .second, .val (.int (own_b ff)), .val (.int (own_b df)), .val (.long cc), .second, s19, s20] [])) _
            refine XS.iload X8.here hx rfl (hb hby at_241) rfl ?_
            exact k
          obtain ⟨fs, hr, hrun, hended, hW, hsame⟩ := X8.leave (v := some (.int (1 : Int32))) (fun h => by rw [Bd.returns] at h; cases h)
          refine ⟨_, _, ?_, hrun, hended, _, _, rfl, ?_, ⟨_, rfl⟩, hW, hsame.mono (by decide) (by decide)⟩
          · exact retOut X8 hx Bd.returns rfl (Or.inl ⟨rfl, by simp, _, rfl⟩) (hb hby at_243) hr
          · show Q0 Z q0 q1 q2 q3 fl h0 n0 _ T8.heap _
            rw [e8]
            exact ⟨rfl, N8⟩
        · refine own_st (B := T8.setTop (mkF m 216 #[.val (.long q0), .second, .val (.long q1), .second, .val (.long q2), .second, .val (.long q3), .second, .val (.int fl), .val (.long ll), .second, .val (.ref o), .val (.int (1 : Int32)), .val (.long rr), .second, .val (.int (own_b ff)), .val (.int (own_b df)), .val (.long cc), .second, s19, s20] [(.long cc), (.ref o)])) (fun t k => ?_) ?_
          · show Steps p.tables e below (T8.setTop (mkF m 209 #[.val (.long q0), .second, .val (.long q1), .second, .val (.long q2), .second, .val (.long q3), .second, .val (.int fl), .val (.long ll), .second, .val (.ref o), .val (.int (1 : Int32)), .val (.long rr), .second, .val (.int (own_b ff)), .val (.int (own_b df)), .val (.long cc), .second, s19, s20] [(.int (own_b (own_fits ll ll ll us un di (cc + 256) cc)))])) _
            refine XS.ifNo X8.here hx rfl (hb hby at_209) rfl ((if0 _ _).trans (feq (fun q => hf (own_b_ne.mp q))).1) ?_
            show Steps p.tables e below (T8.setTop (mkF m 212 #[.val (.long q0), .second, .val (.long q1), .second, .val (.long q2), .second, .val (.long q3), .second, .val (.int fl), .val (.long ll), .second, .val (.ref o), .val (.int (1 : Int32)), .val (.long rr), .second, .val (.int (own_b ff)), .val (.int (own_b df)), .val (.long cc), .second, s19, s20] [])) _
            refine XS.aload X8.here hx rfl (hb hby at_212) rfl rfl ?_
            show Steps p.tables e below (T8.setTop (mkF m 214 #[.val (.long q0), .second, .val (.long q1), .second, .val (.long q2), .second, .val (.long q3), .second, .val (.int fl), .val (.long ll), .second, .val (.ref o), .val (.int (1 : Int32)), .val (.long rr), .second, .val (.int (own_b ff)), .val (.int (own_b df)), .val (.long cc), .second, s19, s20] [(.ref o)])) _
            refine XS.lload X8.here hx rfl (hb hby at_214) rfl ?_
            exact k
          rw [Bool.not_eq_false] at hf
          obtain ⟨cq9, kq9, q9a, q9b, q9c⟩ := isOf hZ e8 G.1
          obtain ⟨_, _, ⟨T9, L9, k9, n9⟩, -, X9, ⟨Lc9, hQ9, l9, y9, z9⟩, st9⟩ := X8.virtualBack hx (y := (⟨"com/example/tidejoin/tidejoin/budget/MemoryBudget", "reserveDirectBuffer", "(J)V"⟩ : MethodName)) (z := (⟨"com/example/tidejoin/tidejoin/budget/MemoryBudget", "reserveDirectBuffer", "(J)V"⟩ : MethodName)) hown (mvT hZ (hw _ (List.mem_of_getElem? (i := 85) rfl))) (mvT hZ (hw _ (List.mem_of_getElem? (i := 86) rfl))) (notFace_of_selects (args := #[]) (mvT hZ (hw _ (List.mem_of_getElem? (i := 88) rfl)))) (mvT hZ (hw _ (List.mem_of_getElem? (i := 88) rfl))) (mvT hZ (hw _ (List.mem_of_getElem? (i := 87) rfl))) (by decide) (backOf (W := 0) (rm16 l Z a0 hw [] o cc ll ll ll .null us un di pk T7.heap n0 Z7 G go hcA hcB hf) hZ (hw _ (List.mem_of_getElem? (i := 89) rfl)) (hw _ (List.mem_of_getElem? (i := 7) rfl)) (by decide) (by decide)) q9a q9c (g := (mkF m 216 #[.val (.long q0), .second, .val (.long q1), .second, .val (.long q2), .second, .val (.long q3), .second, .val (.int fl), .val (.long ll), .second, .val (.ref o), .val (.int (1 : Int32)), .val (.long rr), .second, .val (.int (own_b ff)), .val (.int (own_b df)), .val (.long cc), .second, s19, s20] [(.long cc), (.ref o)])) rfl (by rw [hml]; rfl) (Steps.refl _) (argsL := [(.long cc)]) (rest := []) (lenOf pd_4 rfl) rfl (by show 2 * 0 + _ ≤ _; exact Nat.le_of_eq rfl) (hb hby at_216) (fun _ _ => ⟨rfl, e8, (by decide : 1 + 0 ≤ _), (by decide : 10 + 0 ≤ _)⟩)
          dsimp only [Pt.U, Pt.locs, Pt.cells, Pt.slots] at X9 l9 y9 z9 st9 hQ9
          subst l9 y9 z9
          obtain ⟨rfl, N9q, K5, pk5, G5⟩ := hQ9
          have N9 := Fr.app N8 N9q
          refine own_st (B := T9.setTop (mkF m 219 #[.val (.long q0), .second, .val (.long q1), .second, .val (.long q2), .second, .val (.long q3), .second, .val (.int fl), .val (.long ll), .second, .val (.ref o), .val (.int (1 : Int32)), .val (.long rr), .second, .val (.int (own_b ff)), .val (.int (own_b df)), .val (.long cc), .second, s19, s20] [])) (fun t k => st9.trans k) ?_
          have Z5 : n0 ≤ T9.heap.size := Nat.le_trans Z7 K5.1
          obtain ⟨I5, j2, j3⟩ := own_inv_res I hc.1 (by omega) hf
          refine own_st (B := T9.setTop (mkF m 221 #[.val (.long q0), .second, .val (.long q1), .second, .val (.long q2), .second, .val (.long q3), .second, .val (.int fl), .val (.long ll), .second, .val (.ref o), .val (.int (1 : Int32)), .val (.long rr), .second, .val (.int (own_b ff)), .val (.int (own_b df)), .val (.long cc), .second, s19, s20] [(.int (1 : Int32))])) (fun t k => ?_) ?_
          · show Steps p.tables e below (T9.setTop (mkF m 219 #[.val (.long q0), .second, .val (.long q1), .second, .val (.long q2), .second, .val (.long q3), .second, .val (.int fl), .val (.long ll), .second, .val (.ref o), .val (.int (1 : Int32)), .val (.long rr), .second, .val (.int (own_b ff)), .val (.int (own_b df)), .val (.long cc), .second, s19, s20] [])) _
            refine XS.iload X9.here hx rfl (hb hby at_219) rfl ?_
            exact k
          refine own_st (B := T9.setTop (mkF m 228 #[.val (.long q0), .second, .val (.long q1), .second, .val (.long q2), .second, .val (.long q3), .second, .val (.int fl), .val (.long ll), .second, .val (.ref o), .val (.int (1 : Int32)), .val (.long rr), .second, .val (.int (own_b ff)), .val (.int (own_b df)), .val (.long cc), .second, s19, s20] [(.long ll), (.ref o)])) (fun t k => ?_) ?_
          · show Steps p.tables e below (T9.setTop (mkF m 221 #[.val (.long q0), .second, .val (.long q1), .second, .val (.long q2), .second, .val (.long q3), .second, .val (.int fl), .val (.long ll), .second, .val (.ref o), .val (.int (1 : Int32)), .val (.long rr), .second, .val (.int (own_b ff)), .val (.int (own_b df)), .val (.long cc), .second, s19, s20] [(.int (1 : Int32))])) _
            refine XS.ifNo X9.here hx rfl (hb hby at_221) rfl ((if0 _ _).trans (feq (by decide)).1) ?_
            show Steps p.tables e below (T9.setTop (mkF m 224 #[.val (.long q0), .second, .val (.long q1), .second, .val (.long q2), .second, .val (.long q3), .second, .val (.int fl), .val (.long ll), .second, .val (.ref o), .val (.int (1 : Int32)), .val (.long rr), .second, .val (.int (own_b ff)), .val (.int (own_b df)), .val (.long cc), .second, s19, s20] [])) _
            refine XS.aload X9.here hx rfl (hb hby at_224) rfl rfl ?_
            show Steps p.tables e below (T9.setTop (mkF m 226 #[.val (.long q0), .second, .val (.long q1), .second, .val (.long q2), .second, .val (.long q3), .second, .val (.int fl), .val (.long ll), .second, .val (.ref o), .val (.int (1 : Int32)), .val (.long rr), .second, .val (.int (own_b ff)), .val (.int (own_b df)), .val (.long cc), .second, s19, s20] [(.ref o)])) _
            refine XS.lload X9.here hx rfl (hb hby at_226) rfl ?_
            exact k
          obtain ⟨_, _, ⟨T10, L10, k10, n10⟩, -, X10, ⟨Lc10, hQ10, l10, y10, z10⟩, st10⟩ := Jvm.LawKit.callS X9 hx (y := (⟨"com/example/tidejoin/tidejoin/budget/MemoryBudgetLimitPinLaw", "same", "(Lcom/example/tidejoin/tidejoin/budget/MemoryBudget;J)Z"⟩ : MethodName)) hown (mvT hZ (hw _ (List.mem_of_getElem? (i := 25) rfl))) (mvT hZ (hw _ (List.mem_of_getElem? (i := 26) rfl))) (mvT hZ (hw _ (List.mem_of_getElem? (i := 27) rfl))) (mvT hZ (hw _ (List.mem_of_getElem? (i := 28) rfl))) (by decide) (backOf (W := 0) (rm5 l Z a0 hw [] o ll ll ll ll .null (us + (cc + 256)) un (di + cc) pk5 T9.heap n0 Z5 G5 (own_inv_lim I5) rfl (own_inv_us I5)) hZ (hw _ (List.mem_of_getElem? (i := 28) rfl)) (hw _ (List.mem_of_getElem? (i := 27) rfl)) (by decide) (by decide)) (g := (mkF m 228 #[.val (.long q0), .second, .val (.long q1), .second, .val (.long q2), .second, .val (.long q3), .second, .val (.int fl), .val (.long ll), .second, .val (.ref o), .val (.int (1 : Int32)), .val (.long rr), .second, .val (.int (own_b ff)), .val (.int (own_b df)), .val (.long cc), .second, s19, s20] [(.long ll), (.ref o)])) rfl (by rw [hml]; rfl) (argsL := [(.ref o), (.long ll)]) (rest := []) (lenOf pd_7 rfl) rfl (by show 2 * 0 + _ ≤ _; exact Nat.le_of_eq rfl) (hb hby at_228) (fun _ _ => ⟨rfl, rfl, (by decide : 1 + 0 ≤ _), (by decide : 10 + 0 ≤ _)⟩)
          dsimp only [Pt.U, Pt.locs, Pt.cells, Pt.slots] at X10 l10 y10 z10 st10 hQ10
          subst l10 y10 z10
          obtain ⟨rfl, N10q, e10⟩ := hQ10
          have N10 := Fr.app N9 N10q
          refine own_st (B := T10.setTop (mkF m 231 #[.val (.long q0), .second, .val (.long q1), .second, .val (.long q2), .second, .val (.long q3), .second, .val (.int fl), .val (.long ll), .second, .val (.ref o), .val (.int (1 : Int32)), .val (.long rr), .second, .val (.int (own_b ff)), .val (.int (own_b df)), .val (.long cc), .second, s19, s20] [(.int (1 : Int32))])) (fun t k => st10 _ k) ?_
          refine own_st (B := T10.setTop (mkF m 243 #[.val (.long q0), .second, .val (.long q1), .second, .val (.long q2), .second, .val (.long q3), .second, .val (.int fl), .val (.long ll), .second, .val (.ref o), .val (.int (1 : Int32)), .val (.long rr), .second, .val (.int (own_b ff)), .val (.int (own_b df)), .val (.long cc), .second, s19, s20] [(.int (1 : Int32))])) (fun t k => ?_) ?_
          · show Steps p.tables e below (T10.setTop (mkF m 231 #[.val (.long q0), .second, .val (.long q1), .second, .val (.long q2), .second, .val (.long q3), .second, .val (.int fl), .val (.long ll), .second, .val (.ref o), .val (.int (1 : Int32)), .val (.long rr), .second, .val (.int (own_b ff)), .val (.int (own_b df)), .val (.long cc), .second, s19, s20] [(.int (1 : Int32))])) _
            refine XS.ifNo X10.here hx rfl (hb hby at_231) rfl ((if0 _ _).trans (feq (by decide)).1) ?_
            show Steps p.tables e below (T10.setTop (mkF m 234 #[.val (.long q0), .second, .val (.long q1), .second, .val (.long q2), .second, .val (.long q3), .second, .val (.int fl), .val (.long ll), .second, .val (.ref o), .val (.int (1 : Int32)), .val (.long rr), .second, .val (.int (own_b ff)), .val (.int (own_b df)), .val (.long cc), .second, s19, s20] [])) _
            refine XS.iconst X10.here hx rfl (hb hby at_234) ?_
            show Steps p.tables e below (T10.setTop (mkF m 235 #[.val (.long q0), .second, .val (.long q1), .second, .val (.long q2), .second, .val (.long q3), .second, .val (.int fl), .val (.long ll), .second, .val (.ref o), .val (.int (1 : Int32)), .val (.long rr), .second, .val (.int (own_b ff)), .val (.int (own_b df)), .val (.long cc), .second, s19, s20] [(.int (1 : Int32))])) _
            refine XS.goto X10.here hx rfl (pc0 := 235) (pc' := 239) rfl (hb hby at_235) (by decide) (by decide) ?_
            show Steps p.tables e below (T10.setTop (mkF m 239 #[.val (.long q0), .second, .val (.long q1), .second, .val (.long q2), .second, .val (.long q3), .second, .val (.int fl), .val (.long ll), .second, .val (.ref o), .val (.int (1 : Int32)), .val (.long rr), .second, .val (.int (own_b ff)), .val (.int (own_b df)), .val (.long cc), .second, s19, s20] [(.int (1 : Int32))])) _
            refine XS.istore X10.here hx rfl (hb hby at_239) rfl (l' := #[.val (.long q0), .second, .val (.long q1), .second, .val (.long q2), .second, .val (.long q3), .second, .val (.int fl), .val (.long ll), .second, .val (.ref o), .val (.int (1 : Int32)), .val (.long rr), .second, .val (.int (own_b ff)), .val (.int (own_b df)), .val (.long cc), .second, s19, s20]) rfl ?_
            show Steps p.tables e below (T10.setTop (mkF m 241 #[.val (.long q0), .second, .val (.long q1), .second, .val (.long q2), .second, .val (.long q3), .second, .val (.int fl), .val (.long ll), .second, .val (.ref o), .val (.int (1 : Int32)), .val (.long rr), .second, .val (.int (own_b ff)), .val (.int (own_b df)), .val (.long cc), .second, s19, s20] [])) _
            refine XS.iload X10.here hx rfl (hb hby at_241) rfl ?_
            exact k
          obtain ⟨fs, hr, hrun, hended, hW, hsame⟩ := X10.leave (v := some (.int (1 : Int32))) (fun h => by rw [Bd.returns] at h; cases h)
          refine ⟨_, _, ?_, hrun, hended, _, _, rfl, ?_, ⟨_, rfl⟩, hW, hsame.mono (by decide) (by decide)⟩
          · exact retOut X10 hx Bd.returns rfl (Or.inl ⟨rfl, by simp, _, rfl⟩) (hb hby at_243) hr
          · show Q0 Z q0 q1 q2 q3 fl h0 n0 _ T10.heap _
            rw [e10]
            exact ⟨rfl, N10⟩
      · refine own_st (B := T7.setTop (mkF m 243 #[.val (.long q0), .second, .val (.long q1), .second, .val (.long q2), .second, .val (.long q3), .second, .val (.int fl), .val (.long ll), .second, .val (.ref o), .val (.int (1 : Int32)), .val (.long rr), .second, .val (.int (own_b ff)), .val (.int (own_b df)), .val (.long cc), .second, s19, s20] [(.int (1 : Int32))])) (fun t k => ?_) ?_
        · show Steps p.tables e below (T7.setTop (mkF m 193 #[.val (.long q0), .second, .val (.long q1), .second, .val (.long q2), .second, .val (.long q3), .second, .val (.int fl), .val (.long ll), .second, .val (.ref o), .val (.int (1 : Int32)), .val (.long rr), .second, .val (.int (own_b ff)), .val (.int (own_b df)), .val (.long cc), .second, s19, s20] [(.int (own_b df))])) _
          refine XS.ifYes X7.here hx rfl (pc0 := 193) (pc' := 241) rfl (hb hby at_193) rfl ((if0 _ _).trans (feq (fun q => hd (own_b_ne.mp q))).2) (by decide) (by decide) ?_
          show Steps p.tables e below (T7.setTop (mkF m 241 #[.val (.long q0), .second, .val (.long q1), .second, .val (.long q2), .second, .val (.long q3), .second, .val (.int fl), .val (.long ll), .second, .val (.ref o), .val (.int (1 : Int32)), .val (.long rr), .second, .val (.int (own_b ff)), .val (.int (own_b df)), .val (.long cc), .second, s19, s20] [])) _
          refine XS.iload X7.here hx rfl (hb hby at_241) rfl ?_
          exact k
        obtain ⟨fs, hr, hrun, hended, hW, hsame⟩ := X7.leave (v := some (.int (1 : Int32))) (fun h => by rw [Bd.returns] at h; cases h)
        refine ⟨_, _, ?_, hrun, hended, _, _, rfl, ?_, ⟨_, rfl⟩, hW, hsame.mono (by decide) (by decide)⟩
        · exact retOut X7 hx Bd.returns rfl (Or.inl ⟨rfl, by simp, _, rfl⟩) (hb hby at_243) hr
        · show Q0 Z q0 q1 q2 q3 fl h0 n0 _ T7.heap _
          exact ⟨rfl, N7⟩
    have k144 : ∀ (T11 : State) (lc11 : List Loc) (X11 : Stand p l e room_1 s m #[(.long q0), (.long q1), (.long q2), (.long q3), (.int fl)] below meth c T11 lc11 1 10) (N11 : Fr n0 lc11) (Z11 : n0 ≤ T11.heap.size) (us di pk : Int64) (G : own_MB Z T11.heap o ll ll ll .null us 0 di pk) (I : own_Inv ll us 0 di) (hm : ff = true → rr.toInt ≤ us.toInt - di.toInt), own_G p e below (fun (t : State) (o : Outcome) => t.status = .running ∧ Ended t below o ∧ ∃ v L, o = .returned v ∧ Q0 Z q0 q1 q2 q3 fl h0 n0 v t.heap L ∧ FrameEnd s o t L room_1.cells room_1.slots) (T11.setTop (mkF m 144 #[.val (.long q0), .second, .val (.long q1), .second, .val (.long q2), .second, .val (.long q3), .second, .val (.int fl), .val (.long ll), .second, .val (.ref o), .val (.int (1 : Int32)), .val (.long rr), .second, .val (.int (own_b ff)), .val (.int (own_b df)), .val (.long cc), .second, .unset, .unset] [])) := by
      intro T11 lc11 X11 N11 Z11 us di pk G I hm
      refine own_st (B := T11.setTop (mkF m 146 #[.val (.long q0), .second, .val (.long q1), .second, .val (.long q2), .second, .val (.long q3), .second, .val (.int fl), .val (.long ll), .second, .val (.ref o), .val (.int (1 : Int32)), .val (.long rr), .second, .val (.int (own_b ff)), .val (.int (own_b df)), .val (.long cc), .second, .unset, .unset] [(.int (own_b ff))])) (fun t k => ?_) ?_
      · show Steps p.tables e below (T11.setTop (mkF m 144 #[.val (.long q0), .second, .val (.long q1), .second, .val (.long q2), .second, .val (.long q3), .second, .val (.int fl), .val (.long ll), .second, .val (.ref o), .val (.int (1 : Int32)), .val (.long rr), .second, .val (.int (own_b ff)), .val (.int (own_b df)), .val (.long cc), .second, .unset, .unset] [])) _
        refine XS.iload X11.here hx rfl (hb hby at_144) rfl ?_
        exact k
      by_cases hr : ff = false
      · refine own_st (B := T11.setTop (mkF m 191 #[.val (.long q0), .second, .val (.long q1), .second, .val (.long q2), .second, .val (.long q3), .second, .val (.int fl), .val (.long ll), .second, .val (.ref o), .val (.int (1 : Int32)), .val (.long rr), .second, .val (.int (own_b ff)), .val (.int (own_b df)), .val (.long cc), .second, .unset, .unset] [])) (fun t k => ?_) ?_
        · show Steps p.tables e below (T11.setTop (mkF m 146 #[.val (.long q0), .second, .val (.long q1), .second, .val (.long q2), .second, .val (.long q3), .second, .val (.int fl), .val (.long ll), .second, .val (.ref o), .val (.int (1 : Int32)), .val (.long rr), .second, .val (.int (own_b ff)), .val (.int (own_b df)), .val (.long cc), .second, .unset, .unset] [(.int (own_b ff))])) _
          refine XS.ifYes X11.here hx rfl (pc0 := 146) (pc' := 191) rfl (hb hby at_146) rfl ((if0 _ _).trans (teq (own_b_ne.mpr hr)).1) (by decide) (by decide) ?_
          exact k
        exact k191 _ _ X11 N11 Z11 _ _ _ _ _ _ G I
      · refine own_st (B := T11.setTop (mkF m 157 #[.val (.long q0), .second, .val (.long q1), .second, .val (.long q2), .second, .val (.long q3), .second, .val (.int fl), .val (.long ll), .second, .val (.ref o), .val (.int (1 : Int32)), .val (.long rr), .second, .val (.int (own_b ff)), .val (.int (own_b df)), .val (.long cc), .second, .unset, .unset] [(.long rr), (.long (q2 &&& (9223372036854775807 : Int64)))])) (fun t k => ?_) ?_
        · show Steps p.tables e below (T11.setTop (mkF m 146 #[.val (.long q0), .second, .val (.long q1), .second, .val (.long q2), .second, .val (.long q3), .second, .val (.int fl), .val (.long ll), .second, .val (.ref o), .val (.int (1 : Int32)), .val (.long rr), .second, .val (.int (own_b ff)), .val (.int (own_b df)), .val (.long cc), .second, .unset, .unset] [(.int (own_b ff))])) _
          refine XS.ifNo X11.here hx rfl (hb hby at_146) rfl ((if0 _ _).trans (feq (fun q => hr (own_b_ne.mp q))).1) ?_
          show Steps p.tables e below (T11.setTop (mkF m 149 #[.val (.long q0), .second, .val (.long q1), .second, .val (.long q2), .second, .val (.long q3), .second, .val (.int fl), .val (.long ll), .second, .val (.ref o), .val (.int (1 : Int32)), .val (.long rr), .second, .val (.int (own_b ff)), .val (.int (own_b df)), .val (.long cc), .second, .unset, .unset] [])) _
          refine XS.lload X11.here hx rfl (hb hby at_149) rfl ?_
          show Steps p.tables e below (T11.setTop (mkF m 151 #[.val (.long q0), .second, .val (.long q1), .second, .val (.long q2), .second, .val (.long q3), .second, .val (.int fl), .val (.long ll), .second, .val (.ref o), .val (.int (1 : Int32)), .val (.long rr), .second, .val (.int (own_b ff)), .val (.int (own_b df)), .val (.long cc), .second, .unset, .unset] [(.long q2)])) _
          refine X11.ldc2Long hx hown (mvT hZ (hw _ (List.mem_of_getElem? (i := 0) rfl))) (g := (mkF m 151 #[.val (.long q0), .second, .val (.long q1), .second, .val (.long q2), .second, .val (.long q3), .second, .val (.int fl), .val (.long ll), .second, .val (.ref o), .val (.int (1 : Int32)), .val (.long rr), .second, .val (.int (own_b ff)), .val (.int (own_b df)), .val (.long cc), .second, .unset, .unset] [(.long q2)])) rfl (hb hby at_151) _ ?_
          show Steps p.tables e below (T11.setTop (mkF m 154 #[.val (.long q0), .second, .val (.long q1), .second, .val (.long q2), .second, .val (.long q3), .second, .val (.int fl), .val (.long ll), .second, .val (.ref o), .val (.int (1 : Int32)), .val (.long rr), .second, .val (.int (own_b ff)), .val (.int (own_b df)), .val (.long cc), .second, .unset, .unset] [(.long (9223372036854775807 : Int64)), (.long q2)])) _
          refine XS.land X11.here hx rfl (hb hby at_154) rfl ?_
          show Steps p.tables e below (T11.setTop (mkF m 155 #[.val (.long q0), .second, .val (.long q1), .second, .val (.long q2), .second, .val (.long q3), .second, .val (.int fl), .val (.long ll), .second, .val (.ref o), .val (.int (1 : Int32)), .val (.long rr), .second, .val (.int (own_b ff)), .val (.int (own_b df)), .val (.long cc), .second, .unset, .unset] [(.long (q2 &&& (9223372036854775807 : Int64)))])) _
          refine XS.lload X11.here hx rfl (hb hby at_155) rfl ?_
          exact k
        rw [Bool.not_eq_false] at hr
        have hmr := hm hr
        obtain ⟨_, _, ⟨T12, L12, k12, n12⟩, -, X12, ⟨Lc12, hQ12, l12, y12, z12⟩, st12⟩ := Jvm.LawKit.callS X11 hx (y := (⟨"java/lang/Math", "min", "(JJ)J"⟩ : MethodName)) hown (mvT hZ (hw _ (List.mem_of_getElem? (i := 77) rfl))) (mvT hZ (hw _ (List.mem_of_getElem? (i := 78) rfl))) (mvT hZ (hw _ (List.mem_of_getElem? (i := 3) rfl))) (mvT hZ (hw _ (List.mem_of_getElem? (i := 79) rfl))) (by decide) (backOf (W := 0) (rm14 l Z a0 hw [] (q2 &&& (9223372036854775807 : Int64)) rr T11.heap n0 Z11) hZ (hw _ (List.mem_of_getElem? (i := 79) rfl)) (hw _ (List.mem_of_getElem? (i := 3) rfl)) (by decide) (by decide)) (g := (mkF m 157 #[.val (.long q0), .second, .val (.long q1), .second, .val (.long q2), .second, .val (.long q3), .second, .val (.int fl), .val (.long ll), .second, .val (.ref o), .val (.int (1 : Int32)), .val (.long rr), .second, .val (.int (own_b ff)), .val (.int (own_b df)), .val (.long cc), .second, .unset, .unset] [(.long rr), (.long (q2 &&& (9223372036854775807 : Int64)))])) rfl (by rw [hml]; rfl) (argsL := [(.long (q2 &&& (9223372036854775807 : Int64))), (.long rr)]) (rest := []) (lenOf pd_3 rfl) rfl (by show 2 * 0 + _ ≤ _; exact Nat.le_of_eq rfl) (hb hby at_157) (fun _ _ => ⟨rfl, rfl, (by decide : 1 + 0 ≤ _), (by decide : 10 + 0 ≤ _)⟩)
        dsimp only [Pt.U, Pt.locs, Pt.cells, Pt.slots] at X12 l12 y12 z12 st12 hQ12
        subst l12 y12 z12
        obtain ⟨rfl, N12q, e12⟩ := hQ12
        have N12 := Fr.app N11 N12q
        refine own_st (B := T12.setTop (mkF m 160 #[.val (.long q0), .second, .val (.long q1), .second, .val (.long q2), .second, .val (.long q3), .second, .val (.int fl), .val (.long ll), .second, .val (.ref o), .val (.int (1 : Int32)), .val (.long rr), .second, .val (.int (own_b ff)), .val (.int (own_b df)), .val (.long cc), .second, .unset, .unset] [(.long (if rr < (q2 &&& (9223372036854775807 : Int64)) then rr else (q2 &&& (9223372036854775807 : Int64))))])) (fun t k => st12 _ k) ?_
        generalize hmm : (if rr < (q2 &&& (9223372036854775807 : Int64)) then rr else (q2 &&& (9223372036854775807 : Int64))) = mm
        have hm0 : 0 ≤ mm.toInt ∧ mm.toInt ≤ rr.toInt := by rw [← hmm]; exact own_min (own_mask _) hr0
        refine own_st (B := T12.setTop (mkF m 166 #[.val (.long q0), .second, .val (.long q1), .second, .val (.long q2), .second, .val (.long q3), .second, .val (.int fl), .val (.long ll), .second, .val (.ref o), .val (.int (1 : Int32)), .val (.long rr), .second, .val (.int (own_b ff)), .val (.int (own_b df)), .val (.long cc), .second, .val (.long mm), .second] [(.long mm), (.ref o)])) (fun t k => ?_) ?_
        · show Steps p.tables e below (T12.setTop (mkF m 160 #[.val (.long q0), .second, .val (.long q1), .second, .val (.long q2), .second, .val (.long q3), .second, .val (.int fl), .val (.long ll), .second, .val (.ref o), .val (.int (1 : Int32)), .val (.long rr), .second, .val (.int (own_b ff)), .val (.int (own_b df)), .val (.long cc), .second, .unset, .unset] [(.long mm)])) _
          refine XS.lstore X12.here hx rfl (hb hby at_160) rfl (l' := #[.val (.long q0), .second, .val (.long q1), .second, .val (.long q2), .second, .val (.long q3), .second, .val (.int fl), .val (.long ll), .second, .val (.ref o), .val (.int (1 : Int32)), .val (.long rr), .second, .val (.int (own_b ff)), .val (.int (own_b df)), .val (.long cc), .second, .val (.long mm), .second]) rfl ?_
          show Steps p.tables e below (T12.setTop (mkF m 162 #[.val (.long q0), .second, .val (.long q1), .second, .val (.long q2), .second, .val (.long q3), .second, .val (.int fl), .val (.long ll), .second, .val (.ref o), .val (.int (1 : Int32)), .val (.long rr), .second, .val (.int (own_b ff)), .val (.int (own_b df)), .val (.long cc), .second, .val (.long mm), .second] [])) _
          refine XS.aload X12.here hx rfl (hb hby at_162) rfl rfl ?_
          show Steps p.tables e below (T12.setTop (mkF m 164 #[.val (.long q0), .second, .val (.long q1), .second, .val (.long q2), .second, .val (.long q3), .second, .val (.int fl), .val (.long ll), .second, .val (.ref o), .val (.int (1 : Int32)), .val (.long rr), .second, .val (.int (own_b ff)), .val (.int (own_b df)), .val (.long cc), .second, .val (.long mm), .second] [(.ref o)])) _
          refine XS.lload X12.here hx rfl (hb hby at_164) rfl ?_
          exact k
        have hmd := own_made I
        obtain ⟨cq13, kq13, q13a, q13b, q13c⟩ := isOf hZ e12 G.1
        obtain ⟨_, _, ⟨T13, L13, k13, n13⟩, -, X13, ⟨Lc13, hQ13, l13, y13, z13⟩, st13⟩ := X12.virtualBack hx (y := (⟨"com/example/tidejoin/tidejoin/budget/MemoryBudget", "markUnmade", "(J)V"⟩ : MethodName)) (z := (⟨"com/example/tidejoin/tidejoin/budget/MemoryBudget", "markUnmade", "(J)V"⟩ : MethodName)) hown (mvT hZ (hw _ (List.mem_of_getElem? (i := 80) rfl))) (mvT hZ (hw _ (List.mem_of_getElem? (i := 81) rfl))) (notFace_of_selects (args := #[]) (mvT hZ (hw _ (List.mem_of_getElem? (i := 83) rfl)))) (mvT hZ (hw _ (List.mem_of_getElem? (i := 83) rfl))) (mvT hZ (hw _ (List.mem_of_getElem? (i := 82) rfl))) (by decide) (backOf (W := 0) (rm15 l Z a0 hw [] o mm ll ll ll .null us 0 di pk T11.heap n0 Z11 G go (own_nlt (by rw [own_i0]; exact hm0.1)) (own_nlt (by rw [hmd, own_i0]; omega))) hZ (hw _ (List.mem_of_getElem? (i := 84) rfl)) (hw _ (List.mem_of_getElem? (i := 7) rfl)) (by decide) (by decide)) q13a q13c (g := (mkF m 166 #[.val (.long q0), .second, .val (.long q1), .second, .val (.long q2), .second, .val (.long q3), .second, .val (.int fl), .val (.long ll), .second, .val (.ref o), .val (.int (1 : Int32)), .val (.long rr), .second, .val (.int (own_b ff)), .val (.int (own_b df)), .val (.long cc), .second, .val (.long mm), .second] [(.long mm), (.ref o)])) rfl (by rw [hml]; rfl) (Steps.refl _) (argsL := [(.long mm)]) (rest := []) (lenOf pd_4 rfl) rfl (by show 2 * 0 + _ ≤ _; exact Nat.le_of_eq rfl) (hb hby at_166) (fun _ _ => ⟨rfl, e12, (by decide : 1 + 0 ≤ _), (by decide : 10 + 0 ≤ _)⟩)
        dsimp only [Pt.U, Pt.locs, Pt.cells, Pt.slots] at X13 l13 y13 z13 st13 hQ13
        subst l13 y13 z13
        obtain ⟨rfl, N13q, K4, G4⟩ := hQ13
        have N13 := Fr.app N12 N13q
        refine own_st (B := T13.setTop (mkF m 169 #[.val (.long q0), .second, .val (.long q1), .second, .val (.long q2), .second, .val (.long q3), .second, .val (.int fl), .val (.long ll), .second, .val (.ref o), .val (.int (1 : Int32)), .val (.long rr), .second, .val (.int (own_b ff)), .val (.int (own_b df)), .val (.long cc), .second, .val (.long mm), .second] [])) (fun t k => st13.trans k) ?_
        have Z4 : n0 ≤ T13.heap.size := Nat.le_trans Z11 K4.1
        have I4 := own_inv_un I hm0.1 (by rw [own_i0]; omega)
        refine own_st (B := T13.setTop (mkF m 171 #[.val (.long q0), .second, .val (.long q1), .second, .val (.long q2), .second, .val (.long q3), .second, .val (.int fl), .val (.long ll), .second, .val (.ref o), .val (.int (1 : Int32)), .val (.long rr), .second, .val (.int (own_b ff)), .val (.int (own_b df)), .val (.long cc), .second, .val (.long mm), .second] [(.int (1 : Int32))])) (fun t k => ?_) ?_
        · show Steps p.tables e below (T13.setTop (mkF m 169 #[.val (.long q0), .second, .val (.long q1), .second, .val (.long q2), .second, .val (.long q3), .second, .val (.int fl), .val (.long ll), .second, .val (.ref o), .val (.int (1 : Int32)), .val (.long rr), .second, .val (.int (own_b ff)), .val (.int (own_b df)), .val (.long cc), .second, .val (.long mm), .second] [])) _
          refine XS.iload X13.here hx rfl (hb hby at_169) rfl ?_
          exact k
        refine own_st (B := T13.setTop (mkF m 178 #[.val (.long q0), .second, .val (.long q1), .second, .val (.long q2), .second, .val (.long q3), .second, .val (.int fl), .val (.long ll), .second, .val (.ref o), .val (.int (1 : Int32)), .val (.long rr), .second, .val (.int (own_b ff)), .val (.int (own_b df)), .val (.long cc), .second, .val (.long mm), .second] [(.long ll), (.ref o)])) (fun t k => ?_) ?_
        · show Steps p.tables e below (T13.setTop (mkF m 171 #[.val (.long q0), .second, .val (.long q1), .second, .val (.long q2), .second, .val (.long q3), .second, .val (.int fl), .val (.long ll), .second, .val (.ref o), .val (.int (1 : Int32)), .val (.long rr), .second, .val (.int (own_b ff)), .val (.int (own_b df)), .val (.long cc), .second, .val (.long mm), .second] [(.int (1 : Int32))])) _
          refine XS.ifNo X13.here hx rfl (hb hby at_171) rfl ((if0 _ _).trans (feq (by decide)).1) ?_
          show Steps p.tables e below (T13.setTop (mkF m 174 #[.val (.long q0), .second, .val (.long q1), .second, .val (.long q2), .second, .val (.long q3), .second, .val (.int fl), .val (.long ll), .second, .val (.ref o), .val (.int (1 : Int32)), .val (.long rr), .second, .val (.int (own_b ff)), .val (.int (own_b df)), .val (.long cc), .second, .val (.long mm), .second] [])) _
          refine XS.aload X13.here hx rfl (hb hby at_174) rfl rfl ?_
          show Steps p.tables e below (T13.setTop (mkF m 176 #[.val (.long q0), .second, .val (.long q1), .second, .val (.long q2), .second, .val (.long q3), .second, .val (.int fl), .val (.long ll), .second, .val (.ref o), .val (.int (1 : Int32)), .val (.long rr), .second, .val (.int (own_b ff)), .val (.int (own_b df)), .val (.long cc), .second, .val (.long mm), .second] [(.ref o)])) _
          refine XS.lload X13.here hx rfl (hb hby at_176) rfl ?_
          exact k
        obtain ⟨_, _, ⟨T14, L14, k14, n14⟩, -, X14, ⟨Lc14, hQ14, l14, y14, z14⟩, st14⟩ := Jvm.LawKit.callS X13 hx (y := (⟨"com/example/tidejoin/tidejoin/budget/MemoryBudgetLimitPinLaw", "same", "(Lcom/example/tidejoin/tidejoin/budget/MemoryBudget;J)Z"⟩ : MethodName)) hown (mvT hZ (hw _ (List.mem_of_getElem? (i := 25) rfl))) (mvT hZ (hw _ (List.mem_of_getElem? (i := 26) rfl))) (mvT hZ (hw _ (List.mem_of_getElem? (i := 27) rfl))) (mvT hZ (hw _ (List.mem_of_getElem? (i := 28) rfl))) (by decide) (backOf (W := 0) (rm5 l Z a0 hw [] o ll ll ll ll .null us (0 + mm) di pk T13.heap n0 Z4 G4 (own_inv_lim I4) rfl (own_inv_us I4)) hZ (hw _ (List.mem_of_getElem? (i := 28) rfl)) (hw _ (List.mem_of_getElem? (i := 27) rfl)) (by decide) (by decide)) (g := (mkF m 178 #[.val (.long q0), .second, .val (.long q1), .second, .val (.long q2), .second, .val (.long q3), .second, .val (.int fl), .val (.long ll), .second, .val (.ref o), .val (.int (1 : Int32)), .val (.long rr), .second, .val (.int (own_b ff)), .val (.int (own_b df)), .val (.long cc), .second, .val (.long mm), .second] [(.long ll), (.ref o)])) rfl (by rw [hml]; rfl) (argsL := [(.ref o), (.long ll)]) (rest := []) (lenOf pd_7 rfl) rfl (by show 2 * 0 + _ ≤ _; exact Nat.le_of_eq rfl) (hb hby at_178) (fun _ _ => ⟨rfl, rfl, (by decide : 1 + 0 ≤ _), (by decide : 10 + 0 ≤ _)⟩)
        dsimp only [Pt.U, Pt.locs, Pt.cells, Pt.slots] at X14 l14 y14 z14 st14 hQ14
        subst l14 y14 z14
        obtain ⟨rfl, N14q, e14⟩ := hQ14
        have N14 := Fr.app N13 N14q
        refine own_st (B := T14.setTop (mkF m 181 #[.val (.long q0), .second, .val (.long q1), .second, .val (.long q2), .second, .val (.long q3), .second, .val (.int fl), .val (.long ll), .second, .val (.ref o), .val (.int (1 : Int32)), .val (.long rr), .second, .val (.int (own_b ff)), .val (.int (own_b df)), .val (.long cc), .second, .val (.long mm), .second] [(.int (1 : Int32))])) (fun t k => st14 _ k) ?_
        refine own_st (B := T14.setTop (mkF m 191 #[.val (.long q0), .second, .val (.long q1), .second, .val (.long q2), .second, .val (.long q3), .second, .val (.int fl), .val (.long ll), .second, .val (.ref o), .val (.int (1 : Int32)), .val (.long rr), .second, .val (.int (own_b ff)), .val (.int (own_b df)), .val (.long cc), .second, .val (.long mm), .second] [])) (fun t k => ?_) ?_
        · show Steps p.tables e below (T14.setTop (mkF m 181 #[.val (.long q0), .second, .val (.long q1), .second, .val (.long q2), .second, .val (.long q3), .second, .val (.int fl), .val (.long ll), .second, .val (.ref o), .val (.int (1 : Int32)), .val (.long rr), .second, .val (.int (own_b ff)), .val (.int (own_b df)), .val (.long cc), .second, .val (.long mm), .second] [(.int (1 : Int32))])) _
          refine XS.ifNo X14.here hx rfl (hb hby at_181) rfl ((if0 _ _).trans (feq (by decide)).1) ?_
          show Steps p.tables e below (T14.setTop (mkF m 184 #[.val (.long q0), .second, .val (.long q1), .second, .val (.long q2), .second, .val (.long q3), .second, .val (.int fl), .val (.long ll), .second, .val (.ref o), .val (.int (1 : Int32)), .val (.long rr), .second, .val (.int (own_b ff)), .val (.int (own_b df)), .val (.long cc), .second, .val (.long mm), .second] [])) _
          refine XS.iconst X14.here hx rfl (hb hby at_184) ?_
          show Steps p.tables e below (T14.setTop (mkF m 185 #[.val (.long q0), .second, .val (.long q1), .second, .val (.long q2), .second, .val (.long q3), .second, .val (.int fl), .val (.long ll), .second, .val (.ref o), .val (.int (1 : Int32)), .val (.long rr), .second, .val (.int (own_b ff)), .val (.int (own_b df)), .val (.long cc), .second, .val (.long mm), .second] [(.int (1 : Int32))])) _
          refine XS.goto X14.here hx rfl (pc0 := 185) (pc' := 189) rfl (hb hby at_185) (by decide) (by decide) ?_
          show Steps p.tables e below (T14.setTop (mkF m 189 #[.val (.long q0), .second, .val (.long q1), .second, .val (.long q2), .second, .val (.long q3), .second, .val (.int fl), .val (.long ll), .second, .val (.ref o), .val (.int (1 : Int32)), .val (.long rr), .second, .val (.int (own_b ff)), .val (.int (own_b df)), .val (.long cc), .second, .val (.long mm), .second] [(.int (1 : Int32))])) _
          refine XS.istore X14.here hx rfl (hb hby at_189) rfl (l' := #[.val (.long q0), .second, .val (.long q1), .second, .val (.long q2), .second, .val (.long q3), .second, .val (.int fl), .val (.long ll), .second, .val (.ref o), .val (.int (1 : Int32)), .val (.long rr), .second, .val (.int (own_b ff)), .val (.int (own_b df)), .val (.long cc), .second, .val (.long mm), .second]) rfl ?_
          exact k
        rw [← e14] at G4 Z4
        exact k191 _ _ X14 N14 Z4 _ _ _ _ _ _ G4 I4
    refine own_st (B := T6.setTop (mkF m 96 #[.val (.long q0), .second, .val (.long q1), .second, .val (.long q2), .second, .val (.long q3), .second, .val (.int fl), .val (.long ll), .second, .val (.ref o), .val (.int (1 : Int32)), .val (.long rr), .second, .val (.int (own_b ff)), .val (.int (own_b df)), .val (.long cc), .second, .unset, .unset] [(.int (own_b df))])) (fun t k => ?_) ?_
    · show Steps p.tables e below (T6.setTop (mkF m 94 #[.val (.long q0), .second, .val (.long q1), .second, .val (.long q2), .second, .val (.long q3), .second, .val (.int fl), .val (.long ll), .second, .val (.ref o), .val (.int (1 : Int32)), .val (.long rr), .second, .val (.int (own_b ff)), .val (.int (own_b df)), .val (.long cc), .second, .unset, .unset] [])) _
      refine XS.iload X6.here hx rfl (hb hby at_94) rfl ?_
      exact k
    obtain ⟨pk, hpk⟩ : ∃ z, z = pk2 := ⟨_, rfl⟩
    rw [← hpk] at G3
    have G := G3
    have I := I3
    by_cases hd : df = false
    · refine own_st (B := T6.setTop (mkF m 144 #[.val (.long q0), .second, .val (.long q1), .second, .val (.long q2), .second, .val (.long q3), .second, .val (.int fl), .val (.long ll), .second, .val (.ref o), .val (.int (1 : Int32)), .val (.long rr), .second, .val (.int (own_b ff)), .val (.int (own_b df)), .val (.long cc), .second, .unset, .unset] [])) (fun t k => ?_) ?_
      · show Steps p.tables e below (T6.setTop (mkF m 96 #[.val (.long q0), .second, .val (.long q1), .second, .val (.long q2), .second, .val (.long q3), .second, .val (.int fl), .val (.long ll), .second, .val (.ref o), .val (.int (1 : Int32)), .val (.long rr), .second, .val (.int (own_b ff)), .val (.int (own_b df)), .val (.long cc), .second, .unset, .unset] [(.int (own_b df))])) _
        refine XS.ifYes X6.here hx rfl (pc0 := 96) (pc' := 144) rfl (hb hby at_96) rfl ((if0 _ _).trans (teq (own_b_ne.mpr hd)).1) (by decide) (by decide) ?_
        exact k
      rw [← e6] at G Zc
      exact k144 _ _ X6 N6 Zc _ _ _ G I (hm3)
    · refine own_st (B := T6.setTop (mkF m 109 #[.val (.long q0), .second, .val (.long q1), .second, .val (.long q2), .second, .val (.long q3), .second, .val (.int fl), .val (.long ll), .second, .val (.ref o), .val (.int (1 : Int32)), .val (.long rr), .second, .val (.int (own_b ff)), .val (.int (own_b df)), .val (.long cc), .second, .unset, .unset] [(.long cc), (.long (cc + (256 : Int64))), (.ref o)])) (fun t k => ?_) ?_
      · show Steps p.tables e below (T6.setTop (mkF m 96 #[.val (.long q0), .second, .val (.long q1), .second, .val (.long q2), .second, .val (.long q3), .second, .val (.int fl), .val (.long ll), .second, .val (.ref o), .val (.int (1 : Int32)), .val (.long rr), .second, .val (.int (own_b ff)), .val (.int (own_b df)), .val (.long cc), .second, .unset, .unset] [(.int (own_b df))])) _
        refine XS.ifNo X6.here hx rfl (hb hby at_96) rfl ((if0 _ _).trans (feq (fun q => hd (own_b_ne.mp q))).1) ?_
        show Steps p.tables e below (T6.setTop (mkF m 99 #[.val (.long q0), .second, .val (.long q1), .second, .val (.long q2), .second, .val (.long q3), .second, .val (.int fl), .val (.long ll), .second, .val (.ref o), .val (.int (1 : Int32)), .val (.long rr), .second, .val (.int (own_b ff)), .val (.int (own_b df)), .val (.long cc), .second, .unset, .unset] [])) _
        refine XS.aload X6.here hx rfl (hb hby at_99) rfl rfl ?_
        show Steps p.tables e below (T6.setTop (mkF m 101 #[.val (.long q0), .second, .val (.long q1), .second, .val (.long q2), .second, .val (.long q3), .second, .val (.int fl), .val (.long ll), .second, .val (.ref o), .val (.int (1 : Int32)), .val (.long rr), .second, .val (.int (own_b ff)), .val (.int (own_b df)), .val (.long cc), .second, .unset, .unset] [(.ref o)])) _
        refine XS.lload X6.here hx rfl (hb hby at_101) rfl ?_
        show Steps p.tables e below (T6.setTop (mkF m 103 #[.val (.long q0), .second, .val (.long q1), .second, .val (.long q2), .second, .val (.long q3), .second, .val (.int fl), .val (.long ll), .second, .val (.ref o), .val (.int (1 : Int32)), .val (.long rr), .second, .val (.int (own_b ff)), .val (.int (own_b df)), .val (.long cc), .second, .unset, .unset] [(.long cc), (.ref o)])) _
        refine X6.ldc2Long hx hown (mvT hZ (hw _ (List.mem_of_getElem? (i := 75) rfl))) (g := (mkF m 103 #[.val (.long q0), .second, .val (.long q1), .second, .val (.long q2), .second, .val (.long q3), .second, .val (.int fl), .val (.long ll), .second, .val (.ref o), .val (.int (1 : Int32)), .val (.long rr), .second, .val (.int (own_b ff)), .val (.int (own_b df)), .val (.long cc), .second, .unset, .unset] [(.long cc), (.ref o)])) rfl (hb hby at_103) _ ?_
        show Steps p.tables e below (T6.setTop (mkF m 106 #[.val (.long q0), .second, .val (.long q1), .second, .val (.long q2), .second, .val (.long q3), .second, .val (.int fl), .val (.long ll), .second, .val (.ref o), .val (.int (1 : Int32)), .val (.long rr), .second, .val (.int (own_b ff)), .val (.int (own_b df)), .val (.long cc), .second, .unset, .unset] [(.long (256 : Int64)), (.long cc), (.ref o)])) _
        refine XS.ladd X6.here hx rfl (hb hby at_106) rfl ?_
        show Steps p.tables e below (T6.setTop (mkF m 107 #[.val (.long q0), .second, .val (.long q1), .second, .val (.long q2), .second, .val (.long q3), .second, .val (.int fl), .val (.long ll), .second, .val (.ref o), .val (.int (1 : Int32)), .val (.long rr), .second, .val (.int (own_b ff)), .val (.int (own_b df)), .val (.long cc), .second, .unset, .unset] [(.long (cc + (256 : Int64))), (.ref o)])) _
        refine XS.lload X6.here hx rfl (hb hby at_107) rfl ?_
        exact k
      obtain ⟨cq15, kq15, q15a, q15b, q15c⟩ := isOf hZ e6 G.1
      obtain ⟨_, _, ⟨T15, L15, k15, n15⟩, -, X15, ⟨Lc15, hQ15, l15, y15, z15⟩, st15⟩ := X6.virtualBack hx (y := (⟨"com/example/tidejoin/tidejoin/budget/MemoryBudget", "fits", "(JJ)Z"⟩ : MethodName)) (z := (⟨"com/example/tidejoin/tidejoin/budget/MemoryBudget", "fits", "(JJ)Z"⟩ : MethodName)) hown (mvT hZ (hw _ (List.mem_of_getElem? (i := 76) rfl))) (mvT hZ (hw _ (List.mem_of_getElem? (i := 63) rfl))) (notFace_of_selects (args := #[]) (mvT hZ (hw _ (List.mem_of_getElem? (i := 65) rfl)))) (mvT hZ (hw _ (List.mem_of_getElem? (i := 65) rfl))) (mvT hZ (hw _ (List.mem_of_getElem? (i := 64) rfl))) (by decide) (backOf (W := 0) (rm12 l Z a0 hw [] o (cc + (256 : Int64)) cc ll ll ll .null us 0 di pk T5.heap n0 Zc G hcA hcB) hZ (hw _ (List.mem_of_getElem? (i := 66) rfl)) (hw _ (List.mem_of_getElem? (i := 7) rfl)) (by decide) (by decide)) q15a q15c (g := (mkF m 109 #[.val (.long q0), .second, .val (.long q1), .second, .val (.long q2), .second, .val (.long q3), .second, .val (.int fl), .val (.long ll), .second, .val (.ref o), .val (.int (1 : Int32)), .val (.long rr), .second, .val (.int (own_b ff)), .val (.int (own_b df)), .val (.long cc), .second, .unset, .unset] [(.long cc), (.long (cc + (256 : Int64))), (.ref o)])) rfl (by rw [hml]; rfl) (Steps.refl _) (argsL := [(.long (cc + (256 : Int64))), (.long cc)]) (rest := []) (lenOf pd_2 rfl) rfl (by show 2 * 0 + _ ≤ _; exact Nat.le_of_eq rfl) (hb hby at_109) (fun _ _ => ⟨rfl, e6, (by decide : 1 + 0 ≤ _), (by decide : 10 + 0 ≤ _)⟩)
      dsimp only [Pt.U, Pt.locs, Pt.cells, Pt.slots] at X15 l15 y15 z15 st15 hQ15
      subst l15 y15 z15
      obtain ⟨rfl, N15q, e15⟩ := hQ15
      have N15 := Fr.app N6 N15q
      refine own_st (B := T15.setTop (mkF m 112 #[.val (.long q0), .second, .val (.long q1), .second, .val (.long q2), .second, .val (.long q3), .second, .val (.int fl), .val (.long ll), .second, .val (.ref o), .val (.int (1 : Int32)), .val (.long rr), .second, .val (.int (own_b ff)), .val (.int (own_b df)), .val (.long cc), .second, .unset, .unset] [(.int (own_b (own_fits ll ll ll us 0 di (cc + 256) cc)))])) (fun t k => st15.trans k) ?_
      by_cases hf : own_fits ll ll ll us 0 di (cc + 256) cc = false
      · refine own_st (B := T15.setTop (mkF m 144 #[.val (.long q0), .second, .val (.long q1), .second, .val (.long q2), .second, .val (.long q3), .second, .val (.int fl), .val (.long ll), .second, .val (.ref o), .val (.int (1 : Int32)), .val (.long rr), .second, .val (.int (own_b ff)), .val (.int (own_b df)), .val (.long cc), .second, .unset, .unset] [])) (fun t k => ?_) ?_
        · show Steps p.tables e below (T15.setTop (mkF m 112 #[.val (.long q0), .second, .val (.long q1), .second, .val (.long q2), .second, .val (.long q3), .second, .val (.int fl), .val (.long ll), .second, .val (.ref o), .val (.int (1 : Int32)), .val (.long rr), .second, .val (.int (own_b ff)), .val (.int (own_b df)), .val (.long cc), .second, .unset, .unset] [(.int (own_b (own_fits ll ll ll us 0 di (cc + 256) cc)))])) _
          refine XS.ifYes X15.here hx rfl (pc0 := 112) (pc' := 144) rfl (hb hby at_112) rfl ((if0 _ _).trans (teq (own_b_ne.mpr hf)).1) (by decide) (by decide) ?_
          exact k
        rw [← e15] at G Zc
        exact k144 _ _ X15 N15 Zc _ _ _ G I (hm3)
      · refine own_st (B := T15.setTop (mkF m 119 #[.val (.long q0), .second, .val (.long q1), .second, .val (.long q2), .second, .val (.long q3), .second, .val (.int fl), .val (.long ll), .second, .val (.ref o), .val (.int (1 : Int32)), .val (.long rr), .second, .val (.int (own_b ff)), .val (.int (own_b df)), .val (.long cc), .second, .unset, .unset] [(.long cc), (.ref o)])) (fun t k => ?_) ?_
        · show Steps p.tables e below (T15.setTop (mkF m 112 #[.val (.long q0), .second, .val (.long q1), .second, .val (.long q2), .second, .val (.long q3), .second, .val (.int fl), .val (.long ll), .second, .val (.ref o), .val (.int (1 : Int32)), .val (.long rr), .second, .val (.int (own_b ff)), .val (.int (own_b df)), .val (.long cc), .second, .unset, .unset] [(.int (own_b (own_fits ll ll ll us 0 di (cc + 256) cc)))])) _
          refine XS.ifNo X15.here hx rfl (hb hby at_112) rfl ((if0 _ _).trans (feq (fun q => hf (own_b_ne.mp q))).1) ?_
          show Steps p.tables e below (T15.setTop (mkF m 115 #[.val (.long q0), .second, .val (.long q1), .second, .val (.long q2), .second, .val (.long q3), .second, .val (.int fl), .val (.long ll), .second, .val (.ref o), .val (.int (1 : Int32)), .val (.long rr), .second, .val (.int (own_b ff)), .val (.int (own_b df)), .val (.long cc), .second, .unset, .unset] [])) _
          refine XS.aload X15.here hx rfl (hb hby at_115) rfl rfl ?_
          show Steps p.tables e below (T15.setTop (mkF m 117 #[.val (.long q0), .second, .val (.long q1), .second, .val (.long q2), .second, .val (.long q3), .second, .val (.int fl), .val (.long ll), .second, .val (.ref o), .val (.int (1 : Int32)), .val (.long rr), .second, .val (.int (own_b ff)), .val (.int (own_b df)), .val (.long cc), .second, .unset, .unset] [(.ref o)])) _
          refine XS.lload X15.here hx rfl (hb hby at_117) rfl ?_
          exact k
        rw [Bool.not_eq_false] at hf
        obtain ⟨cq16, kq16, q16a, q16b, q16c⟩ := isOf hZ e15 G.1
        obtain ⟨_, _, ⟨T16, L16, k16, n16⟩, -, X16, ⟨Lc16, hQ16, l16, y16, z16⟩, st16⟩ := X15.virtualBack hx (y := (⟨"com/example/tidejoin/tidejoin/budget/MemoryBudget", "reserveDirectBuffer", "(J)V"⟩ : MethodName)) (z := (⟨"com/example/tidejoin/tidejoin/budget/MemoryBudget", "reserveDirectBuffer", "(J)V"⟩ : MethodName)) hown (mvT hZ (hw _ (List.mem_of_getElem? (i := 85) rfl))) (mvT hZ (hw _ (List.mem_of_getElem? (i := 86) rfl))) (notFace_of_selects (args := #[]) (mvT hZ (hw _ (List.mem_of_getElem? (i := 88) rfl)))) (mvT hZ (hw _ (List.mem_of_getElem? (i := 88) rfl))) (mvT hZ (hw _ (List.mem_of_getElem? (i := 87) rfl))) (by decide) (backOf (W := 0) (rm16 l Z a0 hw [] o cc ll ll ll .null us 0 di pk T5.heap n0 Zc G go hcA hcB hf) hZ (hw _ (List.mem_of_getElem? (i := 89) rfl)) (hw _ (List.mem_of_getElem? (i := 7) rfl)) (by decide) (by decide)) q16a q16c (g := (mkF m 119 #[.val (.long q0), .second, .val (.long q1), .second, .val (.long q2), .second, .val (.long q3), .second, .val (.int fl), .val (.long ll), .second, .val (.ref o), .val (.int (1 : Int32)), .val (.long rr), .second, .val (.int (own_b ff)), .val (.int (own_b df)), .val (.long cc), .second, .unset, .unset] [(.long cc), (.ref o)])) rfl (by rw [hml]; rfl) (Steps.refl _) (argsL := [(.long cc)]) (rest := []) (lenOf pd_4 rfl) rfl (by show 2 * 0 + _ ≤ _; exact Nat.le_of_eq rfl) (hb hby at_119) (fun _ _ => ⟨rfl, e15, (by decide : 1 + 0 ≤ _), (by decide : 10 + 0 ≤ _)⟩)
        dsimp only [Pt.U, Pt.locs, Pt.cells, Pt.slots] at X16 l16 y16 z16 st16 hQ16
        subst l16 y16 z16
        obtain ⟨rfl, N16q, K5, pk5, G5⟩ := hQ16
        have N16 := Fr.app N15 N16q
        refine own_st (B := T16.setTop (mkF m 122 #[.val (.long q0), .second, .val (.long q1), .second, .val (.long q2), .second, .val (.long q3), .second, .val (.int fl), .val (.long ll), .second, .val (.ref o), .val (.int (1 : Int32)), .val (.long rr), .second, .val (.int (own_b ff)), .val (.int (own_b df)), .val (.long cc), .second, .unset, .unset] [])) (fun t k => st16.trans k) ?_
        have Z5 : n0 ≤ T16.heap.size := Nat.le_trans Zc K5.1
        obtain ⟨I5, j2, j3⟩ := own_inv_res I hc.1 (by omega) hf
        refine own_st (B := T16.setTop (mkF m 124 #[.val (.long q0), .second, .val (.long q1), .second, .val (.long q2), .second, .val (.long q3), .second, .val (.int fl), .val (.long ll), .second, .val (.ref o), .val (.int (1 : Int32)), .val (.long rr), .second, .val (.int (own_b ff)), .val (.int (own_b df)), .val (.long cc), .second, .unset, .unset] [(.int (1 : Int32))])) (fun t k => ?_) ?_
        · show Steps p.tables e below (T16.setTop (mkF m 122 #[.val (.long q0), .second, .val (.long q1), .second, .val (.long q2), .second, .val (.long q3), .second, .val (.int fl), .val (.long ll), .second, .val (.ref o), .val (.int (1 : Int32)), .val (.long rr), .second, .val (.int (own_b ff)), .val (.int (own_b df)), .val (.long cc), .second, .unset, .unset] [])) _
          refine XS.iload X16.here hx rfl (hb hby at_122) rfl ?_
          exact k
        refine own_st (B := T16.setTop (mkF m 131 #[.val (.long q0), .second, .val (.long q1), .second, .val (.long q2), .second, .val (.long q3), .second, .val (.int fl), .val (.long ll), .second, .val (.ref o), .val (.int (1 : Int32)), .val (.long rr), .second, .val (.int (own_b ff)), .val (.int (own_b df)), .val (.long cc), .second, .unset, .unset] [(.long ll), (.ref o)])) (fun t k => ?_) ?_
        · show Steps p.tables e below (T16.setTop (mkF m 124 #[.val (.long q0), .second, .val (.long q1), .second, .val (.long q2), .second, .val (.long q3), .second, .val (.int fl), .val (.long ll), .second, .val (.ref o), .val (.int (1 : Int32)), .val (.long rr), .second, .val (.int (own_b ff)), .val (.int (own_b df)), .val (.long cc), .second, .unset, .unset] [(.int (1 : Int32))])) _
          refine XS.ifNo X16.here hx rfl (hb hby at_124) rfl ((if0 _ _).trans (feq (by decide)).1) ?_
          show Steps p.tables e below (T16.setTop (mkF m 127 #[.val (.long q0), .second, .val (.long q1), .second, .val (.long q2), .second, .val (.long q3), .second, .val (.int fl), .val (.long ll), .second, .val (.ref o), .val (.int (1 : Int32)), .val (.long rr), .second, .val (.int (own_b ff)), .val (.int (own_b df)), .val (.long cc), .second, .unset, .unset] [])) _
          refine XS.aload X16.here hx rfl (hb hby at_127) rfl rfl ?_
          show Steps p.tables e below (T16.setTop (mkF m 129 #[.val (.long q0), .second, .val (.long q1), .second, .val (.long q2), .second, .val (.long q3), .second, .val (.int fl), .val (.long ll), .second, .val (.ref o), .val (.int (1 : Int32)), .val (.long rr), .second, .val (.int (own_b ff)), .val (.int (own_b df)), .val (.long cc), .second, .unset, .unset] [(.ref o)])) _
          refine XS.lload X16.here hx rfl (hb hby at_129) rfl ?_
          exact k
        obtain ⟨_, _, ⟨T17, L17, k17, n17⟩, -, X17, ⟨Lc17, hQ17, l17, y17, z17⟩, st17⟩ := Jvm.LawKit.callS X16 hx (y := (⟨"com/example/tidejoin/tidejoin/budget/MemoryBudgetLimitPinLaw", "same", "(Lcom/example/tidejoin/tidejoin/budget/MemoryBudget;J)Z"⟩ : MethodName)) hown (mvT hZ (hw _ (List.mem_of_getElem? (i := 25) rfl))) (mvT hZ (hw _ (List.mem_of_getElem? (i := 26) rfl))) (mvT hZ (hw _ (List.mem_of_getElem? (i := 27) rfl))) (mvT hZ (hw _ (List.mem_of_getElem? (i := 28) rfl))) (by decide) (backOf (W := 0) (rm5 l Z a0 hw [] o ll ll ll ll .null (us + (cc + 256)) 0 (di + cc) pk5 T16.heap n0 Z5 G5 (own_inv_lim I5) rfl (own_inv_us I5)) hZ (hw _ (List.mem_of_getElem? (i := 28) rfl)) (hw _ (List.mem_of_getElem? (i := 27) rfl)) (by decide) (by decide)) (g := (mkF m 131 #[.val (.long q0), .second, .val (.long q1), .second, .val (.long q2), .second, .val (.long q3), .second, .val (.int fl), .val (.long ll), .second, .val (.ref o), .val (.int (1 : Int32)), .val (.long rr), .second, .val (.int (own_b ff)), .val (.int (own_b df)), .val (.long cc), .second, .unset, .unset] [(.long ll), (.ref o)])) rfl (by rw [hml]; rfl) (argsL := [(.ref o), (.long ll)]) (rest := []) (lenOf pd_7 rfl) rfl (by show 2 * 0 + _ ≤ _; exact Nat.le_of_eq rfl) (hb hby at_131) (fun _ _ => ⟨rfl, rfl, (by decide : 1 + 0 ≤ _), (by decide : 10 + 0 ≤ _)⟩)
        dsimp only [Pt.U, Pt.locs, Pt.cells, Pt.slots] at X17 l17 y17 z17 st17 hQ17
        subst l17 y17 z17
        obtain ⟨rfl, N17q, e17⟩ := hQ17
        have N17 := Fr.app N16 N17q
        refine own_st (B := T17.setTop (mkF m 134 #[.val (.long q0), .second, .val (.long q1), .second, .val (.long q2), .second, .val (.long q3), .second, .val (.int fl), .val (.long ll), .second, .val (.ref o), .val (.int (1 : Int32)), .val (.long rr), .second, .val (.int (own_b ff)), .val (.int (own_b df)), .val (.long cc), .second, .unset, .unset] [(.int (1 : Int32))])) (fun t k => st17 _ k) ?_
        refine own_st (B := T17.setTop (mkF m 144 #[.val (.long q0), .second, .val (.long q1), .second, .val (.long q2), .second, .val (.long q3), .second, .val (.int fl), .val (.long ll), .second, .val (.ref o), .val (.int (1 : Int32)), .val (.long rr), .second, .val (.int (own_b ff)), .val (.int (own_b df)), .val (.long cc), .second, .unset, .unset] [])) (fun t k => ?_) ?_
        · show Steps p.tables e below (T17.setTop (mkF m 134 #[.val (.long q0), .second, .val (.long q1), .second, .val (.long q2), .second, .val (.long q3), .second, .val (.int fl), .val (.long ll), .second, .val (.ref o), .val (.int (1 : Int32)), .val (.long rr), .second, .val (.int (own_b ff)), .val (.int (own_b df)), .val (.long cc), .second, .unset, .unset] [(.int (1 : Int32))])) _
          refine XS.ifNo X17.here hx rfl (hb hby at_134) rfl ((if0 _ _).trans (feq (by decide)).1) ?_
          show Steps p.tables e below (T17.setTop (mkF m 137 #[.val (.long q0), .second, .val (.long q1), .second, .val (.long q2), .second, .val (.long q3), .second, .val (.int fl), .val (.long ll), .second, .val (.ref o), .val (.int (1 : Int32)), .val (.long rr), .second, .val (.int (own_b ff)), .val (.int (own_b df)), .val (.long cc), .second, .unset, .unset] [])) _
          refine XS.iconst X17.here hx rfl (hb hby at_137) ?_
          show Steps p.tables e below (T17.setTop (mkF m 138 #[.val (.long q0), .second, .val (.long q1), .second, .val (.long q2), .second, .val (.long q3), .second, .val (.int fl), .val (.long ll), .second, .val (.ref o), .val (.int (1 : Int32)), .val (.long rr), .second, .val (.int (own_b ff)), .val (.int (own_b df)), .val (.long cc), .second, .unset, .unset] [(.int (1 : Int32))])) _
          refine XS.goto X17.here hx rfl (pc0 := 138) (pc' := 142) rfl (hb hby at_138) (by decide) (by decide) ?_
          show Steps p.tables e below (T17.setTop (mkF m 142 #[.val (.long q0), .second, .val (.long q1), .second, .val (.long q2), .second, .val (.long q3), .second, .val (.int fl), .val (.long ll), .second, .val (.ref o), .val (.int (1 : Int32)), .val (.long rr), .second, .val (.int (own_b ff)), .val (.int (own_b df)), .val (.long cc), .second, .unset, .unset] [(.int (1 : Int32))])) _
          refine XS.istore X17.here hx rfl (hb hby at_142) rfl (l' := #[.val (.long q0), .second, .val (.long q1), .second, .val (.long q2), .second, .val (.long q3), .second, .val (.int fl), .val (.long ll), .second, .val (.ref o), .val (.int (1 : Int32)), .val (.long rr), .second, .val (.int (own_b ff)), .val (.int (own_b df)), .val (.long cc), .second, .unset, .unset]) rfl ?_
          exact k
        rw [← e17] at G5 Z5
        exact k144 _ _ X17 N17 Z5 _ _ _ G5 I5 (fun q => by have := hm3 q; omega)
  by_cases h73 : (fl &&& (1 : Int32)) = (0 : Int32)
  · refine own_st (B := T6.setTop (mkF m 81 #[.val (.long q0), .second, .val (.long q1), .second, .val (.long q2), .second, .val (.long q3), .second, .val (.int fl), .val (.long ll), .second, .val (.ref o), .val (.int (1 : Int32)), .val (.long rr), .second, .val (.int (own_b ff)), .unset, .unset, .unset, .unset, .unset] [(.int (0 : Int32))])) (fun t k => ?_) ?_
    · show Steps p.tables e below (T6.setTop (mkF m 73 #[.val (.long q0), .second, .val (.long q1), .second, .val (.long q2), .second, .val (.long q3), .second, .val (.int fl), .val (.long ll), .second, .val (.ref o), .val (.int (1 : Int32)), .val (.long rr), .second, .val (.int (own_b ff)), .unset, .unset, .unset, .unset, .unset] [(.int (fl &&& (1 : Int32)))])) _
      refine XS.ifYes X6.here hx rfl (pc0 := 73) (pc' := 80) rfl (hb hby at_73) rfl ((if0 _ _).trans (teq h73).1) (by decide) (by decide) ?_
      show Steps p.tables e below (T6.setTop (mkF m 80 #[.val (.long q0), .second, .val (.long q1), .second, .val (.long q2), .second, .val (.long q3), .second, .val (.int fl), .val (.long ll), .second, .val (.ref o), .val (.int (1 : Int32)), .val (.long rr), .second, .val (.int (own_b ff)), .unset, .unset, .unset, .unset, .unset] [])) _
      refine XS.iconst X6.here hx rfl (hb hby at_80) ?_
      exact k
    exact k81 false
  · refine own_st (B := T6.setTop (mkF m 81 #[.val (.long q0), .second, .val (.long q1), .second, .val (.long q2), .second, .val (.long q3), .second, .val (.int fl), .val (.long ll), .second, .val (.ref o), .val (.int (1 : Int32)), .val (.long rr), .second, .val (.int (own_b ff)), .unset, .unset, .unset, .unset, .unset] [(.int (1 : Int32))])) (fun t k => ?_) ?_
    · show Steps p.tables e below (T6.setTop (mkF m 73 #[.val (.long q0), .second, .val (.long q1), .second, .val (.long q2), .second, .val (.long q3), .second, .val (.int fl), .val (.long ll), .second, .val (.ref o), .val (.int (1 : Int32)), .val (.long rr), .second, .val (.int (own_b ff)), .unset, .unset, .unset, .unset, .unset] [(.int (fl &&& (1 : Int32)))])) _
      refine XS.ifNo X6.here hx rfl (hb hby at_73) rfl ((if0 _ _).trans (feq h73).1) ?_
      show Steps p.tables e below (T6.setTop (mkF m 76 #[.val (.long q0), .second, .val (.long q1), .second, .val (.long q2), .second, .val (.long q3), .second, .val (.int fl), .val (.long ll), .second, .val (.ref o), .val (.int (1 : Int32)), .val (.long rr), .second, .val (.int (own_b ff)), .unset, .unset, .unset, .unset, .unset] [])) _
      refine XS.iconst X6.here hx rfl (hb hby at_76) ?_
      show Steps p.tables e below (T6.setTop (mkF m 77 #[.val (.long q0), .second, .val (.long q1), .second, .val (.long q2), .second, .val (.long q3), .second, .val (.int fl), .val (.long ll), .second, .val (.ref o), .val (.int (1 : Int32)), .val (.long rr), .second, .val (.int (own_b ff)), .unset, .unset, .unset, .unset, .unset] [(.int (1 : Int32))])) _
      refine XS.goto X6.here hx rfl (pc0 := 77) (pc' := 81) rfl (hb hby at_77) (by decide) (by decide) ?_
      exact k
    exact k81 true
set_option maxRecDepth 65536 in
set_option maxHeartbeats 40000000 in
theorem comes_1 {Post : Tables → Env → Array Value → State → Outcome → State → Prop} (hpost : ∀ tb e args s v u, (limb_1_1.after args s (.returned v) u = true ∧ limb_1_2.after args s (.returned v) u = true) → FrameEnd s (.returned v) u (Jvm.fieldLocs frame_1_writes args s ++ Jvm.arrayLocs frame_1_arrays args s ++ Jvm.staticLocs frame_1_statics s) 16 128 → Post tb e args s (.returned v) u) :
    ArmFor flags0 classFile x code maxLocals ret World_1 tables_1 room_1 Calls_1 rest_1 Pre_1 Post := by
  intro l hfl _ _ p e ha hc hk s m args below hf hA hF happ hP
  obtain ⟨hcalls, hrest, hpre⟩ := hP
  obtain ⟨-, -, -, hnamed, -, -, -, hat⟩ := (Spec.applies_iff hf).mp happ
  obtain ⟨hg, hn⟩ := and_e (Cond.before_iff.mp (show (Jvm.Cond.and given_1 narrow_1).before args s = true from hpre))
  obtain ⟨gc, g0⟩ := and_e hg
  obtain ⟨ga0, g1⟩ := and_e g0
  obtain ⟨ga1, g2⟩ := and_e g1
  obtain ⟨ga2, g3⟩ := and_e g2
  obtain ⟨ga3, g4⟩ := and_e g3
  have ga4 := g4
  obtain ⟨w0, w1, w2, w3, w4, rfl⟩ : ∃ w0 w1 w2 w3 w4 : Value, args = #[w0, w1, w2, w3, w4] := by
    have hs : args.size = 5 := by simpa [Cond.value, given_1] using gc
    obtain ⟨L⟩ := args
    match L, hs with
    | [w0, w1, w2, w3, w4], _ => exact ⟨w0, w1, w2, w3, w4, rfl⟩
  have hw := fun d (hd : d ∈ tables_1) => atoms_spec (ws := Jvm.Cond.code x code maxLocals ret :: tables_1) hat d (List.mem_cons_of_mem _ hd)
  obtain ⟨i0, ei0⟩ := isL_v ga0
  obtain rfl : w0 = (.long i0) := Option.some.inj ei0
  obtain ⟨i1, ei1⟩ := isL_v ga1
  obtain rfl : w1 = (.long i1) := Option.some.inj ei1
  obtain ⟨i2, ei2⟩ := isL_v ga2
  obtain rfl : w2 = (.long i2) := Option.some.inj ei2
  obtain ⟨i3, ei3⟩ := isL_v ga3
  obtain rfl : w3 = (.long i3) := Option.some.inj ei3
  obtain ⟨i4, ei4⟩ := is_v ga4
  obtain rfl : w4 = (.int i4) := Option.some.inj ei4
  obtain ⟨n, o, h1, h2, h3, _, L, rfl, ⟨rfl, N⟩, hq⟩ := rm0 l s _ hw tables_1 i0 i1 i2 i3 i4 s.heap s.heap.size (Nat.le_refl _) p e ha hc hk s m _ below hf ((Spec.applies_iff_loose hf).mp happ).1 ⟨rfl, State.Warmed39.refl s, rfl⟩ trivial
  refine ⟨n, _, h1, h2, h3, hpost _ _ _ _ _ _ ⟨Cond.after_iff.mpr rfl, Cond.after_iff.mpr (eq_i res_at (Term.int_eval (1)) rfl)⟩ ⟨hq.1, hq.2.1, (hq.2.2.sift fun y hy => Or.inr (N y hy)).mono (by decide) (by decide)⟩⟩
theorem main_1_1 : Claimed_1_1 := comes_1 fun _ _ _ _ _ _ h hF => ⟨h.1, hF⟩
theorem main_1_2 : Claimed_1_2 := comes_1 fun _ _ _ _ _ _ h hF => ⟨h.2, hF⟩
end Jvm.Pilot.@@N@@
namespace Jvm.Pilot.@@N@@
open Jvm Jvm.ClassFile Sem Op Lib Jvm.Free Jvm.Stand Jvm.Pilot.@@N@@.Jvm.D
/-! MADE BY PROGRAM (witnessworld.py) out of the Statement's table words and the real class files: 11 classes; the members and pool entries that the words name. The judged class is class 1, her method 2. -/
namespace start1
open Jvm.ClassFile
def u (s : String) : CpInfo := .utf8 (stringToUtf16 s)
/-- a pool by its gaps: so many unusable entries, then the entry; so many at the end -/
def gap : Nat → List CpInfo → List CpInfo
  | 0, r => r
  | n + 1, r => .unusable :: gap n r
def poolList (es : List (Nat × CpInfo)) (last : Nat) : List CpInfo := es.foldr (fun e r => gap e.1 (e.2 :: r)) (gap last [])
def pool (es : List (Nat × CpInfo)) (last : Nat) : Array CpInfo := ⟨poolList es last⟩
def fileOf (pool : Array CpInfo) (this : Nat) (attrs : Array Attribute := #[]) (ms : Array MethodInfo := #[]) (fl : Nat := 33) (sup : Nat := 0) (ifs : Array Nat := #[]) (fds : Array FieldInfo := #[]) : ClassFile where
  minorVersion := 0
  majorVersion := 65
  constantPool := pool
  accessFlags := fl
  thisClass := this
  superClass := sup
  interfaces := ifs
  fields := fds
  methods := ms
  attributes := attrs
def plain (name : String) (sup : Option ClassId) : Class where
  name := name
  kind := .ordinary
  loader := none
  accessFlags := 33
  super := sup
  interfaces := #[]
  cf := none
  fields := #[]
  methods := #[]
  instanceTypes := #[]
  staticTypes := #[]
  resolved := #[]
  callSites := []
  init := .initialized
  statics := none
  mirror := none

def pool0 : Array CpInfo := pool [(5, u "<init>"), (0, u "()V"), (1, .class_ 10), (1, u "java/lang/Object")] 113

def k0c0 : Code := { maxStack := 0, maxLocals := 1, code := object_method_1_code, exceptionTable := #[], attributes := #[] }
def k0m0 : Method := { name := "<init>", desc := "()V", sig := { parameters := [], returnType := none }, accessFlags := 1, code := some k0c0 }
/-- java/lang/Object -/
def k0 : Class := { plain "java/lang/Object" none with
  accessFlags := 33
  interfaces := #[]
  cf := some (fileOf pool0 8 #[] #[{ accessFlags := 1, nameIndex := 5, descriptorIndex := 6, attributes := #[] }] 33 0 #[] #[])
  fields := #[]
  methods := #[k0m0]
  instanceTypes := #[]
  staticTypes := #[]
  resolved := Array.replicate 124 none
  statics := none }

def pool1 : Array CpInfo := pool [(2, .class_ 4), (1, u "java/lang/Object"), (0, u "<init>"), (0, u "()V"), (0, .methodref 8 9), (0, .class_ 10), (0, .nameAndType 11 12), (0, u "com/example/tidejoin/tidejoin/budget/MemoryBudget"), (0, u "limit"), (0, u "()J"), (0, .methodref 8 14), (0, .nameAndType 15 12), (0, u "given"), (0, .methodref 8 17), (0, .nameAndType 18 12), (0, u "used"), (2, .long 9223372036854775807), (1, .methodref 24 25), (0, .class_ 26), (0, .nameAndType 27 28), (0, u "java/lang/Math"), (0, u "max"), (0, u "(JJ)J"), (0, .methodref 8 30), (0, .nameAndType 5 31), (0, u "(J)V"), (0, .methodref 33 34), (0, .class_ 35), (0, .nameAndType 36 37), (0, u "com/example/tidejoin/tidejoin/budget/MemoryBudgetLimitPinLaw"), (0, u "same"), (0, u "(Lcom/example/tidejoin/tidejoin/budget/MemoryBudget;J)Z"), (0, .methodref 8 39), (0, .nameAndType 40 41), (0, u "tryReserve"), (0, u "(J)Z"), (0, .long 4611686018427387903), (1, .long 256), (1, .methodref 8 47), (0, .nameAndType 48 49), (0, u "fits"), (0, u "(JJ)Z"), (0, .methodref 8 51), (0, .nameAndType 52 31), (0, u "reserveDirectBuffer"), (0, .methodref 24 54), (0, .nameAndType 55 28), (0, u "min"), (0, .methodref 8 57), (0, .nameAndType 58 31), (0, u "markUnmade"), (3, u "law"), (0, u "(JJJJI)Z")] 5

def k1m0 : Method := { name := "<init>", desc := "()V", sig := { parameters := [], returnType := none }, accessFlags := 1, code := none }
def k1c1 : Code := { maxStack := 4, maxLocals := 3, code := method_2_code, exceptionTable := #[], attributes := #[] }
def k1m1 : Method := { name := "same", desc := "(Lcom/example/tidejoin/tidejoin/budget/MemoryBudget;J)Z", sig := { parameters := [(.object "com/example/tidejoin/tidejoin/budget/MemoryBudget"), .long], returnType := some .boolean }, accessFlags := 10, code := some k1c1 }
def k1c2 : Code := { maxStack := 6, maxLocals := 21, code := code, exceptionTable := #[], attributes := #[] }
def k1m2 : Method := { name := "law", desc := "(JJJJI)Z", sig := { parameters := [.long, .long, .long, .long, .int], returnType := some .boolean }, accessFlags := 9, code := some k1c2 }
/-- com/example/tidejoin/tidejoin/budget/MemoryBudgetLimitPinLaw -/
def k1 : Class := { plain "com/example/tidejoin/tidejoin/budget/MemoryBudgetLimitPinLaw" (some 0) with
  accessFlags := 49
  interfaces := #[]
  cf := some (fileOf pool1 33 #[] #[{ accessFlags := 1, nameIndex := 5, descriptorIndex := 6, attributes := #[] }, { accessFlags := 10, nameIndex := 36, descriptorIndex := 37, attributes := #[] }, { accessFlags := 9, nameIndex := 62, descriptorIndex := 63, attributes := #[] }] 49 2 #[] #[])
  fields := #[]
  methods := #[k1m0, k1m1, k1m2]
  instanceTypes := #[]
  staticTypes := #[]
  resolved := Array.replicate 69 none
  statics := none }

def pool2 : Array CpInfo := pool [(1, .class_ 2), (0, u "java/lang/Math"), (1, .class_ 6), (1, u "java/lang/Object"), (0, u "<init>"), (0, u "()V"), (89, .class_ 100), (1, u "java/lang/Math$RandomNumberGeneratorHolder"), (20, u "(JJ)J"), (50, u "negativeZeroFloatBits"), (0, u "J"), (2, u "negativeZeroDoubleBits"), (21, u "max"), (2, u "min"), (43, u "$assertionsDisabled"), (0, u "Z"), (91, u "twoToTheDoubleScaleDown"), (0, u "D"), (4, u "twoToTheDoubleScaleUp"), (9, u "E"), (3, u "PI"), (2, u "TAU"), (2, u "DEGREES_TO_RADIANS"), (0, u "RADIANS_TO_DEGREES")] 94

def k2m0 : Method := { name := "<init>", desc := "()V", sig := { parameters := [], returnType := none }, accessFlags := 2, code := none }
def k2c1 : Code := { maxStack := 4, maxLocals := 4, code := jdk_29_method_66_code, exceptionTable := #[], attributes := #[] }
def k2m1 : Method := { name := "max", desc := "(JJ)J", sig := { parameters := [.long, .long], returnType := some .long }, accessFlags := 9, code := some k2c1 }
def k2c2 : Code := { maxStack := 4, maxLocals := 4, code := jdk_29_method_70_code, exceptionTable := #[], attributes := #[] }
def k2m2 : Method := { name := "min", desc := "(JJ)J", sig := { parameters := [.long, .long], returnType := some .long }, accessFlags := 9, code := some k2c2 }
/-- java/lang/Math -/
def k2 : Class := { plain "java/lang/Math" (some 0) with
  accessFlags := 49
  interfaces := #[]
  cf := some (fileOf pool2 1 #[.nestMembers #[98]] #[{ accessFlags := 2, nameIndex := 7, descriptorIndex := 8, attributes := #[] }, { accessFlags := 9, nameIndex := 198, descriptorIndex := 121, attributes := #[] }, { accessFlags := 9, nameIndex := 201, descriptorIndex := 121, attributes := #[] }] 49 4 #[] #[{ accessFlags := 25, nameIndex := 354, descriptorIndex := 339, attributes := #[] }, { accessFlags := 25, nameIndex := 358, descriptorIndex := 339, attributes := #[] }, { accessFlags := 25, nameIndex := 361, descriptorIndex := 339, attributes := #[] }, { accessFlags := 26, nameIndex := 364, descriptorIndex := 339, attributes := #[] }, { accessFlags := 26, nameIndex := 365, descriptorIndex := 339, attributes := #[] }, { accessFlags := 26, nameIndex := 172, descriptorIndex := 173, attributes := #[] }, { accessFlags := 26, nameIndex := 176, descriptorIndex := 173, attributes := #[] }, { accessFlags := 8, nameIndex := 344, descriptorIndex := 339, attributes := #[] }, { accessFlags := 8, nameIndex := 338, descriptorIndex := 339, attributes := #[] }, { accessFlags := 4120, nameIndex := 245, descriptorIndex := 246, attributes := #[] }])
  fields := #[{ name := "E", type := .double, accessFlags := 25, slot := 0, constantValue := 0 }, { name := "PI", type := .double, accessFlags := 25, slot := 1, constantValue := 0 }, { name := "TAU", type := .double, accessFlags := 25, slot := 2, constantValue := 0 }, { name := "DEGREES_TO_RADIANS", type := .double, accessFlags := 26, slot := 3, constantValue := 0 }, { name := "RADIANS_TO_DEGREES", type := .double, accessFlags := 26, slot := 4, constantValue := 0 }, { name := "negativeZeroFloatBits", type := .long, accessFlags := 26, slot := 5, constantValue := 0 }, { name := "negativeZeroDoubleBits", type := .long, accessFlags := 26, slot := 6, constantValue := 0 }, { name := "twoToTheDoubleScaleUp", type := .double, accessFlags := 8, slot := 7, constantValue := 0 }, { name := "twoToTheDoubleScaleDown", type := .double, accessFlags := 8, slot := 8, constantValue := 0 }, { name := "$assertionsDisabled", type := .boolean, accessFlags := 4120, slot := 9, constantValue := 0 }]
  methods := #[k2m0, k2m1, k2m2]
  instanceTypes := #[]
  staticTypes := #[.double, .double, .double, .double, .double, .long, .long, .double, .double, .boolean]
  resolved := Array.replicate 460 none
  statics := none }

def pool3 : Array CpInfo := pool [(1, .methodref 2 3), (0, .class_ 4), (0, .nameAndType 5 6), (0, u "com/example/tidejoin/tidejoin/budget/MemoryBudget"), (0, u "<init>"), (0, u "(JLcom/example/tidejoin/tidejoin/budget/JvmMemory;)V"), (0, .methodref 8 9), (0, .class_ 10), (0, .nameAndType 5 11), (0, u "java/lang/Object"), (0, u "()V"), (9, .fieldref 2 22), (0, .nameAndType 23 24), (0, u "given"), (0, u "J"), (4, u "room"), (0, u "()J"), (0, .methodref 32 33), (0, .class_ 34), (0, .nameAndType 35 36), (0, u "java/lang/Math"), (0, u "min"), (0, u "(JJ)J"), (0, .fieldref 2 38), (0, .nameAndType 29 24), (2, u "directRoom"), (0, .fieldref 2 43), (0, .nameAndType 41 24), (0, .fieldref 2 45), (0, .nameAndType 46 47), (0, u "memory"), (0, u "Lcom/example/tidejoin/tidejoin/budget/JvmMemory;"), (3, u "(J)V"), (0, .fieldref 2 53), (0, .nameAndType 54 24), (0, u "unmade"), (0, .fieldref 2 56), (0, .nameAndType 57 24), (0, u "direct"), (0, .fieldref 2 59), (0, .nameAndType 60 24), (0, u "used"), (0, .fieldref 2 62), (0, .nameAndType 63 24), (0, u "peak"), (3, .methodref 2 68), (0, .nameAndType 69 70), (0, u "fits"), (0, u "(JJ)Z"), (14, .methodref 2 86), (0, .nameAndType 87 30), (0, u "made"), (1, .fieldref 2 90), (0, .nameAndType 91 92), (0, u "reclaimable"), (0, u "Lcom/example/tidejoin/tidejoin/budget/Reclaimable;"), (0, .methodref 2 94), (0, .nameAndType 95 51), (0, u "checkReservation"), (0, .methodref 2 97), (0, .nameAndType 98 99), (0, u "reserve"), (0, u "(JJ)V"), (1, .methodref 102 103), (0, .class_ 104), (0, .nameAndType 105 106), (0, u "com/example/tidejoin/tidejoin/budget/Footprint"), (0, u "directBuffer"), (0, u "(J)J"), (0, .methodref 2 108), (0, .nameAndType 109 70), (0, u "tryReserve"), (0, .methodref 2 111), (0, .nameAndType 112 30), (0, u "limit"), (0, .methodref 32 114), (0, .nameAndType 115 36), (0, u "max"), (0, .fieldref 2 117), (0, .nameAndType 118 119), (0, u "reclaiming"), (0, u "Z"), (12, u "(J)Z"), (49, u "reserveDirectBuffer"), (5, u "markUnmade")] 33

def k3c0 : Code := { maxStack := 4, maxLocals := 3, code := prog_8_method_1_code, exceptionTable := #[], attributes := #[] }
def k3m0 : Method := { name := "<init>", desc := "(J)V", sig := { parameters := [.long], returnType := none }, accessFlags := 1, code := some k3c0 }
def k3c1 : Code := { maxStack := 5, maxLocals := 4, code := prog_8_method_2_code, exceptionTable := #[], attributes := #[] }
def k3m1 : Method := { name := "<init>", desc := "(JLcom/example/tidejoin/tidejoin/budget/JvmMemory;)V", sig := { parameters := [.long, (.object "com/example/tidejoin/tidejoin/budget/JvmMemory")], returnType := none }, accessFlags := 2, code := some k3c1 }
def k3c2 : Code := { maxStack := 6, maxLocals := 1, code := prog_8_method_4_code, exceptionTable := #[], attributes := #[] }
def k3m2 : Method := { name := "limit", desc := "()J", sig := { parameters := [], returnType := some .long }, accessFlags := 1, code := some k3c2 }
def k3c3 : Code := { maxStack := 2, maxLocals := 1, code := prog_8_method_5_code, exceptionTable := #[], attributes := #[] }
def k3m3 : Method := { name := "given", desc := "()J", sig := { parameters := [], returnType := some .long }, accessFlags := 1, code := some k3c3 }
def k3c4 : Code := { maxStack := 2, maxLocals := 1, code := prog_8_method_6_code, exceptionTable := #[], attributes := #[] }
def k3m4 : Method := { name := "used", desc := "()J", sig := { parameters := [], returnType := some .long }, accessFlags := 1, code := some k3c4 }
def k3c5 : Code := { maxStack := 6, maxLocals := 5, code := prog_8_method_10_code, exceptionTable := #[], attributes := #[] }
def k3m5 : Method := { name := "fits", desc := "(JJ)Z", sig := { parameters := [.long, .long], returnType := some .boolean }, accessFlags := 1, code := some k3c5 }
def k3c6 : Code := { maxStack := 5, maxLocals := 3, code := prog_8_method_14_code, exceptionTable := #[], attributes := #[] }
def k3m6 : Method := { name := "reserveDirectBuffer", desc := "(J)V", sig := { parameters := [.long], returnType := none }, accessFlags := 1, code := some k3c6 }
def k3c7 : Code := { maxStack := 8, maxLocals := 8, code := prog_8_method_15_code, exceptionTable := #[{ startPc := 65, endPc := 76, handlerPc := 84, catchType := 0 }, { startPc := 84, endPc := 86, handlerPc := 84, catchType := 0 }], attributes := #[] }
def k3m7 : Method := { name := "reserve", desc := "(JJ)V", sig := { parameters := [.long, .long], returnType := none }, accessFlags := 2, code := some k3c7 }
def k3c8 : Code := { maxStack := 5, maxLocals := 3, code := prog_8_method_21_code, exceptionTable := #[], attributes := #[] }
def k3m8 : Method := { name := "tryReserve", desc := "(J)Z", sig := { parameters := [.long], returnType := some .boolean }, accessFlags := 1, code := some k3c8 }
def k3c9 : Code := { maxStack := 5, maxLocals := 5, code := prog_8_method_22_code, exceptionTable := #[], attributes := #[] }
def k3m9 : Method := { name := "tryReserve", desc := "(JJ)Z", sig := { parameters := [.long, .long], returnType := some .boolean }, accessFlags := 2, code := some k3c9 }
def k3c10 : Code := { maxStack := 4, maxLocals := 2, code := prog_8_method_23_code, exceptionTable := #[], attributes := #[] }
def k3m10 : Method := { name := "checkReservation", desc := "(J)V", sig := { parameters := [.long], returnType := none }, accessFlags := 10, code := some k3c10 }
def k3c11 : Code := { maxStack := 4, maxLocals := 1, code := prog_8_method_25_code, exceptionTable := #[], attributes := #[] }
def k3m11 : Method := { name := "made", desc := "()J", sig := { parameters := [], returnType := some .long }, accessFlags := 2, code := some k3c11 }
def k3c12 : Code := { maxStack := 6, maxLocals := 3, code := prog_8_method_29_code, exceptionTable := #[], attributes := #[] }
def k3m12 : Method := { name := "markUnmade", desc := "(J)V", sig := { parameters := [.long], returnType := none }, accessFlags := 1, code := some k3c12 }
/-- com/example/tidejoin/tidejoin/budget/MemoryBudget -/
def k3 : Class := { plain "com/example/tidejoin/tidejoin/budget/MemoryBudget" (some 0) with
  accessFlags := 49
  interfaces := #[]
  cf := some (fileOf pool3 2 #[] #[{ accessFlags := 1, nameIndex := 5, descriptorIndex := 51, attributes := #[] }, { accessFlags := 2, nameIndex := 5, descriptorIndex := 6, attributes := #[] }, { accessFlags := 1, nameIndex := 112, descriptorIndex := 30, attributes := #[] }, { accessFlags := 1, nameIndex := 23, descriptorIndex := 30, attributes := #[] }, { accessFlags := 1, nameIndex := 60, descriptorIndex := 30, attributes := #[] }, { accessFlags := 1, nameIndex := 69, descriptorIndex := 70, attributes := #[] }, { accessFlags := 1, nameIndex := 182, descriptorIndex := 51, attributes := #[] }, { accessFlags := 2, nameIndex := 98, descriptorIndex := 99, attributes := #[] }, { accessFlags := 1, nameIndex := 109, descriptorIndex := 132, attributes := #[] }, { accessFlags := 2, nameIndex := 109, descriptorIndex := 70, attributes := #[] }, { accessFlags := 10, nameIndex := 95, descriptorIndex := 51, attributes := #[] }, { accessFlags := 2, nameIndex := 87, descriptorIndex := 30, attributes := #[] }, { accessFlags := 1, nameIndex := 188, descriptorIndex := 51, attributes := #[] }] 49 8 #[] #[{ accessFlags := 18, nameIndex := 23, descriptorIndex := 24, attributes := #[] }, { accessFlags := 18, nameIndex := 29, descriptorIndex := 24, attributes := #[] }, { accessFlags := 18, nameIndex := 41, descriptorIndex := 24, attributes := #[] }, { accessFlags := 18, nameIndex := 46, descriptorIndex := 47, attributes := #[] }, { accessFlags := 2, nameIndex := 60, descriptorIndex := 24, attributes := #[] }, { accessFlags := 2, nameIndex := 54, descriptorIndex := 24, attributes := #[] }, { accessFlags := 2, nameIndex := 57, descriptorIndex := 24, attributes := #[] }, { accessFlags := 2, nameIndex := 63, descriptorIndex := 24, attributes := #[] }, { accessFlags := 2, nameIndex := 91, descriptorIndex := 92, attributes := #[] }, { accessFlags := 2, nameIndex := 118, descriptorIndex := 119, attributes := #[] }])
  fields := #[{ name := "given", type := .long, accessFlags := 18, slot := 0, constantValue := 0 }, { name := "room", type := .long, accessFlags := 18, slot := 1, constantValue := 0 }, { name := "directRoom", type := .long, accessFlags := 18, slot := 2, constantValue := 0 }, { name := "memory", type := (.object "com/example/tidejoin/tidejoin/budget/JvmMemory"), accessFlags := 18, slot := 3, constantValue := 0 }, { name := "used", type := .long, accessFlags := 2, slot := 4, constantValue := 0 }, { name := "unmade", type := .long, accessFlags := 2, slot := 5, constantValue := 0 }, { name := "direct", type := .long, accessFlags := 2, slot := 6, constantValue := 0 }, { name := "peak", type := .long, accessFlags := 2, slot := 7, constantValue := 0 }, { name := "reclaimable", type := (.object "com/example/tidejoin/tidejoin/budget/Reclaimable"), accessFlags := 2, slot := 8, constantValue := 0 }, { name := "reclaiming", type := .boolean, accessFlags := 2, slot := 9, constantValue := 0 }]
  methods := #[k3m0, k3m1, k3m2, k3m3, k3m4, k3m5, k3m6, k3m7, k3m8, k3m9, k3m10, k3m11, k3m12]
  instanceTypes := #[.long, .long, .long, (.object "com/example/tidejoin/tidejoin/budget/JvmMemory"), .long, .long, .long, .long, (.object "com/example/tidejoin/tidejoin/budget/Reclaimable"), .boolean]
  staticTypes := #[]
  resolved := Array.replicate 222 none
  statics := none }

def pool4 : Array CpInfo := pool [(2, .class_ 4), (1, u "java/lang/Object"), (0, u "<init>"), (0, u "()V"), (0, .class_ 8), (0, u "com/example/tidejoin/tidejoin/budget/Footprint"), (7, u "(J)J"), (4, u "STRING"), (0, u "J"), (6, .long 256), (7, u "REFERENCE"), (0, u "I"), (2, u "LARGEST_ARRAY"), (1, u "OBJECT_HEADER"), (1, u "ARRAY_HEADER"), (1, u "ALIGNMENT"), (0, u "DIRECT_BUFFER_OBJECTS"), (5, u "directBuffer")] 3

def k4m0 : Method := { name := "<init>", desc := "()V", sig := { parameters := [], returnType := none }, accessFlags := 2, code := none }
def k4c1 : Code := { maxStack := 4, maxLocals := 2, code := prog_5_method_5_code, exceptionTable := #[], attributes := #[] }
def k4m1 : Method := { name := "directBuffer", desc := "(J)J", sig := { parameters := [.long], returnType := some .long }, accessFlags := 9, code := some k4c1 }
/-- com/example/tidejoin/tidejoin/budget/Footprint -/
def k4 : Class := { plain "com/example/tidejoin/tidejoin/budget/Footprint" (some 0) with
  accessFlags := 49
  interfaces := #[]
  cf := some (fileOf pool4 7 #[] #[{ accessFlags := 2, nameIndex := 5, descriptorIndex := 6, attributes := #[] }, { accessFlags := 9, nameIndex := 54, descriptorIndex := 16, attributes := #[] }] 49 2 #[] #[{ accessFlags := 25, nameIndex := 37, descriptorIndex := 38, attributes := #[] }, { accessFlags := 25, nameIndex := 41, descriptorIndex := 38, attributes := #[] }, { accessFlags := 26, nameIndex := 43, descriptorIndex := 38, attributes := #[] }, { accessFlags := 26, nameIndex := 45, descriptorIndex := 38, attributes := #[] }, { accessFlags := 26, nameIndex := 47, descriptorIndex := 38, attributes := #[] }, { accessFlags := 26, nameIndex := 21, descriptorIndex := 22, attributes := #[] }, { accessFlags := 26, nameIndex := 48, descriptorIndex := 38, attributes := #[] }])
  fields := #[{ name := "REFERENCE", type := .int, accessFlags := 25, slot := 0, constantValue := 0 }, { name := "LARGEST_ARRAY", type := .int, accessFlags := 25, slot := 1, constantValue := 0 }, { name := "OBJECT_HEADER", type := .int, accessFlags := 26, slot := 2, constantValue := 0 }, { name := "ARRAY_HEADER", type := .int, accessFlags := 26, slot := 3, constantValue := 0 }, { name := "ALIGNMENT", type := .int, accessFlags := 26, slot := 4, constantValue := 0 }, { name := "STRING", type := .long, accessFlags := 26, slot := 5, constantValue := 0 }, { name := "DIRECT_BUFFER_OBJECTS", type := .int, accessFlags := 26, slot := 6, constantValue := 0 }]
  methods := #[k4m0, k4m1]
  instanceTypes := #[]
  staticTypes := #[.int, .int, .int, .int, .int, .long, .int]
  resolved := Array.replicate 58 none
  statics := none }

def pool5 : Array CpInfo := pool [(1, u "java/lang/Cloneable"), (0, .class_ 1), (0, u "java/lang/Object"), (0, .class_ 3)] 3

/-- java/lang/Cloneable -/
def k5 : Class := { plain "java/lang/Cloneable" (some 0) with
  accessFlags := 1537
  interfaces := #[]
  cf := some (fileOf pool5 2 #[] #[] 1537 4 #[] #[])
  fields := #[]
  methods := #[]
  instanceTypes := #[]
  staticTypes := #[]
  resolved := Array.replicate 8 none
  statics := none }

def pool6 : Array CpInfo := pool [(1, u "java/io/Serializable"), (0, .class_ 1), (0, u "java/lang/Object"), (0, .class_ 3)] 3

/-- java/io/Serializable -/
def k6 : Class := { plain "java/io/Serializable" (some 0) with
  accessFlags := 1537
  interfaces := #[]
  cf := some (fileOf pool6 2 #[] #[] 1537 4 #[] #[])
  fields := #[]
  methods := #[]
  instanceTypes := #[]
  staticTypes := #[]
  resolved := Array.replicate 8 none
  statics := none }

/-- the primitive byte -/
def k7 : Class := { plain "byte" none with kind := .primitive 'B', accessFlags := 0x411 }
/-- [B -/
def k8 : Class := { plain "[B" (some 0) with kind := .array 7 .byte, interfaces := #[5, 6], accessFlags := 1041 }

/-- the primitive int -/
def k9 : Class := { plain "int" none with kind := .primitive 'I', accessFlags := 0x411 }
/-- [I -/
def k10 : Class := { plain "[I" (some 0) with kind := .array 9 .int, interfaces := #[5, 6], accessFlags := 1041 }

def heap : Heap := #[]
def classes : Array Class := #[k0, k1, k2, k3, k4, k5, k6, k7, k8, k9, k10]
def interned : List (Array UInt16 × Addr) := []
def slotsUsed : Nat := 0
def theMethod : MethodId := ⟨1, 2⟩
def args0 : Array Value := #[.long 1000, .long 10, .long 5, .long 7, .int 1]
def aboutOver (below : List Frame) : State where
  vm := { classes := classes, interned := interned.toArray }
  heap := heap
  slotsUsed := slotsUsed
  threads := #[{ frames := .invoking theMethod args0 :: below }]
def below0 : List Frame := [.native { method := ⟨0, 0⟩, args := #[] }]
def about1 : State := aboutOver below0
def p0 : Program := .bare "" "" ""
def e0 : Env := launch0.env 0 0 0
theorem w_frames : about1.frames = Frame.invoking theMethod args0 :: below0 := rfl
set_option maxRecDepth 65536 in
theorem w_args : argsFit about1.vm theMethod args0 = true := by decide +kernel
set_option maxRecDepth 65536 in
theorem w_heap : heapFits about1 = true := by decide +kernel
set_option maxRecDepth 65536 in
theorem w_runnable : about1.curStatus? = some .runnable := by decide +kernel
set_option maxRecDepth 65536 in
theorem w_alone : about1.alone = true := by decide +kernel
set_option maxRecDepth 65536 in
theorem w_named : about1.methodNamed? x = some theMethod := by decide +kernel
set_option maxRecDepth 65536 in
theorem w_hears : about1.hears theMethod below0 = true := by decide +kernel
set_option maxRecDepth 65536 in
theorem w_ripe : about1.ripe theMethod args0 below0 = true := by decide +kernel
theorem w_running : about1.status = .running := rfl
set_option maxRecDepth 65536 in
theorem w_room : about1.hasRoom e0.platform room_1 = true :=
  launch0.hasRoom_least _ room_1 (by decide +kernel) (by decide +kernel) (by decide +kernel) (by decide +kernel) (by decide +kernel) (by decide +kernel)
theorem allAtoms_all (ts : List Jvm.Cond) (a : Array Jvm.Value) (st : Jvm.State) : (allAtoms ts).before a st = ts.all (fun c => c.before a st) := by
  induction ts with
  | nil => rfl
  | cons c t ih =>
    show (Jvm.Cond.and c (allAtoms t)).before a st = _
    rw [Jvm.Cond.before_and, ih, List.all_cons]
def words1 : List Jvm.Cond := Jvm.Cond.code x code maxLocals ret :: tables_1
/-- a 'code' word, met by the world's own term for the bytes: nothing is compared byte by byte -/
theorem code_word {y : MethodName} {bytes : ByteArray} {mx : Nat} {rt : Option FieldType} {a : Array Value} {s : State} {m : MethodId} {meth : Method} {c : Code} (h1 : s.methodNamed? y = some m) (h2 : s.vm.method? m = some meth) (h3 : meth.code = some c) (h4 : c.code = bytes)
    (h5 : (c.maxLocals == mx && c.exceptionTable.isEmpty && decide (c.maxStack ≤ mostOperands) && decide (meth.sig.returnType = rt) && !meth.locks && decide (parseMethodDescriptor y.desc = some meth.sig)) = true) : (Jvm.Cond.code y bytes mx rt).before a s = true := by
  simp only [Bool.and_eq_true, beq_iff_eq, Bool.not_eq_true', decide_eq_true_eq] at h5
  obtain ⟨⟨⟨⟨⟨g1, g2⟩, g3⟩, g4⟩, g5⟩, g6⟩ := h5
  simp [Cond.before, Cond.holds, Cond.value, h1, h2, h3, h4, g1, g2, g3, g4, g5, g6]
def isCode : Jvm.Cond → Bool
  | .code _ _ _ _ => true
  | _ => false
theorem all_split {L : List Jvm.Cond} {P : Jvm.Cond → Bool} (h1 : L.all (fun c => isCode c || P c) = true) (h2 : ∀ c ∈ L.filter isCode, P c = true) : L.all P = true := by
  refine List.all_eq_true.mpr fun c hc => ?_
  have h := List.all_eq_true.mp h1 c hc
  rcases Bool.eq_false_or_eq_true (isCode c) with hi | hi
  · exact h2 c (List.mem_filter.mpr ⟨hc, hi⟩)
  · simpa [hi] using h
set_option maxRecDepth 65536 in
theorem w_c0 : (Jvm.Cond.code x code maxLocals ret).before args0 about1 = true := code_word (m := ⟨1, 2⟩) (meth := k1m2) (c := k1c2) (by decide +kernel) rfl rfl rfl (by decide +kernel)
set_option maxRecDepth 65536 in
theorem w_c1 : (Jvm.Cond.code ({ cls := "java/lang/Math", name := "max", desc := "(JJ)J" } : Jvm.MethodName) jdk_29_method_66_code (4 : Nat) (Option.some Jvm.ClassFile.FieldType.long)).before args0 about1 = true := code_word (m := ⟨2, 1⟩) (meth := k2m1) (c := k2c1) (by decide +kernel) rfl rfl rfl (by decide +kernel)
set_option maxRecDepth 65536 in
theorem w_c2 : (Jvm.Cond.code ({ cls := "com/example/tidejoin/tidejoin/budget/MemoryBudget", name := "<init>", desc := "(J)V" } : Jvm.MethodName) prog_8_method_1_code (3 : Nat) (Option.none : Option Jvm.ClassFile.FieldType)).before args0 about1 = true := code_word (m := ⟨3, 0⟩) (meth := k3m0) (c := k3c0) (by decide +kernel) rfl rfl rfl (by decide +kernel)
set_option maxRecDepth 65536 in
theorem w_c3 : (Jvm.Cond.code ({ cls := "com/example/tidejoin/tidejoin/budget/MemoryBudget", name := "<init>", desc := "(JLcom/example/tidejoin/tidejoin/budget/JvmMemory;)V" } : Jvm.MethodName) prog_8_method_2_code (4 : Nat) (Option.none : Option Jvm.ClassFile.FieldType)).before args0 about1 = true := code_word (m := ⟨3, 1⟩) (meth := k3m1) (c := k3c1) (by decide +kernel) rfl rfl rfl (by decide +kernel)
set_option maxRecDepth 65536 in
theorem w_c4 : (Jvm.Cond.code ({ cls := "java/lang/Object", name := "<init>", desc := "()V" } : Jvm.MethodName) object_method_1_code (1 : Nat) (Option.none : Option Jvm.ClassFile.FieldType)).before args0 about1 = true := code_word (m := ⟨0, 0⟩) (meth := k0m0) (c := k0c0) (by decide +kernel) rfl rfl rfl (by decide +kernel)
set_option maxRecDepth 65536 in
theorem w_c5 : (Jvm.Cond.code ({ cls := "com/example/tidejoin/tidejoin/budget/MemoryBudgetLimitPinLaw", name := "same", desc := "(Lcom/example/tidejoin/tidejoin/budget/MemoryBudget;J)Z" } : Jvm.MethodName) method_2_code (3 : Nat) (Option.some Jvm.ClassFile.FieldType.boolean)).before args0 about1 = true := code_word (m := ⟨1, 1⟩) (meth := k1m1) (c := k1c1) (by decide +kernel) rfl rfl rfl (by decide +kernel)
set_option maxRecDepth 65536 in
theorem w_c6 : (Jvm.Cond.code ({ cls := "com/example/tidejoin/tidejoin/budget/MemoryBudget", name := "limit", desc := "()J" } : Jvm.MethodName) prog_8_method_4_code (1 : Nat) (Option.some Jvm.ClassFile.FieldType.long)).before args0 about1 = true := code_word (m := ⟨3, 2⟩) (meth := k3m2) (c := k3c2) (by decide +kernel) rfl rfl rfl (by decide +kernel)
set_option maxRecDepth 65536 in
theorem w_c7 : (Jvm.Cond.code ({ cls := "com/example/tidejoin/tidejoin/budget/MemoryBudget", name := "given", desc := "()J" } : Jvm.MethodName) prog_8_method_5_code (1 : Nat) (Option.some Jvm.ClassFile.FieldType.long)).before args0 about1 = true := code_word (m := ⟨3, 3⟩) (meth := k3m3) (c := k3c3) (by decide +kernel) rfl rfl rfl (by decide +kernel)
set_option maxRecDepth 65536 in
theorem w_c8 : (Jvm.Cond.code ({ cls := "com/example/tidejoin/tidejoin/budget/MemoryBudget", name := "used", desc := "()J" } : Jvm.MethodName) prog_8_method_6_code (1 : Nat) (Option.some Jvm.ClassFile.FieldType.long)).before args0 about1 = true := code_word (m := ⟨3, 4⟩) (meth := k3m4) (c := k3c4) (by decide +kernel) rfl rfl rfl (by decide +kernel)
set_option maxRecDepth 65536 in
theorem w_c9 : (Jvm.Cond.code ({ cls := "com/example/tidejoin/tidejoin/budget/MemoryBudget", name := "tryReserve", desc := "(J)Z" } : Jvm.MethodName) prog_8_method_21_code (3 : Nat) (Option.some Jvm.ClassFile.FieldType.boolean)).before args0 about1 = true := code_word (m := ⟨3, 8⟩) (meth := k3m8) (c := k3c8) (by decide +kernel) rfl rfl rfl (by decide +kernel)
set_option maxRecDepth 65536 in
theorem w_c10 : (Jvm.Cond.code ({ cls := "com/example/tidejoin/tidejoin/budget/MemoryBudget", name := "checkReservation", desc := "(J)V" } : Jvm.MethodName) prog_8_method_23_code (2 : Nat) (Option.none : Option Jvm.ClassFile.FieldType)).before args0 about1 = true := code_word (m := ⟨3, 10⟩) (meth := k3m10) (c := k3c10) (by decide +kernel) rfl rfl rfl (by decide +kernel)
set_option maxRecDepth 65536 in
theorem w_c11 : (Jvm.Cond.code ({ cls := "com/example/tidejoin/tidejoin/budget/MemoryBudget", name := "tryReserve", desc := "(JJ)Z" } : Jvm.MethodName) prog_8_method_22_code (5 : Nat) (Option.some Jvm.ClassFile.FieldType.boolean)).before args0 about1 = true := code_word (m := ⟨3, 9⟩) (meth := k3m9) (c := k3c9) (by decide +kernel) rfl rfl rfl (by decide +kernel)
set_option maxRecDepth 65536 in
theorem w_c12 : (Jvm.Cond.code ({ cls := "com/example/tidejoin/tidejoin/budget/MemoryBudget", name := "fits", desc := "(JJ)Z" } : Jvm.MethodName) prog_8_method_10_code (5 : Nat) (Option.some Jvm.ClassFile.FieldType.boolean)).before args0 about1 = true := code_word (m := ⟨3, 5⟩) (meth := k3m5) (c := k3c5) (by decide +kernel) rfl rfl rfl (by decide +kernel)
set_option maxRecDepth 65536 in
theorem w_c13 : (Jvm.Cond.code ({ cls := "com/example/tidejoin/tidejoin/budget/MemoryBudget", name := "made", desc := "()J" } : Jvm.MethodName) prog_8_method_25_code (1 : Nat) (Option.some Jvm.ClassFile.FieldType.long)).before args0 about1 = true := code_word (m := ⟨3, 11⟩) (meth := k3m11) (c := k3c11) (by decide +kernel) rfl rfl rfl (by decide +kernel)
set_option maxRecDepth 65536 in
theorem w_c14 : (Jvm.Cond.code ({ cls := "java/lang/Math", name := "min", desc := "(JJ)J" } : Jvm.MethodName) jdk_29_method_70_code (4 : Nat) (Option.some Jvm.ClassFile.FieldType.long)).before args0 about1 = true := code_word (m := ⟨2, 2⟩) (meth := k2m2) (c := k2c2) (by decide +kernel) rfl rfl rfl (by decide +kernel)
set_option maxRecDepth 65536 in
theorem w_c15 : (Jvm.Cond.code ({ cls := "com/example/tidejoin/tidejoin/budget/MemoryBudget", name := "markUnmade", desc := "(J)V" } : Jvm.MethodName) prog_8_method_29_code (3 : Nat) (Option.none : Option Jvm.ClassFile.FieldType)).before args0 about1 = true := code_word (m := ⟨3, 12⟩) (meth := k3m12) (c := k3c12) (by decide +kernel) rfl rfl rfl (by decide +kernel)
set_option maxRecDepth 65536 in
theorem w_c16 : (Jvm.Cond.code ({ cls := "com/example/tidejoin/tidejoin/budget/MemoryBudget", name := "reserveDirectBuffer", desc := "(J)V" } : Jvm.MethodName) prog_8_method_14_code (3 : Nat) (Option.none : Option Jvm.ClassFile.FieldType)).before args0 about1 = true := code_word (m := ⟨3, 6⟩) (meth := k3m6) (c := k3c6) (by decide +kernel) rfl rfl rfl (by decide +kernel)
set_option maxRecDepth 65536 in
theorem w_c17 : (Jvm.Cond.code ({ cls := "com/example/tidejoin/tidejoin/budget/Footprint", name := "directBuffer", desc := "(J)J" } : Jvm.MethodName) prog_5_method_5_code (2 : Nat) (Option.some Jvm.ClassFile.FieldType.long)).before args0 about1 = true := code_word (m := ⟨4, 1⟩) (meth := k4m1) (c := k4c1) (by decide +kernel) rfl rfl rfl (by decide +kernel)
def codes1 : List Jvm.Cond := [Jvm.Cond.code x code maxLocals ret, Jvm.Cond.code ({ cls := "java/lang/Math", name := "max", desc := "(JJ)J" } : Jvm.MethodName) jdk_29_method_66_code (4 : Nat) (Option.some Jvm.ClassFile.FieldType.long), Jvm.Cond.code ({ cls := "com/example/tidejoin/tidejoin/budget/MemoryBudget", name := "<init>", desc := "(J)V" } : Jvm.MethodName) prog_8_method_1_code (3 : Nat) (Option.none : Option Jvm.ClassFile.FieldType), Jvm.Cond.code ({ cls := "com/example/tidejoin/tidejoin/budget/MemoryBudget", name := "<init>", desc := "(JLcom/example/tidejoin/tidejoin/budget/JvmMemory;)V" } : Jvm.MethodName) prog_8_method_2_code (4 : Nat) (Option.none : Option Jvm.ClassFile.FieldType), Jvm.Cond.code ({ cls := "java/lang/Object", name := "<init>", desc := "()V" } : Jvm.MethodName) object_method_1_code (1 : Nat) (Option.none : Option Jvm.ClassFile.FieldType), Jvm.Cond.code ({ cls := "com/example/tidejoin/tidejoin/budget/MemoryBudgetLimitPinLaw", name := "same", desc := "(Lcom/example/tidejoin/tidejoin/budget/MemoryBudget;J)Z" } : Jvm.MethodName) method_2_code (3 : Nat) (Option.some Jvm.ClassFile.FieldType.boolean), Jvm.Cond.code ({ cls := "com/example/tidejoin/tidejoin/budget/MemoryBudget", name := "limit", desc := "()J" } : Jvm.MethodName) prog_8_method_4_code (1 : Nat) (Option.some Jvm.ClassFile.FieldType.long), Jvm.Cond.code ({ cls := "com/example/tidejoin/tidejoin/budget/MemoryBudget", name := "given", desc := "()J" } : Jvm.MethodName) prog_8_method_5_code (1 : Nat) (Option.some Jvm.ClassFile.FieldType.long), Jvm.Cond.code ({ cls := "com/example/tidejoin/tidejoin/budget/MemoryBudget", name := "used", desc := "()J" } : Jvm.MethodName) prog_8_method_6_code (1 : Nat) (Option.some Jvm.ClassFile.FieldType.long), Jvm.Cond.code ({ cls := "com/example/tidejoin/tidejoin/budget/MemoryBudget", name := "tryReserve", desc := "(J)Z" } : Jvm.MethodName) prog_8_method_21_code (3 : Nat) (Option.some Jvm.ClassFile.FieldType.boolean), Jvm.Cond.code ({ cls := "com/example/tidejoin/tidejoin/budget/MemoryBudget", name := "checkReservation", desc := "(J)V" } : Jvm.MethodName) prog_8_method_23_code (2 : Nat) (Option.none : Option Jvm.ClassFile.FieldType), Jvm.Cond.code ({ cls := "com/example/tidejoin/tidejoin/budget/MemoryBudget", name := "tryReserve", desc := "(JJ)Z" } : Jvm.MethodName) prog_8_method_22_code (5 : Nat) (Option.some Jvm.ClassFile.FieldType.boolean), Jvm.Cond.code ({ cls := "com/example/tidejoin/tidejoin/budget/MemoryBudget", name := "fits", desc := "(JJ)Z" } : Jvm.MethodName) prog_8_method_10_code (5 : Nat) (Option.some Jvm.ClassFile.FieldType.boolean), Jvm.Cond.code ({ cls := "com/example/tidejoin/tidejoin/budget/MemoryBudget", name := "made", desc := "()J" } : Jvm.MethodName) prog_8_method_25_code (1 : Nat) (Option.some Jvm.ClassFile.FieldType.long), Jvm.Cond.code ({ cls := "java/lang/Math", name := "min", desc := "(JJ)J" } : Jvm.MethodName) jdk_29_method_70_code (4 : Nat) (Option.some Jvm.ClassFile.FieldType.long), Jvm.Cond.code ({ cls := "com/example/tidejoin/tidejoin/budget/MemoryBudget", name := "markUnmade", desc := "(J)V" } : Jvm.MethodName) prog_8_method_29_code (3 : Nat) (Option.none : Option Jvm.ClassFile.FieldType), Jvm.Cond.code ({ cls := "com/example/tidejoin/tidejoin/budget/MemoryBudget", name := "reserveDirectBuffer", desc := "(J)V" } : Jvm.MethodName) prog_8_method_14_code (3 : Nat) (Option.none : Option Jvm.ClassFile.FieldType), Jvm.Cond.code ({ cls := "com/example/tidejoin/tidejoin/budget/Footprint", name := "directBuffer", desc := "(J)J" } : Jvm.MethodName) prog_5_method_5_code (2 : Nat) (Option.some Jvm.ClassFile.FieldType.long)]
set_option maxRecDepth 65536 in
theorem codes_eq : words1.filter isCode = codes1 := rfl
theorem w_codes : ∀ c ∈ words1.filter isCode, c.before args0 about1 = true := by
  rw [codes_eq]
  intro c hc
  simp only [codes1, List.mem_cons, List.not_mem_nil, or_false] at hc
  rcases hc with rfl | rfl | rfl | rfl | rfl | rfl | rfl | rfl | rfl | rfl | rfl | rfl | rfl | rfl | rfl | rfl | rfl | rfl
  · exact w_c0
  · exact w_c1
  · exact w_c2
  · exact w_c3
  · exact w_c4
  · exact w_c5
  · exact w_c6
  · exact w_c7
  · exact w_c8
  · exact w_c9
  · exact w_c10
  · exact w_c11
  · exact w_c12
  · exact w_c13
  · exact w_c14
  · exact w_c15
  · exact w_c16
  · exact w_c17
set_option maxRecDepth 65536 in
theorem w_t1 : (words1.take 24).all (fun c => isCode c || c.before args0 about1) = true := by decide +kernel
set_option maxRecDepth 65536 in
theorem w_t2 : ((words1.drop 24).take 24).all (fun c => isCode c || c.before args0 about1) = true := by decide +kernel
set_option maxRecDepth 65536 in
theorem w_t3 : (((words1.drop 24).drop 24).take 24).all (fun c => isCode c || c.before args0 about1) = true := by decide +kernel
set_option maxRecDepth 65536 in
theorem w_t4 : ((((words1.drop 24).drop 24).drop 24).take 24).all (fun c => isCode c || c.before args0 about1) = true := by decide +kernel
set_option maxRecDepth 65536 in
theorem w_t5 : ((((words1.drop 24).drop 24).drop 24).drop 24).all (fun c => isCode c || c.before args0 about1) = true := by decide +kernel
theorem w_tables : (allAtoms (Jvm.Cond.code x code maxLocals ret :: tables_1)).before args0 about1 = true := by
  rw [allAtoms_all]
  show words1.all (fun c => c.before args0 about1) = true
  refine all_split ?_ w_codes
  rw [← List.take_append_drop 24 words1, List.all_append, w_t1, ← List.take_append_drop 24 (words1.drop 24), List.all_append, w_t2, ← List.take_append_drop 24 ((words1.drop 24).drop 24), List.all_append, w_t3, ← List.take_append_drop 24 (((words1.drop 24).drop 24).drop 24), List.all_append, w_t4, w_t5]
  rfl
set_option maxRecDepth 65536 in
theorem w_case : (Jvm.Cond.and given_1 narrow_1).before args0 about1 = true := by decide +kernel
theorem w_applies : (headSpec (Jvm.Cond.code x code maxLocals ret :: tables_1) room_1).applies x e0.platform about1 = true :=
  (Spec.applies_iff w_frames).mpr ⟨w_running, w_runnable, w_alone, w_named, w_hears, w_ripe, w_room, w_tables⟩
theorem atStart : AtStart classFile x code maxLocals ret World_1 tables_1 room_1 Calls_1 rest_1 Pre_1 launch0 p0 e0 about1 theMethod args0 below0 :=
  ⟨lists_1, trivial, launch0.admits_env _ _ _, launch0.least_env, fairChoices_fair.cas, fairChoices_fair.clock, w_frames, w_args, w_heap, w_applies, trivial, trivial, w_case⟩
end start1
theorem witness_1 : WitnessClaimed_1 := ⟨start1.p0, start1.e0, start1.about1, start1.theMethod, start1.args0, start1.below0, start1.atStart⟩
end Jvm.Pilot.@@N@@
