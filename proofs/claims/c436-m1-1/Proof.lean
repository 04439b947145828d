import JvmDerived
import JvmDerived.Pilot.@@N@@Statement
import JvmDerived.Pilot.@@N@@Code
set_option linter.unusedVariables false
set_option linter.unusedSimpArgs false
namespace Jvm.Pilot.@@N@@
open Jvm Jvm.ClassFile Sem Op Lib Jvm.Free Jvm.Stand Jvm.LawKit Jvm.RoadKit Bundle Jvm.Pilot.@@N@@.Jvm.D
def own_G (p : Program) (e : Env) (below : List Frame) (C : State → Outcome → Prop) (A : State) : Prop := ∃ (t : State) (o : Outcome), Steps p.tables e below A t ∧ C t o
theorem own_st {p : Program} {e : Env} {below : List Frame} {C : State → Outcome → Prop} {A B : State} (k : ∀ t, Steps p.tables e below B t → Steps p.tables e below A t) (h : own_G p e below C B) : own_G p e below C A := by
  obtain ⟨t, o, h1, h2⟩ := h
  exact ⟨t, o, k t h1, h2⟩
abbrev own_b (c : Bool) : Int32 := bif c then 1 else 0
theorem own_nb (c : Bool) : narrow .boolean (.int (own_b c)) = .int (own_b c) := by cases c <;> rfl
theorem own_b_ne {c : Bool} : (own_b c = 0) ↔ c = false := by cases c <;> decide
def own_bad (b : Int32) : Bool := decide (b - 48 < 0) || decide (9 < b - 48)
def own_fin (fr to acc : Int32) : Int32 := if fr < to then acc else -1
def own_f4 (fr to acc : Int32) : Int32 := own_fin fr to acc
def own_f3 (b3 fr to acc : Int32) : Int32 := if 3 < to then (bif own_bad b3 then -1 else own_f4 fr to (acc * 10 + (b3 - 48))) else own_fin fr to acc
def own_f2 (b2 b3 fr to acc : Int32) : Int32 := if 2 < to then (bif own_bad b2 then -1 else own_f3 b3 fr to (acc * 10 + (b2 - 48))) else own_fin fr to acc
def own_f1 (b1 b2 b3 fr to acc : Int32) : Int32 := if 1 < to then (bif own_bad b1 then -1 else own_f2 b2 b3 fr to (acc * 10 + (b1 - 48))) else own_fin fr to acc
def own_f0 (b0 b1 b2 b3 fr to acc : Int32) : Int32 := if 0 < to then (bif own_bad b0 then -1 else own_f1 b1 b2 b3 fr to (acc * 10 + (b0 - 48))) else own_fin fr to acc
def own_D (b0 b1 b2 b3 fr to : Int32) : Int32 := if fr = 0 then own_f0 b0 b1 b2 b3 fr to 0 else if fr = 1 then own_f1 b1 b2 b3 fr to 0 else if fr = 2 then own_f2 b2 b3 fr to 0 else if fr = 3 then own_f3 b3 fr to 0 else own_f4 fr to 0
def own_dig (b : Int32) : Int32 := if b < 48 then -1 else if 57 < b then -1 else b - 48
def own_ba (i fr to d : Int32) : Bool := !decide (i < fr) && decide (i < to) && decide (d < 0)
def own_p10 (k : Int32) : Int32 := if k = 0 then 1 else if k = 1 then 10 else if k = 2 then 100 else 1000
def own_term (i fr to d : Int32) : Int32 := if i < fr then 0 else if i < to then d * own_p10 (to - 1 - i) else 0
def own_in (x : Int32) : Prop := x = 0 ∨ x = 1 ∨ x = 2 ∨ x = 3 ∨ x = 4
theorem own_dig_bad (b : Int32) : decide (own_dig b < 0) = own_bad b := by
  have e48 : (48 : Int32).toInt = 48 := by decide
  have e57 : (57 : Int32).toInt = 57 := by decide
  have e9 : (9 : Int32).toInt = 9 := by decide
  have e0 : (0 : Int32).toInt = 0 := by decide
  have em : (-1 : Int32).toInt = -1 := by decide
  have h1 := b.toInt_lt; have h2 := b.le_toInt
  have hs : (b - 48).toInt = if b.toInt < -2147483600 then b.toInt - 48 + 4294967296 else b.toInt - 48 := by
    rw [Int32.toInt_sub, e48]
    split
    · rw [Int.bmod_def]; split <;> omega
    · rw [Int.bmod_eq_of_le] <;> omega
  rw [Bool.eq_iff_iff]
  simp only [own_bad, Bool.or_eq_true, decide_eq_true_eq, Int32.lt_iff_toInt_lt, own_dig]
  split
  · rename_i h; rw [e48] at h; rw [em, e0, e9, hs]; split <;> omega
  · split
    · rename_i h h'; rw [e48] at h; rw [e57] at h'; rw [em, e0, e9, hs]; split <;> omega
    · rename_i h h'; rw [e48] at h; rw [e57] at h'; rw [e0, e9, hs]; split <;> omega
theorem own_dig_ok (b : Int32) (h : own_bad b = false) : own_dig b = b - 48 := by
  rw [← own_dig_bad] at h
  unfold own_dig at h ⊢
  split at h
  · exact absurd h (by decide)
  · split at h
    · exact absurd h (by decide)
    · rename_i h1 h2; rw [if_neg h1, if_neg h2]
def own_B (b0 b1 b2 b3 fr to : Int32) : Bool := own_ba 0 fr to (own_dig b0) || own_ba 1 fr to (own_dig b1) || own_ba 2 fr to (own_dig b2) || own_ba 3 fr to (own_dig b3)
theorem own_neg (b0 b1 b2 b3 fr to : Int32) (hf : own_in fr) (ht : own_in to) (h : ¬ fr < to ∨ own_B b0 b1 b2 b3 fr to = true) : own_D b0 b1 b2 b3 fr to = -1 := by
  simp only [own_B, own_ba, own_dig_bad] at h
  rcases hf with rfl | rfl | rfl | rfl | rfl <;> rcases ht with rfl | rfl | rfl | rfl | rfl <;>
  simp [own_D, own_f0, own_f1, own_f2, own_f3, own_f4, own_fin] at h ⊢ <;>
  (cases h0 : own_bad b0 <;> cases h1 : own_bad b1 <;> cases h2 : own_bad b2 <;> cases h3 : own_bad b3 <;> simp_all)

theorem own_ring2 (a b : Int32) : (0 * 10 + a) * 10 + b = a * 10 + b * 1 := by grind
theorem own_ring3 (a b c : Int32) : ((0 * 10 + a) * 10 + b) * 10 + c = a * 100 + b * 10 + c * 1 := by grind
theorem own_ring4 (a b c d : Int32) : (((0 * 10 + a) * 10 + b) * 10 + c) * 10 + d = a * 1000 + b * 100 + c * 10 + d * 1 := by grind
theorem own_pos (b0 b1 b2 b3 fr to : Int32) (hf : own_in fr) (ht : own_in to) (h : fr < to) (hb : own_B b0 b1 b2 b3 fr to = false) : own_D b0 b1 b2 b3 fr to = own_term 0 fr to (own_dig b0) + own_term 1 fr to (own_dig b1) + own_term 2 fr to (own_dig b2) + own_term 3 fr to (own_dig b3) := by
  simp only [own_B, own_ba, own_dig_bad] at hb
  have k0 := own_dig_ok b0; have k1 := own_dig_ok b1; have k2 := own_dig_ok b2; have k3 := own_dig_ok b3
  rcases hf with rfl | rfl | rfl | rfl | rfl <;> rcases ht with rfl | rfl | rfl | rfl | rfl <;>
  first
  | exact absurd h (by decide)
  | (simp [own_D, own_f0, own_f1, own_f2, own_f3, own_f4, own_fin, own_term, own_p10] at hb ⊢; simp_all; try grind)
theorem own_mask31 (q : Int32) : 0 ≤ (q &&& (2147483647 : Int32)).toInt := by
  have h : (q &&& (2147483647 : Int32)).toBitVec = q.toBitVec &&& 2147483647#32 := by rw [Int32.toBitVec_and]; rfl
  have e : (q &&& (2147483647 : Int32)).toInt = (q &&& (2147483647 : Int32)).toBitVec.toInt := rfl
  rw [e, h, BitVec.toInt_eq_toNat_cond]
  have h2 : (q.toBitVec &&& 2147483647#32).toNat ≤ 2147483647 := by
    rw [BitVec.toNat_and]; exact Nat.le_trans Nat.and_le_right (by decide)
  split <;> omega
theorem own_mod5 (q : Int32) : own_in ((q &&& (2147483647 : Int32)) % (5 : Int32)) := by
  have h0 := own_mask31 q
  have e : ((q &&& (2147483647 : Int32)) % (5 : Int32)).toInt = (q &&& (2147483647 : Int32)).toInt % 5 := by
    rw [Int32.toInt_mod, show (5 : Int32).toInt = 5 from by decide, Int.tmod_eq_emod_of_nonneg h0]
  generalize (q &&& (2147483647 : Int32)).toInt = z at *
  generalize ((q &&& (2147483647 : Int32)) % (5 : Int32)) = y at *
  have hz : z % 5 = 0 ∨ z % 5 = 1 ∨ z % 5 = 2 ∨ z % 5 = 3 ∨ z % 5 = 4 := by omega
  unfold own_in
  rcases hz with h | h | h | h | h <;> rw [h] at e
  · left; exact Int32.toInt_inj.mp (e.trans (by decide))
  · right; left; exact Int32.toInt_inj.mp (e.trans (by decide))
  · right; right; left; exact Int32.toInt_inj.mp (e.trans (by decide))
  · right; right; right; left; exact Int32.toInt_inj.mp (e.trans (by decide))
  · right; right; right; right; exact Int32.toInt_inj.mp (e.trans (by decide))
def own_draw (p : Int32) : Int32 := if p &&& 256 = 0 then p.toInt8.toInt32 else (48 + (p &&& 255) % 10).toInt8.toInt32
theorem own_i8 (x : Int32) : x.toInt8.toInt32.toInt8.toInt32 = x.toInt8.toInt32 := by
  rw [Int8.toInt8_toInt32]
theorem own_nbyte (x : Int32) : narrow .byte (.int x.toInt8.toInt32) = .int x.toInt8.toInt32 := congrArg Value.int (own_i8 x)
theorem d1_0 : decode method_2_code 0 = .ok (.iload_n 0, 1) := by decide +kernel
theorem d1_1 : decode method_2_code 1 = .ok (.sipush 256, 3) := by decide +kernel
theorem d1_4 : decode method_2_code 4 = .ok (.iand, 1) := by decide +kernel
theorem d1_5 : decode method_2_code 5 = .ok (.ifCond .eq 16, 3) := by decide +kernel
theorem d1_8 : decode method_2_code 8 = .ok (.bipush 48, 2) := by decide +kernel
theorem d1_10 : decode method_2_code 10 = .ok (.iload_n 0, 1) := by decide +kernel
theorem d1_11 : decode method_2_code 11 = .ok (.sipush 255, 3) := by decide +kernel
theorem d1_14 : decode method_2_code 14 = .ok (.iand, 1) := by decide +kernel
theorem d1_15 : decode method_2_code 15 = .ok (.bipush 10, 2) := by decide +kernel
theorem d1_17 : decode method_2_code 17 = .ok (.irem, 1) := by decide +kernel
theorem d1_18 : decode method_2_code 18 = .ok (.iadd, 1) := by decide +kernel
theorem d1_19 : decode method_2_code 19 = .ok (.i2b, 1) := by decide +kernel
theorem d1_20 : decode method_2_code 20 = .ok (.ireturn, 1) := by decide +kernel
theorem d1_21 : decode method_2_code 21 = .ok (.iload_n 0, 1) := by decide +kernel
theorem d1_22 : decode method_2_code 22 = .ok (.i2b, 1) := by decide +kernel
theorem d1_23 : decode method_2_code 23 = .ok (.ireturn, 1) := by decide +kernel
theorem pn_1 : plainName "com/example/hour_ending/hourending/prices/PriceLayoutDigitsPinLaw" = true := by first | (simp [plainName, overriddenIn]; done) | decide +kernel
theorem ef_1 (m : MethodId) (x0 : Int32) : entryFrame m #[(.int x0)] 1 = mkF m 0 #[.val (.int x0)] [] := by first | (simp [entryFrame, mkF, argsToLocals, Value.category]; done) | rfl
def Q1 (Z : State) (p0 : Int32) (h0 : Heap) (n0 : Nat) (v : Option Value) (h : Heap) (L : List Loc) : Prop := v = some (.int (own_draw p0)) ∧ Fr n0 L ∧ h = h0
set_option maxRecDepth 65536 in
set_option maxHeartbeats 40000000 in
theorem rm1 (l : Launch) (Z : State) (a0 : Array Value) (hw : ∀ d ∈ tables_1, d.before a0 Z = true) (ws : List Jvm.Cond) (p0 : Int32) (h0 : Heap) (n0 : Nat) (Z0 : n0 ≤ h0.size) :
    MetFree l (⟨"com/example/hour_ending/hourending/prices/PriceLayoutDigitsPinLaw", "draw", "(I)B"⟩ : MethodName) (head1 (Jvm.Cond.code (⟨"com/example/hour_ending/hourending/prices/PriceLayoutDigitsPinLaw", "draw", "(I)B"⟩ : MethodName) method_2_code 1 (some .byte) :: ws) ({ frames := 0, cells := 0, slots := 0, locals := 0 } : Room)) (fun a U => a = #[(.int p0)] ∧ Z.Warmed39 U.vm ∧ U.heap = h0) (fun _ _ _ _ _ => True) (fun _ U o U' => ∃ v L, o = .returned v ∧ Q1 Z p0 h0 n0 v U'.heap L ∧ FrameEnd U o U' L ({ frames := 0, cells := 0, slots := 0, locals := 0 } : Room).cells ({ frames := 0, cells := 0, slots := 0, locals := 0 } : Room).slots) := by
  refine MetFree.of_bodySF (plainFor_of_name pn_1) hisR ?_
  intro p e s m args below meth c s₁ Bd hml0 hP hK
  obtain ⟨rfl, hZ, hh⟩ := hP
  have hx := Bd.exec
  have hby := Bd.bytes
  have hml : c.maxLocals = 1 := hml0
  have hown : s.vm.findClass "com/example/hour_ending/hourending/prices/PriceLayoutDigitsPinLaw" = some m.cls := findClass_of_methodNamed Bd.named
  have hnm := (name_of_methodNamed Bd.named Bd.method).1
  have X0 : Stand p l e ({ frames := 0, cells := 0, slots := 0, locals := 0 } : Room) s m #[(.int p0)] below meth c s₁ [] 0 0 := Stand.of_body Bd
  have e0 : s₁.heap = h0 := by rw [← hh, Bd.state]; rfl
  have N0 := Fr.nil n0
  show own_G p e below (fun (t : State) (o : Outcome) => t.status = .running ∧ Ended t below o ∧ ∃ v L, o = .returned v ∧ Q1 Z p0 h0 n0 v t.heap L ∧ FrameEnd s o t L ({ frames := 0, cells := 0, slots := 0, locals := 0 } : Room).cells ({ frames := 0, cells := 0, slots := 0, locals := 0 } : Room).slots) (s₁.setTop (entryFrame m #[(.int p0)] 1))
  rw [ef_1 m p0]
  refine own_st (B := s₁.setTop (mkF m 5 #[.val (.int p0)] [(.int (p0 &&& (256 : Int32)))])) (fun t k => ?_) ?_
  · show Steps p.tables e below (s₁.setTop (mkF m 0 #[.val (.int p0)] [])) _
    refine XS.iloadN X0.here hx rfl (hb hby d1_0) rfl ?_
    show Steps p.tables e below (s₁.setTop (mkF m 1 #[.val (.int p0)] [(.int p0)])) _
    refine XS.sipush X0.here hx rfl (hb hby d1_1) ?_
    show Steps p.tables e below (s₁.setTop (mkF m 4 #[.val (.int p0)] [(.int (256 : Int32)), (.int p0)])) _
    refine XS.iand X0.here hx rfl (hb hby d1_4) rfl ?_
    exact k
  by_cases h5 : (p0 &&& (256 : Int32)) = (0 : Int32)
  · refine own_st (B := s₁.setTop (mkF m 23 #[.val (.int p0)] [(.int (p0.toInt8.toInt32))])) (fun t k => ?_) ?_
    · show Steps p.tables e below (s₁.setTop (mkF m 5 #[.val (.int p0)] [(.int (p0 &&& (256 : Int32)))])) _
      refine XS.ifYes X0.here hx rfl (pc0 := 5) (pc' := 21) rfl (hb hby d1_5) rfl ((if0 _ _).trans (teq h5).1) (by decide) (by decide) ?_
      show Steps p.tables e below (s₁.setTop (mkF m 21 #[.val (.int p0)] [])) _
      refine XS.iloadN X0.here hx rfl (hb hby d1_21) rfl ?_
      show Steps p.tables e below (s₁.setTop (mkF m 22 #[.val (.int p0)] [(.int p0)])) _
      refine XS.i2b X0.here hx rfl (hb hby d1_22) rfl ?_
      exact k
    obtain ⟨fs, hr, hrun, hended, hW, hsame⟩ := X0.leave (v := some (.int (p0.toInt8.toInt32))) (fun h => by rw [Bd.returns] at h; cases h)
    refine ⟨_, _, ?_, hrun, hended, _, _, rfl, ?_, ⟨_, rfl⟩, hW, hsame.mono (by decide) (by decide)⟩
    · exact retOut X0 hx Bd.returns (own_nbyte _) (Or.inl ⟨rfl, by simp, _, rfl⟩) (hb hby d1_23) hr
    · show Q1 Z p0 h0 n0 _ s₁.heap _
      rw [e0]
      exact ⟨by rw [own_draw, if_pos h5], N0, rfl⟩
  · refine own_st (B := s₁.setTop (mkF m 20 #[.val (.int p0)] [(.int (((48 : Int32) + ((p0 &&& (255 : Int32)) % (10 : Int32))).toInt8.toInt32))])) (fun t k => ?_) ?_
    · show Steps p.tables e below (s₁.setTop (mkF m 5 #[.val (.int p0)] [(.int (p0 &&& (256 : Int32)))])) _
      refine XS.ifNo X0.here hx rfl (hb hby d1_5) rfl ((if0 _ _).trans (feq h5).1) ?_
      show Steps p.tables e below (s₁.setTop (mkF m 8 #[.val (.int p0)] [])) _
      refine XS.bipush X0.here hx rfl (hb hby d1_8) ?_
      show Steps p.tables e below (s₁.setTop (mkF m 10 #[.val (.int p0)] [(.int (48 : Int32))])) _
      refine XS.iloadN X0.here hx rfl (hb hby d1_10) rfl ?_
      show Steps p.tables e below (s₁.setTop (mkF m 11 #[.val (.int p0)] [(.int p0), (.int (48 : Int32))])) _
      refine XS.sipush X0.here hx rfl (hb hby d1_11) ?_
      show Steps p.tables e below (s₁.setTop (mkF m 14 #[.val (.int p0)] [(.int (255 : Int32)), (.int p0), (.int (48 : Int32))])) _
      refine XS.iand X0.here hx rfl (hb hby d1_14) rfl ?_
      show Steps p.tables e below (s₁.setTop (mkF m 15 #[.val (.int p0)] [(.int (p0 &&& (255 : Int32))), (.int (48 : Int32))])) _
      refine XS.bipush X0.here hx rfl (hb hby d1_15) ?_
      show Steps p.tables e below (s₁.setTop (mkF m 17 #[.val (.int p0)] [(.int (10 : Int32)), (.int (p0 &&& (255 : Int32))), (.int (48 : Int32))])) _
      refine iremM X0 hx rfl (hb hby d1_17) rfl (by decide) ?_
      show Steps p.tables e below (s₁.setTop (mkF m 18 #[.val (.int p0)] [(.int ((p0 &&& (255 : Int32)) % (10 : Int32))), (.int (48 : Int32))])) _
      refine XS.iadd X0.here hx rfl (hb hby d1_18) rfl ?_
      show Steps p.tables e below (s₁.setTop (mkF m 19 #[.val (.int p0)] [(.int ((48 : Int32) + ((p0 &&& (255 : Int32)) % (10 : Int32))))])) _
      refine XS.i2b X0.here hx rfl (hb hby d1_19) rfl ?_
      exact k
    obtain ⟨fs, hr, hrun, hended, hW, hsame⟩ := X0.leave (v := some (.int (((48 : Int32) + ((p0 &&& (255 : Int32)) % (10 : Int32))).toInt8.toInt32))) (fun h => by rw [Bd.returns] at h; cases h)
    refine ⟨_, _, ?_, hrun, hended, _, _, rfl, ?_, ⟨_, rfl⟩, hW, hsame.mono (by decide) (by decide)⟩
    · exact retOut X0 hx Bd.returns (own_nbyte _) (Or.inl ⟨rfl, by simp, _, rfl⟩) (hb hby d1_20) hr
    · show Q1 Z p0 h0 n0 _ s₁.heap _
      rw [e0]
      exact ⟨by rw [own_draw, if_neg h5], N0, rfl⟩
theorem d2_0 : decode method_3_code 0 = .ok (.iload_n 0, 1) := by decide +kernel
theorem d2_1 : decode method_3_code 1 = .ok (.bipush 48, 2) := by decide +kernel
theorem d2_3 : decode method_3_code 3 = .ok (.if_icmp .lt 14, 3) := by decide +kernel
theorem d2_6 : decode method_3_code 6 = .ok (.iload_n 0, 1) := by decide +kernel
theorem d2_7 : decode method_3_code 7 = .ok (.bipush 57, 2) := by decide +kernel
theorem d2_9 : decode method_3_code 9 = .ok (.if_icmp .gt 8, 3) := by decide +kernel
theorem d2_12 : decode method_3_code 12 = .ok (.iload_n 0, 1) := by decide +kernel
theorem d2_13 : decode method_3_code 13 = .ok (.bipush 48, 2) := by decide +kernel
theorem d2_15 : decode method_3_code 15 = .ok (.isub, 1) := by decide +kernel
theorem d2_16 : decode method_3_code 16 = .ok (.ireturn, 1) := by decide +kernel
theorem d2_17 : decode method_3_code 17 = .ok (.iconst (-1), 1) := by decide +kernel
theorem d2_18 : decode method_3_code 18 = .ok (.ireturn, 1) := by decide +kernel
theorem ef_2 (m : MethodId) (x0 : Int32) : entryFrame m #[(.int x0)] 1 = mkF m 0 #[.val (.int x0)] [] := by first | (simp [entryFrame, mkF, argsToLocals, Value.category]; done) | rfl
def Q2 (Z : State) (p0 : Int32) (h0 : Heap) (n0 : Nat) (v : Option Value) (h : Heap) (L : List Loc) : Prop := v = some (.int (own_dig p0)) ∧ Fr n0 L ∧ h = h0
set_option maxRecDepth 65536 in
set_option maxHeartbeats 40000000 in
theorem rm2 (l : Launch) (Z : State) (a0 : Array Value) (hw : ∀ d ∈ tables_1, d.before a0 Z = true) (ws : List Jvm.Cond) (p0 : Int32) (h0 : Heap) (n0 : Nat) (Z0 : n0 ≤ h0.size) :
    MetFree l (⟨"com/example/hour_ending/hourending/prices/PriceLayoutDigitsPinLaw", "dig", "(B)I"⟩ : MethodName) (head1 (Jvm.Cond.code (⟨"com/example/hour_ending/hourending/prices/PriceLayoutDigitsPinLaw", "dig", "(B)I"⟩ : MethodName) method_3_code 1 (some .int) :: ws) ({ frames := 0, cells := 0, slots := 0, locals := 0 } : Room)) (fun a U => a = #[(.int p0)] ∧ Z.Warmed39 U.vm ∧ U.heap = h0) (fun _ _ _ _ _ => True) (fun _ U o U' => ∃ v L, o = .returned v ∧ Q2 Z p0 h0 n0 v U'.heap L ∧ FrameEnd U o U' L ({ frames := 0, cells := 0, slots := 0, locals := 0 } : Room).cells ({ frames := 0, cells := 0, slots := 0, locals := 0 } : Room).slots) := by
  refine MetFree.of_bodySF (plainFor_of_name pn_1) hisR ?_
  intro p e s m args below meth c s₁ Bd hml0 hP hK
  obtain ⟨rfl, hZ, hh⟩ := hP
  have hx := Bd.exec
  have hby := Bd.bytes
  have hml : c.maxLocals = 1 := hml0
  have hown : s.vm.findClass "com/example/hour_ending/hourending/prices/PriceLayoutDigitsPinLaw" = some m.cls := findClass_of_methodNamed Bd.named
  have hnm := (name_of_methodNamed Bd.named Bd.method).1
  have X0 : Stand p l e ({ frames := 0, cells := 0, slots := 0, locals := 0 } : Room) s m #[(.int p0)] below meth c s₁ [] 0 0 := Stand.of_body Bd
  have e0 : s₁.heap = h0 := by rw [← hh, Bd.state]; rfl
  have N0 := Fr.nil n0
  show own_G p e below (fun (t : State) (o : Outcome) => t.status = .running ∧ Ended t below o ∧ ∃ v L, o = .returned v ∧ Q2 Z p0 h0 n0 v t.heap L ∧ FrameEnd s o t L ({ frames := 0, cells := 0, slots := 0, locals := 0 } : Room).cells ({ frames := 0, cells := 0, slots := 0, locals := 0 } : Room).slots) (s₁.setTop (entryFrame m #[(.int p0)] 1))
  rw [ef_2 m p0]
  refine own_st (B := s₁.setTop (mkF m 3 #[.val (.int p0)] [(.int (48 : Int32)), (.int p0)])) (fun t k => ?_) ?_
  · show Steps p.tables e below (s₁.setTop (mkF m 0 #[.val (.int p0)] [])) _
    refine XS.iloadN X0.here hx rfl (hb hby d2_0) rfl ?_
    show Steps p.tables e below (s₁.setTop (mkF m 1 #[.val (.int p0)] [(.int p0)])) _
    refine XS.bipush X0.here hx rfl (hb hby d2_1) ?_
    exact k
  by_cases h3 : p0 < (48 : Int32)
  · refine own_st (B := s₁.setTop (mkF m 18 #[.val (.int p0)] [(.int (-1 : Int32))])) (fun t k => ?_) ?_
    · show Steps p.tables e below (s₁.setTop (mkF m 3 #[.val (.int p0)] [(.int (48 : Int32)), (.int p0)])) _
      refine XS.icmpYes X0.here hx rfl (pc0 := 3) (pc' := 17) rfl (hb hby d2_3) rfl (tlt h3).1 (by decide) (by decide) ?_
      show Steps p.tables e below (s₁.setTop (mkF m 17 #[.val (.int p0)] [])) _
      refine XS.iconst X0.here hx rfl (hb hby d2_17) ?_
      exact k
    obtain ⟨fs, hr, hrun, hended, hW, hsame⟩ := X0.leave (v := some (.int (-1 : Int32))) (fun h => by rw [Bd.returns] at h; cases h)
    refine ⟨_, _, ?_, hrun, hended, _, _, rfl, ?_, ⟨_, rfl⟩, hW, hsame.mono (by decide) (by decide)⟩
    · exact retOut X0 hx Bd.returns rfl (Or.inl ⟨rfl, by simp, _, rfl⟩) (hb hby d2_18) hr
    · show Q2 Z p0 h0 n0 _ s₁.heap _
      rw [e0]
      exact ⟨by rw [own_dig, if_pos h3], N0, rfl⟩
  · refine own_st (B := s₁.setTop (mkF m 9 #[.val (.int p0)] [(.int (57 : Int32)), (.int p0)])) (fun t k => ?_) ?_
    · show Steps p.tables e below (s₁.setTop (mkF m 3 #[.val (.int p0)] [(.int (48 : Int32)), (.int p0)])) _
      refine XS.icmpNo X0.here hx rfl (hb hby d2_3) rfl (flt h3).1 ?_
      show Steps p.tables e below (s₁.setTop (mkF m 6 #[.val (.int p0)] [])) _
      refine XS.iloadN X0.here hx rfl (hb hby d2_6) rfl ?_
      show Steps p.tables e below (s₁.setTop (mkF m 7 #[.val (.int p0)] [(.int p0)])) _
      refine XS.bipush X0.here hx rfl (hb hby d2_7) ?_
      exact k
    by_cases h9 : (57 : Int32) < p0
    · refine own_st (B := s₁.setTop (mkF m 18 #[.val (.int p0)] [(.int (-1 : Int32))])) (fun t k => ?_) ?_
      · show Steps p.tables e below (s₁.setTop (mkF m 9 #[.val (.int p0)] [(.int (57 : Int32)), (.int p0)])) _
        refine XS.icmpYes X0.here hx rfl (pc0 := 9) (pc' := 17) rfl (hb hby d2_9) rfl (tlt h9).2.2.1 (by decide) (by decide) ?_
        show Steps p.tables e below (s₁.setTop (mkF m 17 #[.val (.int p0)] [])) _
        refine XS.iconst X0.here hx rfl (hb hby d2_17) ?_
        exact k
      obtain ⟨fs, hr, hrun, hended, hW, hsame⟩ := X0.leave (v := some (.int (-1 : Int32))) (fun h => by rw [Bd.returns] at h; cases h)
      refine ⟨_, _, ?_, hrun, hended, _, _, rfl, ?_, ⟨_, rfl⟩, hW, hsame.mono (by decide) (by decide)⟩
      · exact retOut X0 hx Bd.returns rfl (Or.inl ⟨rfl, by simp, _, rfl⟩) (hb hby d2_18) hr
      · show Q2 Z p0 h0 n0 _ s₁.heap _
        rw [e0]
        exact ⟨by rw [own_dig, if_neg h3, if_pos h9], N0, rfl⟩
    · refine own_st (B := s₁.setTop (mkF m 16 #[.val (.int p0)] [(.int (p0 - (48 : Int32)))])) (fun t k => ?_) ?_
      · show Steps p.tables e below (s₁.setTop (mkF m 9 #[.val (.int p0)] [(.int (57 : Int32)), (.int p0)])) _
        refine XS.icmpNo X0.here hx rfl (hb hby d2_9) rfl (flt h9).2.2.1 ?_
        show Steps p.tables e below (s₁.setTop (mkF m 12 #[.val (.int p0)] [])) _
        refine XS.iloadN X0.here hx rfl (hb hby d2_12) rfl ?_
        show Steps p.tables e below (s₁.setTop (mkF m 13 #[.val (.int p0)] [(.int p0)])) _
        refine XS.bipush X0.here hx rfl (hb hby d2_13) ?_
        show Steps p.tables e below (s₁.setTop (mkF m 15 #[.val (.int p0)] [(.int (48 : Int32)), (.int p0)])) _
        refine XS.isub X0.here hx rfl (hb hby d2_15) rfl ?_
        exact k
      obtain ⟨fs, hr, hrun, hended, hW, hsame⟩ := X0.leave (v := some (.int (p0 - (48 : Int32)))) (fun h => by rw [Bd.returns] at h; cases h)
      refine ⟨_, _, ?_, hrun, hended, _, _, rfl, ?_, ⟨_, rfl⟩, hW, hsame.mono (by decide) (by decide)⟩
      · exact retOut X0 hx Bd.returns rfl (Or.inl ⟨rfl, by simp, _, rfl⟩) (hb hby d2_16) hr
      · show Q2 Z p0 h0 n0 _ s₁.heap _
        rw [e0]
        exact ⟨by rw [own_dig, if_neg h3, if_neg h9], N0, rfl⟩
theorem d3_0 : decode method_6_code 0 = .ok (.iload_n 1, 1) := by decide +kernel
theorem d3_1 : decode method_6_code 1 = .ok (.iload_n 0, 1) := by decide +kernel
theorem d3_2 : decode method_6_code 2 = .ok (.if_icmp .gt 16, 3) := by decide +kernel
theorem d3_5 : decode method_6_code 5 = .ok (.iload_n 0, 1) := by decide +kernel
theorem d3_6 : decode method_6_code 6 = .ok (.iload_n 2, 1) := by decide +kernel
theorem d3_7 : decode method_6_code 7 = .ok (.if_icmp .ge 11, 3) := by decide +kernel
theorem d3_10 : decode method_6_code 10 = .ok (.iload_n 3, 1) := by decide +kernel
theorem d3_11 : decode method_6_code 11 = .ok (.ifCond .ge 7, 3) := by decide +kernel
theorem d3_14 : decode method_6_code 14 = .ok (.iconst 1, 1) := by decide +kernel
theorem d3_15 : decode method_6_code 15 = .ok (.goto 4, 3) := by decide +kernel
theorem d3_18 : decode method_6_code 18 = .ok (.iconst 0, 1) := by decide +kernel
theorem d3_19 : decode method_6_code 19 = .ok (.ireturn, 1) := by decide +kernel
theorem ef_3 (m : MethodId) (x0 : Int32) (x1 : Int32) (x2 : Int32) (x3 : Int32) : entryFrame m #[(.int x0), (.int x1), (.int x2), (.int x3)] 4 = mkF m 0 #[.val (.int x0), .val (.int x1), .val (.int x2), .val (.int x3)] [] := by first | (simp [entryFrame, mkF, argsToLocals, Value.category]; done) | rfl
def Q3 (Z : State) (p0 : Int32) (p1 : Int32) (p2 : Int32) (p3 : Int32) (h0 : Heap) (n0 : Nat) (v : Option Value) (h : Heap) (L : List Loc) : Prop := v = some (.int (own_b (own_ba p0 p1 p2 p3))) ∧ Fr n0 L ∧ h = h0
set_option maxRecDepth 65536 in
set_option maxHeartbeats 40000000 in
theorem rm3 (l : Launch) (Z : State) (a0 : Array Value) (hw : ∀ d ∈ tables_1, d.before a0 Z = true) (ws : List Jvm.Cond) (p0 : Int32) (p1 : Int32) (p2 : Int32) (p3 : Int32) (h0 : Heap) (n0 : Nat) (Z0 : n0 ≤ h0.size) :
    MetFree l (⟨"com/example/hour_ending/hourending/prices/PriceLayoutDigitsPinLaw", "badAt", "(IIII)Z"⟩ : MethodName) (head1 (Jvm.Cond.code (⟨"com/example/hour_ending/hourending/prices/PriceLayoutDigitsPinLaw", "badAt", "(IIII)Z"⟩ : MethodName) method_6_code 4 (some .boolean) :: ws) ({ frames := 0, cells := 0, slots := 0, locals := 0 } : Room)) (fun a U => a = #[(.int p0), (.int p1), (.int p2), (.int p3)] ∧ Z.Warmed39 U.vm ∧ U.heap = h0) (fun _ _ _ _ _ => True) (fun _ U o U' => ∃ v L, o = .returned v ∧ Q3 Z p0 p1 p2 p3 h0 n0 v U'.heap L ∧ FrameEnd U o U' L ({ frames := 0, cells := 0, slots := 0, locals := 0 } : Room).cells ({ frames := 0, cells := 0, slots := 0, locals := 0 } : Room).slots) := by
  refine MetFree.of_bodySF (plainFor_of_name pn_1) hisR ?_
  intro p e s m args below meth c s₁ Bd hml0 hP hK
  obtain ⟨rfl, hZ, hh⟩ := hP
  have hx := Bd.exec
  have hby := Bd.bytes
  have hml : c.maxLocals = 4 := hml0
  have hown : s.vm.findClass "com/example/hour_ending/hourending/prices/PriceLayoutDigitsPinLaw" = some m.cls := findClass_of_methodNamed Bd.named
  have hnm := (name_of_methodNamed Bd.named Bd.method).1
  have X0 : Stand p l e ({ frames := 0, cells := 0, slots := 0, locals := 0 } : Room) s m #[(.int p0), (.int p1), (.int p2), (.int p3)] below meth c s₁ [] 0 0 := Stand.of_body Bd
  have e0 : s₁.heap = h0 := by rw [← hh, Bd.state]; rfl
  have N0 := Fr.nil n0
  show own_G p e below (fun (t : State) (o : Outcome) => t.status = .running ∧ Ended t below o ∧ ∃ v L, o = .returned v ∧ Q3 Z p0 p1 p2 p3 h0 n0 v t.heap L ∧ FrameEnd s o t L ({ frames := 0, cells := 0, slots := 0, locals := 0 } : Room).cells ({ frames := 0, cells := 0, slots := 0, locals := 0 } : Room).slots) (s₁.setTop (entryFrame m #[(.int p0), (.int p1), (.int p2), (.int p3)] 4))
  rw [ef_3 m p0 p1 p2 p3]
  refine own_st (B := s₁.setTop (mkF m 2 #[.val (.int p0), .val (.int p1), .val (.int p2), .val (.int p3)] [(.int p0), (.int p1)])) (fun t k => ?_) ?_
  · show Steps p.tables e below (s₁.setTop (mkF m 0 #[.val (.int p0), .val (.int p1), .val (.int p2), .val (.int p3)] [])) _
    refine XS.iloadN X0.here hx rfl (hb hby d3_0) rfl ?_
    show Steps p.tables e below (s₁.setTop (mkF m 1 #[.val (.int p0), .val (.int p1), .val (.int p2), .val (.int p3)] [(.int p1)])) _
    refine XS.iloadN X0.here hx rfl (hb hby d3_1) rfl ?_
    exact k
  by_cases h2 : p0 < p1
  · refine own_st (B := s₁.setTop (mkF m 19 #[.val (.int p0), .val (.int p1), .val (.int p2), .val (.int p3)] [(.int (0 : Int32))])) (fun t k => ?_) ?_
    · show Steps p.tables e below (s₁.setTop (mkF m 2 #[.val (.int p0), .val (.int p1), .val (.int p2), .val (.int p3)] [(.int p0), (.int p1)])) _
      refine XS.icmpYes X0.here hx rfl (pc0 := 2) (pc' := 18) rfl (hb hby d3_2) rfl (tlt h2).2.2.1 (by decide) (by decide) ?_
      show Steps p.tables e below (s₁.setTop (mkF m 18 #[.val (.int p0), .val (.int p1), .val (.int p2), .val (.int p3)] [])) _
      refine XS.iconst X0.here hx rfl (hb hby d3_18) ?_
      exact k
    obtain ⟨fs, hr, hrun, hended, hW, hsame⟩ := X0.leave (v := some (.int (0 : Int32))) (fun h => by rw [Bd.returns] at h; cases h)
    refine ⟨_, _, ?_, hrun, hended, _, _, rfl, ?_, ⟨_, rfl⟩, hW, hsame.mono (by decide) (by decide)⟩
    · exact retOut X0 hx Bd.returns rfl (Or.inl ⟨rfl, by simp, _, rfl⟩) (hb hby d3_19) hr
    · show Q3 Z p0 p1 p2 p3 h0 n0 _ s₁.heap _
      rw [e0]
      exact ⟨by simp [own_ba, h2], N0, rfl⟩
  · refine own_st (B := s₁.setTop (mkF m 7 #[.val (.int p0), .val (.int p1), .val (.int p2), .val (.int p3)] [(.int p2), (.int p0)])) (fun t k => ?_) ?_
    · show Steps p.tables e below (s₁.setTop (mkF m 2 #[.val (.int p0), .val (.int p1), .val (.int p2), .val (.int p3)] [(.int p0), (.int p1)])) _
      refine XS.icmpNo X0.here hx rfl (hb hby d3_2) rfl (flt h2).2.2.1 ?_
      show Steps p.tables e below (s₁.setTop (mkF m 5 #[.val (.int p0), .val (.int p1), .val (.int p2), .val (.int p3)] [])) _
      refine XS.iloadN X0.here hx rfl (hb hby d3_5) rfl ?_
      show Steps p.tables e below (s₁.setTop (mkF m 6 #[.val (.int p0), .val (.int p1), .val (.int p2), .val (.int p3)] [(.int p0)])) _
      refine XS.iloadN X0.here hx rfl (hb hby d3_6) rfl ?_
      exact k
    by_cases h7 : p0 < p2
    · refine own_st (B := s₁.setTop (mkF m 11 #[.val (.int p0), .val (.int p1), .val (.int p2), .val (.int p3)] [(.int p3)])) (fun t k => ?_) ?_
      · show Steps p.tables e below (s₁.setTop (mkF m 7 #[.val (.int p0), .val (.int p1), .val (.int p2), .val (.int p3)] [(.int p2), (.int p0)])) _
        refine XS.icmpNo X0.here hx rfl (hb hby d3_7) rfl (tlt h7).2.1 ?_
        show Steps p.tables e below (s₁.setTop (mkF m 10 #[.val (.int p0), .val (.int p1), .val (.int p2), .val (.int p3)] [])) _
        refine XS.iloadN X0.here hx rfl (hb hby d3_10) rfl ?_
        exact k
      by_cases h11 : p3 < (0 : Int32)
      · refine own_st (B := s₁.setTop (mkF m 19 #[.val (.int p0), .val (.int p1), .val (.int p2), .val (.int p3)] [(.int (1 : Int32))])) (fun t k => ?_) ?_
        · show Steps p.tables e below (s₁.setTop (mkF m 11 #[.val (.int p0), .val (.int p1), .val (.int p2), .val (.int p3)] [(.int p3)])) _
          refine XS.ifNo X0.here hx rfl (hb hby d3_11) rfl ((if0 _ _).trans (tlt h11).2.1) ?_
          show Steps p.tables e below (s₁.setTop (mkF m 14 #[.val (.int p0), .val (.int p1), .val (.int p2), .val (.int p3)] [])) _
          refine XS.iconst X0.here hx rfl (hb hby d3_14) ?_
          show Steps p.tables e below (s₁.setTop (mkF m 15 #[.val (.int p0), .val (.int p1), .val (.int p2), .val (.int p3)] [(.int (1 : Int32))])) _
          refine XS.goto X0.here hx rfl (pc0 := 15) (pc' := 19) rfl (hb hby d3_15) (by decide) (by decide) ?_
          exact k
        obtain ⟨fs, hr, hrun, hended, hW, hsame⟩ := X0.leave (v := some (.int (1 : Int32))) (fun h => by rw [Bd.returns] at h; cases h)
        refine ⟨_, _, ?_, hrun, hended, _, _, rfl, ?_, ⟨_, rfl⟩, hW, hsame.mono (by decide) (by decide)⟩
        · exact retOut X0 hx Bd.returns rfl (Or.inl ⟨rfl, by simp, _, rfl⟩) (hb hby d3_19) hr
        · show Q3 Z p0 p1 p2 p3 h0 n0 _ s₁.heap _
          rw [e0]
          exact ⟨by simp [own_ba, h2, h7, h11], N0, rfl⟩
      · refine own_st (B := s₁.setTop (mkF m 19 #[.val (.int p0), .val (.int p1), .val (.int p2), .val (.int p3)] [(.int (0 : Int32))])) (fun t k => ?_) ?_
        · show Steps p.tables e below (s₁.setTop (mkF m 11 #[.val (.int p0), .val (.int p1), .val (.int p2), .val (.int p3)] [(.int p3)])) _
          refine XS.ifYes X0.here hx rfl (pc0 := 11) (pc' := 18) rfl (hb hby d3_11) rfl ((if0 _ _).trans (flt h11).2.1) (by decide) (by decide) ?_
          show Steps p.tables e below (s₁.setTop (mkF m 18 #[.val (.int p0), .val (.int p1), .val (.int p2), .val (.int p3)] [])) _
          refine XS.iconst X0.here hx rfl (hb hby d3_18) ?_
          exact k
        obtain ⟨fs, hr, hrun, hended, hW, hsame⟩ := X0.leave (v := some (.int (0 : Int32))) (fun h => by rw [Bd.returns] at h; cases h)
        refine ⟨_, _, ?_, hrun, hended, _, _, rfl, ?_, ⟨_, rfl⟩, hW, hsame.mono (by decide) (by decide)⟩
        · exact retOut X0 hx Bd.returns rfl (Or.inl ⟨rfl, by simp, _, rfl⟩) (hb hby d3_19) hr
        · show Q3 Z p0 p1 p2 p3 h0 n0 _ s₁.heap _
          rw [e0]
          exact ⟨by simp [own_ba, h2, h7, h11], N0, rfl⟩
    · refine own_st (B := s₁.setTop (mkF m 19 #[.val (.int p0), .val (.int p1), .val (.int p2), .val (.int p3)] [(.int (0 : Int32))])) (fun t k => ?_) ?_
      · show Steps p.tables e below (s₁.setTop (mkF m 7 #[.val (.int p0), .val (.int p1), .val (.int p2), .val (.int p3)] [(.int p2), (.int p0)])) _
        refine XS.icmpYes X0.here hx rfl (pc0 := 7) (pc' := 18) rfl (hb hby d3_7) rfl (flt h7).2.1 (by decide) (by decide) ?_
        show Steps p.tables e below (s₁.setTop (mkF m 18 #[.val (.int p0), .val (.int p1), .val (.int p2), .val (.int p3)] [])) _
        refine XS.iconst X0.here hx rfl (hb hby d3_18) ?_
        exact k
      obtain ⟨fs, hr, hrun, hended, hW, hsame⟩ := X0.leave (v := some (.int (0 : Int32))) (fun h => by rw [Bd.returns] at h; cases h)
      refine ⟨_, _, ?_, hrun, hended, _, _, rfl, ?_, ⟨_, rfl⟩, hW, hsame.mono (by decide) (by decide)⟩
      · exact retOut X0 hx Bd.returns rfl (Or.inl ⟨rfl, by simp, _, rfl⟩) (hb hby d3_19) hr
      · show Q3 Z p0 p1 p2 p3 h0 n0 _ s₁.heap _
        rw [e0]
        exact ⟨by simp [own_ba, h2, h7], N0, rfl⟩
theorem d6_0 : decode method_4_code 0 = .ok (.iload_n 0, 1) := by decide +kernel
theorem d6_1 : decode method_4_code 1 = .ok (.ifCond .ne 5, 3) := by decide +kernel
theorem d6_4 : decode method_4_code 4 = .ok (.iconst 1, 1) := by decide +kernel
theorem d6_5 : decode method_4_code 5 = .ok (.ireturn, 1) := by decide +kernel
theorem d6_6 : decode method_4_code 6 = .ok (.iload_n 0, 1) := by decide +kernel
theorem d6_7 : decode method_4_code 7 = .ok (.iconst 1, 1) := by decide +kernel
theorem d6_8 : decode method_4_code 8 = .ok (.if_icmp .ne 6, 3) := by decide +kernel
theorem d6_11 : decode method_4_code 11 = .ok (.bipush 10, 2) := by decide +kernel
theorem d6_13 : decode method_4_code 13 = .ok (.ireturn, 1) := by decide +kernel
theorem d6_14 : decode method_4_code 14 = .ok (.iload_n 0, 1) := by decide +kernel
theorem d6_15 : decode method_4_code 15 = .ok (.iconst 2, 1) := by decide +kernel
theorem d6_16 : decode method_4_code 16 = .ok (.if_icmp .ne 6, 3) := by decide +kernel
theorem d6_19 : decode method_4_code 19 = .ok (.bipush 100, 2) := by decide +kernel
theorem d6_21 : decode method_4_code 21 = .ok (.ireturn, 1) := by decide +kernel
theorem d6_22 : decode method_4_code 22 = .ok (.sipush 1000, 3) := by decide +kernel
theorem d6_25 : decode method_4_code 25 = .ok (.ireturn, 1) := by decide +kernel
theorem ef_6 (m : MethodId) (x0 : Int32) : entryFrame m #[(.int x0)] 1 = mkF m 0 #[.val (.int x0)] [] := by first | (simp [entryFrame, mkF, argsToLocals, Value.category]; done) | rfl
def Q6 (Z : State) (p0 : Int32) (h0 : Heap) (n0 : Nat) (v : Option Value) (h : Heap) (L : List Loc) : Prop := v = some (.int (own_p10 p0)) ∧ Fr n0 L ∧ h = h0
set_option maxRecDepth 65536 in
set_option maxHeartbeats 40000000 in
theorem rm6 (l : Launch) (Z : State) (a0 : Array Value) (hw : ∀ d ∈ tables_1, d.before a0 Z = true) (ws : List Jvm.Cond) (p0 : Int32) (h0 : Heap) (n0 : Nat) (Z0 : n0 ≤ h0.size) :
    MetFree l (⟨"com/example/hour_ending/hourending/prices/PriceLayoutDigitsPinLaw", "pow10", "(I)I"⟩ : MethodName) (head1 (Jvm.Cond.code (⟨"com/example/hour_ending/hourending/prices/PriceLayoutDigitsPinLaw", "pow10", "(I)I"⟩ : MethodName) method_4_code 1 (some .int) :: ws) ({ frames := 0, cells := 0, slots := 0, locals := 0 } : Room)) (fun a U => a = #[(.int p0)] ∧ Z.Warmed39 U.vm ∧ U.heap = h0) (fun _ _ _ _ _ => True) (fun _ U o U' => ∃ v L, o = .returned v ∧ Q6 Z p0 h0 n0 v U'.heap L ∧ FrameEnd U o U' L ({ frames := 0, cells := 0, slots := 0, locals := 0 } : Room).cells ({ frames := 0, cells := 0, slots := 0, locals := 0 } : Room).slots) := by
  refine MetFree.of_bodySF (plainFor_of_name pn_1) hisR ?_
  intro p e s m args below meth c s₁ Bd hml0 hP hK
  obtain ⟨rfl, hZ, hh⟩ := hP
  have hx := Bd.exec
  have hby := Bd.bytes
  have hml : c.maxLocals = 1 := hml0
  have hown : s.vm.findClass "com/example/hour_ending/hourending/prices/PriceLayoutDigitsPinLaw" = some m.cls := findClass_of_methodNamed Bd.named
  have hnm := (name_of_methodNamed Bd.named Bd.method).1
  have X0 : Stand p l e ({ frames := 0, cells := 0, slots := 0, locals := 0 } : Room) s m #[(.int p0)] below meth c s₁ [] 0 0 := Stand.of_body Bd
  have e0 : s₁.heap = h0 := by rw [← hh, Bd.state]; rfl
  have N0 := Fr.nil n0
  show own_G p e below (fun (t : State) (o : Outcome) => t.status = .running ∧ Ended t below o ∧ ∃ v L, o = .returned v ∧ Q6 Z p0 h0 n0 v t.heap L ∧ FrameEnd s o t L ({ frames := 0, cells := 0, slots := 0, locals := 0 } : Room).cells ({ frames := 0, cells := 0, slots := 0, locals := 0 } : Room).slots) (s₁.setTop (entryFrame m #[(.int p0)] 1))
  rw [ef_6 m p0]
  refine own_st (B := s₁.setTop (mkF m 1 #[.val (.int p0)] [(.int p0)])) (fun t k => ?_) ?_
  · show Steps p.tables e below (s₁.setTop (mkF m 0 #[.val (.int p0)] [])) _
    refine XS.iloadN X0.here hx rfl (hb hby d6_0) rfl ?_
    exact k
  by_cases h1 : p0 = (0 : Int32)
  · refine own_st (B := s₁.setTop (mkF m 5 #[.val (.int p0)] [(.int (1 : Int32))])) (fun t k => ?_) ?_
    · show Steps p.tables e below (s₁.setTop (mkF m 1 #[.val (.int p0)] [(.int p0)])) _
      refine XS.ifNo X0.here hx rfl (hb hby d6_1) rfl ((if0 _ _).trans (teq h1).2) ?_
      show Steps p.tables e below (s₁.setTop (mkF m 4 #[.val (.int p0)] [])) _
      refine XS.iconst X0.here hx rfl (hb hby d6_4) ?_
      exact k
    obtain ⟨fs, hr, hrun, hended, hW, hsame⟩ := X0.leave (v := some (.int (1 : Int32))) (fun h => by rw [Bd.returns] at h; cases h)
    refine ⟨_, _, ?_, hrun, hended, _, _, rfl, ?_, ⟨_, rfl⟩, hW, hsame.mono (by decide) (by decide)⟩
    · exact retOut X0 hx Bd.returns rfl (Or.inl ⟨rfl, by simp, _, rfl⟩) (hb hby d6_5) hr
    · show Q6 Z p0 h0 n0 _ s₁.heap _
      rw [e0]
      exact ⟨by simp [own_p10, h1], N0, rfl⟩
  · refine own_st (B := s₁.setTop (mkF m 8 #[.val (.int p0)] [(.int (1 : Int32)), (.int p0)])) (fun t k => ?_) ?_
    · show Steps p.tables e below (s₁.setTop (mkF m 1 #[.val (.int p0)] [(.int p0)])) _
      refine XS.ifYes X0.here hx rfl (pc0 := 1) (pc' := 6) rfl (hb hby d6_1) rfl ((if0 _ _).trans (feq h1).2) (by decide) (by decide) ?_
      show Steps p.tables e below (s₁.setTop (mkF m 6 #[.val (.int p0)] [])) _
      refine XS.iloadN X0.here hx rfl (hb hby d6_6) rfl ?_
      show Steps p.tables e below (s₁.setTop (mkF m 7 #[.val (.int p0)] [(.int p0)])) _
      refine XS.iconst X0.here hx rfl (hb hby d6_7) ?_
      exact k
    by_cases h8 : p0 = (1 : Int32)
    · refine own_st (B := s₁.setTop (mkF m 13 #[.val (.int p0)] [(.int (10 : Int32))])) (fun t k => ?_) ?_
      · show Steps p.tables e below (s₁.setTop (mkF m 8 #[.val (.int p0)] [(.int (1 : Int32)), (.int p0)])) _
        refine XS.icmpNo X0.here hx rfl (hb hby d6_8) rfl (teq h8).2 ?_
        show Steps p.tables e below (s₁.setTop (mkF m 11 #[.val (.int p0)] [])) _
        refine XS.bipush X0.here hx rfl (hb hby d6_11) ?_
        exact k
      obtain ⟨fs, hr, hrun, hended, hW, hsame⟩ := X0.leave (v := some (.int (10 : Int32))) (fun h => by rw [Bd.returns] at h; cases h)
      refine ⟨_, _, ?_, hrun, hended, _, _, rfl, ?_, ⟨_, rfl⟩, hW, hsame.mono (by decide) (by decide)⟩
      · exact retOut X0 hx Bd.returns rfl (Or.inl ⟨rfl, by simp, _, rfl⟩) (hb hby d6_13) hr
      · show Q6 Z p0 h0 n0 _ s₁.heap _
        rw [e0]
        exact ⟨by simp [own_p10, h1, h8], N0, rfl⟩
    · refine own_st (B := s₁.setTop (mkF m 16 #[.val (.int p0)] [(.int (2 : Int32)), (.int p0)])) (fun t k => ?_) ?_
      · show Steps p.tables e below (s₁.setTop (mkF m 8 #[.val (.int p0)] [(.int (1 : Int32)), (.int p0)])) _
        refine XS.icmpYes X0.here hx rfl (pc0 := 8) (pc' := 14) rfl (hb hby d6_8) rfl (feq h8).2 (by decide) (by decide) ?_
        show Steps p.tables e below (s₁.setTop (mkF m 14 #[.val (.int p0)] [])) _
        refine XS.iloadN X0.here hx rfl (hb hby d6_14) rfl ?_
        show Steps p.tables e below (s₁.setTop (mkF m 15 #[.val (.int p0)] [(.int p0)])) _
        refine XS.iconst X0.here hx rfl (hb hby d6_15) ?_
        exact k
      by_cases h16 : p0 = (2 : Int32)
      · refine own_st (B := s₁.setTop (mkF m 21 #[.val (.int p0)] [(.int (100 : Int32))])) (fun t k => ?_) ?_
        · show Steps p.tables e below (s₁.setTop (mkF m 16 #[.val (.int p0)] [(.int (2 : Int32)), (.int p0)])) _
          refine XS.icmpNo X0.here hx rfl (hb hby d6_16) rfl (teq h16).2 ?_
          show Steps p.tables e below (s₁.setTop (mkF m 19 #[.val (.int p0)] [])) _
          refine XS.bipush X0.here hx rfl (hb hby d6_19) ?_
          exact k
        obtain ⟨fs, hr, hrun, hended, hW, hsame⟩ := X0.leave (v := some (.int (100 : Int32))) (fun h => by rw [Bd.returns] at h; cases h)
        refine ⟨_, _, ?_, hrun, hended, _, _, rfl, ?_, ⟨_, rfl⟩, hW, hsame.mono (by decide) (by decide)⟩
        · exact retOut X0 hx Bd.returns rfl (Or.inl ⟨rfl, by simp, _, rfl⟩) (hb hby d6_21) hr
        · show Q6 Z p0 h0 n0 _ s₁.heap _
          rw [e0]
          exact ⟨by simp [own_p10, h1, h8, h16], N0, rfl⟩
      · refine own_st (B := s₁.setTop (mkF m 25 #[.val (.int p0)] [(.int (1000 : Int32))])) (fun t k => ?_) ?_
        · show Steps p.tables e below (s₁.setTop (mkF m 16 #[.val (.int p0)] [(.int (2 : Int32)), (.int p0)])) _
          refine XS.icmpYes X0.here hx rfl (pc0 := 16) (pc' := 22) rfl (hb hby d6_16) rfl (feq h16).2 (by decide) (by decide) ?_
          show Steps p.tables e below (s₁.setTop (mkF m 22 #[.val (.int p0)] [])) _
          refine XS.sipush X0.here hx rfl (hb hby d6_22) ?_
          exact k
        obtain ⟨fs, hr, hrun, hended, hW, hsame⟩ := X0.leave (v := some (.int (1000 : Int32))) (fun h => by rw [Bd.returns] at h; cases h)
        refine ⟨_, _, ?_, hrun, hended, _, _, rfl, ?_, ⟨_, rfl⟩, hW, hsame.mono (by decide) (by decide)⟩
        · exact retOut X0 hx Bd.returns rfl (Or.inl ⟨rfl, by simp, _, rfl⟩) (hb hby d6_25) hr
        · show Q6 Z p0 h0 n0 _ s₁.heap _
          rw [e0]
          exact ⟨by simp [own_p10, h1, h8, h16], N0, rfl⟩
theorem d5_0 : decode method_5_code 0 = .ok (.iload_n 1, 1) := by decide +kernel
theorem d5_1 : decode method_5_code 1 = .ok (.iload_n 0, 1) := by decide +kernel
theorem d5_2 : decode method_5_code 2 = .ok (.if_icmp .gt 19, 3) := by decide +kernel
theorem d5_5 : decode method_5_code 5 = .ok (.iload_n 0, 1) := by decide +kernel
theorem d5_6 : decode method_5_code 6 = .ok (.iload_n 2, 1) := by decide +kernel
theorem d5_7 : decode method_5_code 7 = .ok (.if_icmp .ge 14, 3) := by decide +kernel
theorem d5_10 : decode method_5_code 10 = .ok (.iload_n 3, 1) := by decide +kernel
theorem d5_11 : decode method_5_code 11 = .ok (.iload_n 2, 1) := by decide +kernel
theorem d5_12 : decode method_5_code 12 = .ok (.iconst 1, 1) := by decide +kernel
theorem d5_13 : decode method_5_code 13 = .ok (.isub, 1) := by decide +kernel
theorem d5_14 : decode method_5_code 14 = .ok (.iload_n 0, 1) := by decide +kernel
theorem d5_15 : decode method_5_code 15 = .ok (.isub, 1) := by decide +kernel
theorem d5_16 : decode method_5_code 16 = .ok (.invokestatic 7, 3) := by decide +kernel
theorem d5_19 : decode method_5_code 19 = .ok (.imul, 1) := by decide +kernel
theorem d5_20 : decode method_5_code 20 = .ok (.ireturn, 1) := by decide +kernel
theorem d5_21 : decode method_5_code 21 = .ok (.iconst 0, 1) := by decide +kernel
theorem d5_22 : decode method_5_code 22 = .ok (.ireturn, 1) := by decide +kernel
theorem ef_5 (m : MethodId) (x0 : Int32) (x1 : Int32) (x2 : Int32) (x3 : Int32) : entryFrame m #[(.int x0), (.int x1), (.int x2), (.int x3)] 4 = mkF m 0 #[.val (.int x0), .val (.int x1), .val (.int x2), .val (.int x3)] [] := by first | (simp [entryFrame, mkF, argsToLocals, Value.category]; done) | rfl
def Q5 (Z : State) (p0 : Int32) (p1 : Int32) (p2 : Int32) (p3 : Int32) (h0 : Heap) (n0 : Nat) (v : Option Value) (h : Heap) (L : List Loc) : Prop := v = some (.int (own_term p0 p1 p2 p3)) ∧ Fr n0 L ∧ h = h0
theorem pd_0 : parseMethodDescriptor "(I)I" = some ⟨[.int], some .int⟩ := by decide +kernel
set_option maxRecDepth 65536 in
set_option maxHeartbeats 40000000 in
theorem rm5 (l : Launch) (Z : State) (a0 : Array Value) (hw : ∀ d ∈ tables_1, d.before a0 Z = true) (ws : List Jvm.Cond) (p0 : Int32) (p1 : Int32) (p2 : Int32) (p3 : Int32) (h0 : Heap) (n0 : Nat) (Z0 : n0 ≤ h0.size) :
    MetFree l (⟨"com/example/hour_ending/hourending/prices/PriceLayoutDigitsPinLaw", "term", "(IIII)I"⟩ : MethodName) (head1 (Jvm.Cond.code (⟨"com/example/hour_ending/hourending/prices/PriceLayoutDigitsPinLaw", "term", "(IIII)I"⟩ : MethodName) method_5_code 4 (some .int) :: ws) ({ frames := 1, cells := 0, slots := 0, locals := 13 } : Room)) (fun a U => a = #[(.int p0), (.int p1), (.int p2), (.int p3)] ∧ Z.Warmed39 U.vm ∧ U.heap = h0) (fun _ _ _ _ _ => True) (fun _ U o U' => ∃ v L, o = .returned v ∧ Q5 Z p0 p1 p2 p3 h0 n0 v U'.heap L ∧ FrameEnd U o U' L ({ frames := 1, cells := 0, slots := 0, locals := 13 } : Room).cells ({ frames := 1, cells := 0, slots := 0, locals := 13 } : Room).slots) := by
  refine MetFree.of_bodySF (plainFor_of_name pn_1) hisR ?_
  intro p e s m args below meth c s₁ Bd hml0 hP hK
  obtain ⟨rfl, hZ, hh⟩ := hP
  have hx := Bd.exec
  have hby := Bd.bytes
  have hml : c.maxLocals = 4 := hml0
  have hown : s.vm.findClass "com/example/hour_ending/hourending/prices/PriceLayoutDigitsPinLaw" = some m.cls := findClass_of_methodNamed Bd.named
  have hnm := (name_of_methodNamed Bd.named Bd.method).1
  have X0 : Stand p l e ({ frames := 1, cells := 0, slots := 0, locals := 13 } : Room) s m #[(.int p0), (.int p1), (.int p2), (.int p3)] below meth c s₁ [] 0 0 := Stand.of_body Bd
  have e0 : s₁.heap = h0 := by rw [← hh, Bd.state]; rfl
  have N0 := Fr.nil n0
  show own_G p e below (fun (t : State) (o : Outcome) => t.status = .running ∧ Ended t below o ∧ ∃ v L, o = .returned v ∧ Q5 Z p0 p1 p2 p3 h0 n0 v t.heap L ∧ FrameEnd s o t L ({ frames := 1, cells := 0, slots := 0, locals := 13 } : Room).cells ({ frames := 1, cells := 0, slots := 0, locals := 13 } : Room).slots) (s₁.setTop (entryFrame m #[(.int p0), (.int p1), (.int p2), (.int p3)] 4))
  rw [ef_5 m p0 p1 p2 p3]
  refine own_st (B := s₁.setTop (mkF m 2 #[.val (.int p0), .val (.int p1), .val (.int p2), .val (.int p3)] [(.int p0), (.int p1)])) (fun t k => ?_) ?_
  · show Steps p.tables e below (s₁.setTop (mkF m 0 #[.val (.int p0), .val (.int p1), .val (.int p2), .val (.int p3)] [])) _
    refine XS.iloadN X0.here hx rfl (hb hby d5_0) rfl ?_
    show Steps p.tables e below (s₁.setTop (mkF m 1 #[.val (.int p0), .val (.int p1), .val (.int p2), .val (.int p3)] [(.int p1)])) _
    refine XS.iloadN X0.here hx rfl (hb hby d5_1) rfl ?_
    exact k
  by_cases h2 : p0 < p1
  · refine own_st (B := s₁.setTop (mkF m 22 #[.val (.int p0), .val (.int p1), .val (.int p2), .val (.int p3)] [(.int (0 : Int32))])) (fun t k => ?_) ?_
    · show Steps p.tables e below (s₁.setTop (mkF m 2 #[.val (.int p0), .val (.int p1), .val (.int p2), .val (.int p3)] [(.int p0), (.int p1)])) _
      refine XS.icmpYes X0.here hx rfl (pc0 := 2) (pc' := 21) rfl (hb hby d5_2) rfl (tlt h2).2.2.1 (by decide) (by decide) ?_
      show Steps p.tables e below (s₁.setTop (mkF m 21 #[.val (.int p0), .val (.int p1), .val (.int p2), .val (.int p3)] [])) _
      refine XS.iconst X0.here hx rfl (hb hby d5_21) ?_
      exact k
    obtain ⟨fs, hr, hrun, hended, hW, hsame⟩ := X0.leave (v := some (.int (0 : Int32))) (fun h => by rw [Bd.returns] at h; cases h)
    refine ⟨_, _, ?_, hrun, hended, _, _, rfl, ?_, ⟨_, rfl⟩, hW, hsame.mono (by decide) (by decide)⟩
    · exact retOut X0 hx Bd.returns rfl (Or.inl ⟨rfl, by simp, _, rfl⟩) (hb hby d5_22) hr
    · show Q5 Z p0 p1 p2 p3 h0 n0 _ s₁.heap _
      rw [e0]
      exact ⟨by rw [own_term, if_pos h2], N0, rfl⟩
  · refine own_st (B := s₁.setTop (mkF m 7 #[.val (.int p0), .val (.int p1), .val (.int p2), .val (.int p3)] [(.int p2), (.int p0)])) (fun t k => ?_) ?_
    · show Steps p.tables e below (s₁.setTop (mkF m 2 #[.val (.int p0), .val (.int p1), .val (.int p2), .val (.int p3)] [(.int p0), (.int p1)])) _
      refine XS.icmpNo X0.here hx rfl (hb hby d5_2) rfl (flt h2).2.2.1 ?_
      show Steps p.tables e below (s₁.setTop (mkF m 5 #[.val (.int p0), .val (.int p1), .val (.int p2), .val (.int p3)] [])) _
      refine XS.iloadN X0.here hx rfl (hb hby d5_5) rfl ?_
      show Steps p.tables e below (s₁.setTop (mkF m 6 #[.val (.int p0), .val (.int p1), .val (.int p2), .val (.int p3)] [(.int p0)])) _
      refine XS.iloadN X0.here hx rfl (hb hby d5_6) rfl ?_
      exact k
    by_cases h7 : p0 < p2
    · refine own_st (B := s₁.setTop (mkF m 16 #[.val (.int p0), .val (.int p1), .val (.int p2), .val (.int p3)] [(.int ((p2 - (1 : Int32)) - p0)), (.int p3)])) (fun t k => ?_) ?_
      · show Steps p.tables e below (s₁.setTop (mkF m 7 #[.val (.int p0), .val (.int p1), .val (.int p2), .val (.int p3)] [(.int p2), (.int p0)])) _
        refine XS.icmpNo X0.here hx rfl (hb hby d5_7) rfl (tlt h7).2.1 ?_
        show Steps p.tables e below (s₁.setTop (mkF m 10 #[.val (.int p0), .val (.int p1), .val (.int p2), .val (.int p3)] [])) _
        refine XS.iloadN X0.here hx rfl (hb hby d5_10) rfl ?_
        show Steps p.tables e below (s₁.setTop (mkF m 11 #[.val (.int p0), .val (.int p1), .val (.int p2), .val (.int p3)] [(.int p3)])) _
        refine XS.iloadN X0.here hx rfl (hb hby d5_11) rfl ?_
        show Steps p.tables e below (s₁.setTop (mkF m 12 #[.val (.int p0), .val (.int p1), .val (.int p2), .val (.int p3)] [(.int p2), (.int p3)])) _
        refine XS.iconst X0.here hx rfl (hb hby d5_12) ?_
        show Steps p.tables e below (s₁.setTop (mkF m 13 #[.val (.int p0), .val (.int p1), .val (.int p2), .val (.int p3)] [(.int (1 : Int32)), (.int p2), (.int p3)])) _
        refine XS.isub X0.here hx rfl (hb hby d5_13) rfl ?_
        show Steps p.tables e below (s₁.setTop (mkF m 14 #[.val (.int p0), .val (.int p1), .val (.int p2), .val (.int p3)] [(.int (p2 - (1 : Int32))), (.int p3)])) _
        refine XS.iloadN X0.here hx rfl (hb hby d5_14) rfl ?_
        show Steps p.tables e below (s₁.setTop (mkF m 15 #[.val (.int p0), .val (.int p1), .val (.int p2), .val (.int p3)] [(.int p0), (.int (p2 - (1 : Int32))), (.int p3)])) _
        refine XS.isub X0.here hx rfl (hb hby d5_15) rfl ?_
        exact k
      obtain ⟨_, _, ⟨T1, L1, k1, n1⟩, -, X1, ⟨Lc1, hQ1, l1, y1, z1⟩, st1⟩ := Jvm.LawKit.callS X0 hx (y := (⟨"com/example/hour_ending/hourending/prices/PriceLayoutDigitsPinLaw", "pow10", "(I)I"⟩ : MethodName)) hown (mvT hZ (hw _ (List.mem_of_getElem? (i := 19) rfl))) (mvT hZ (hw _ (List.mem_of_getElem? (i := 20) rfl))) (mvT hZ (hw _ (List.mem_of_getElem? (i := 3) rfl))) (mvT hZ (hw _ (List.mem_of_getElem? (i := 21) rfl))) (by decide) (backOf (W := 1) (rm6 l Z a0 hw [] ((p2 - (1 : Int32)) - p0) h0 n0 Z0) hZ (hw _ (List.mem_of_getElem? (i := 21) rfl)) (hw _ (List.mem_of_getElem? (i := 3) rfl)) (by decide) (by decide)) (g := (mkF m 16 #[.val (.int p0), .val (.int p1), .val (.int p2), .val (.int p3)] [(.int ((p2 - (1 : Int32)) - p0)), (.int p3)])) rfl (by rw [hml]; rfl) (argsL := [(.int ((p2 - (1 : Int32)) - p0))]) (rest := [(.int p3)]) (lenOf pd_0 rfl) rfl (by show 2 * 0 + _ ≤ _; exact Nat.le_of_eq rfl) (hb hby d5_16) (fun _ _ => ⟨rfl, e0, (by decide : 0 + 0 ≤ _), (by decide : 0 + 0 ≤ _)⟩)
      dsimp only [Pt.U, Pt.locs, Pt.cells, Pt.slots] at X1 l1 y1 z1 st1 hQ1
      subst l1 y1 z1
      obtain ⟨rfl, N1q, e1⟩ := hQ1
      have N1 := Fr.app N0 N1q
      refine own_st (B := T1.setTop (mkF m 19 #[.val (.int p0), .val (.int p1), .val (.int p2), .val (.int p3)] [(.int (own_p10 ((p2 - (1 : Int32)) - p0))), (.int p3)])) (fun t k => st1 _ k) ?_
      refine own_st (B := T1.setTop (mkF m 20 #[.val (.int p0), .val (.int p1), .val (.int p2), .val (.int p3)] [(.int (p3 * (own_p10 ((p2 - (1 : Int32)) - p0))))])) (fun t k => ?_) ?_
      · show Steps p.tables e below (T1.setTop (mkF m 19 #[.val (.int p0), .val (.int p1), .val (.int p2), .val (.int p3)] [(.int (own_p10 ((p2 - (1 : Int32)) - p0))), (.int p3)])) _
        refine XS.imul X1.here hx rfl (hb hby d5_19) rfl ?_
        exact k
      obtain ⟨fs, hr, hrun, hended, hW, hsame⟩ := X1.leave (v := some (.int (p3 * (own_p10 ((p2 - (1 : Int32)) - p0))))) (fun h => by rw [Bd.returns] at h; cases h)
      refine ⟨_, _, ?_, hrun, hended, _, _, rfl, ?_, ⟨_, rfl⟩, hW, hsame.mono (by decide) (by decide)⟩
      · exact retOut X1 hx Bd.returns rfl (Or.inl ⟨rfl, by simp, _, rfl⟩) (hb hby d5_20) hr
      · show Q5 Z p0 p1 p2 p3 h0 n0 _ T1.heap _
        rw [e1]
        exact ⟨by rw [own_term, if_neg h2, if_pos h7], N1, rfl⟩
    · refine own_st (B := s₁.setTop (mkF m 22 #[.val (.int p0), .val (.int p1), .val (.int p2), .val (.int p3)] [(.int (0 : Int32))])) (fun t k => ?_) ?_
      · show Steps p.tables e below (s₁.setTop (mkF m 7 #[.val (.int p0), .val (.int p1), .val (.int p2), .val (.int p3)] [(.int p2), (.int p0)])) _
        refine XS.icmpYes X0.here hx rfl (pc0 := 7) (pc' := 21) rfl (hb hby d5_7) rfl (flt h7).2.1 (by decide) (by decide) ?_
        show Steps p.tables e below (s₁.setTop (mkF m 21 #[.val (.int p0), .val (.int p1), .val (.int p2), .val (.int p3)] [])) _
        refine XS.iconst X0.here hx rfl (hb hby d5_21) ?_
        exact k
      obtain ⟨fs, hr, hrun, hended, hW, hsame⟩ := X0.leave (v := some (.int (0 : Int32))) (fun h => by rw [Bd.returns] at h; cases h)
      refine ⟨_, _, ?_, hrun, hended, _, _, rfl, ?_, ⟨_, rfl⟩, hW, hsame.mono (by decide) (by decide)⟩
      · exact retOut X0 hx Bd.returns rfl (Or.inl ⟨rfl, by simp, _, rfl⟩) (hb hby d5_22) hr
      · show Q5 Z p0 p1 p2 p3 h0 n0 _ s₁.heap _
        rw [e0]
        exact ⟨by rw [own_term, if_neg h2, if_neg h7], N0, rfl⟩
theorem d4_0 : decode prog_33_method_9_code 0 = .ok (.iconst 0, 1) := by decide +kernel
theorem d4_1 : decode prog_33_method_9_code 1 = .ok (.istore_n 3, 1) := by decide +kernel
theorem d4_2 : decode prog_33_method_9_code 2 = .ok (.iload_n 1, 1) := by decide +kernel
theorem d4_3 : decode prog_33_method_9_code 3 = .ok (.istore 4, 2) := by decide +kernel
theorem d4_5 : decode prog_33_method_9_code 5 = .ok (.iload 4, 2) := by decide +kernel
theorem d4_7 : decode prog_33_method_9_code 7 = .ok (.iload_n 2, 1) := by decide +kernel
theorem d4_8 : decode prog_33_method_9_code 8 = .ok (.if_icmp .ge 40, 3) := by decide +kernel
theorem d4_11 : decode prog_33_method_9_code 11 = .ok (.aload_n 0, 1) := by decide +kernel
theorem d4_12 : decode prog_33_method_9_code 12 = .ok (.iload 4, 2) := by decide +kernel
theorem d4_14 : decode prog_33_method_9_code 14 = .ok (.baload, 1) := by decide +kernel
theorem d4_15 : decode prog_33_method_9_code 15 = .ok (.bipush 48, 2) := by decide +kernel
theorem d4_17 : decode prog_33_method_9_code 17 = .ok (.isub, 1) := by decide +kernel
theorem d4_18 : decode prog_33_method_9_code 18 = .ok (.istore 5, 2) := by decide +kernel
theorem d4_20 : decode prog_33_method_9_code 20 = .ok (.iload 5, 2) := by decide +kernel
theorem d4_22 : decode prog_33_method_9_code 22 = .ok (.ifCond .lt 10, 3) := by decide +kernel
theorem d4_25 : decode prog_33_method_9_code 25 = .ok (.iload 5, 2) := by decide +kernel
theorem d4_27 : decode prog_33_method_9_code 27 = .ok (.bipush 9, 2) := by decide +kernel
theorem d4_29 : decode prog_33_method_9_code 29 = .ok (.if_icmp .le 5, 3) := by decide +kernel
theorem d4_32 : decode prog_33_method_9_code 32 = .ok (.iconst (-1), 1) := by decide +kernel
theorem d4_33 : decode prog_33_method_9_code 33 = .ok (.ireturn, 1) := by decide +kernel
theorem d4_34 : decode prog_33_method_9_code 34 = .ok (.iload_n 3, 1) := by decide +kernel
theorem d4_35 : decode prog_33_method_9_code 35 = .ok (.bipush 10, 2) := by decide +kernel
theorem d4_37 : decode prog_33_method_9_code 37 = .ok (.imul, 1) := by decide +kernel
theorem d4_38 : decode prog_33_method_9_code 38 = .ok (.iload 5, 2) := by decide +kernel
theorem d4_40 : decode prog_33_method_9_code 40 = .ok (.iadd, 1) := by decide +kernel
theorem d4_41 : decode prog_33_method_9_code 41 = .ok (.istore_n 3, 1) := by decide +kernel
theorem d4_42 : decode prog_33_method_9_code 42 = .ok (.iinc 4 1, 3) := by decide +kernel
theorem d4_45 : decode prog_33_method_9_code 45 = .ok (.goto (-40), 3) := by decide +kernel
theorem d4_48 : decode prog_33_method_9_code 48 = .ok (.iload_n 2, 1) := by decide +kernel
theorem d4_49 : decode prog_33_method_9_code 49 = .ok (.iload_n 1, 1) := by decide +kernel
theorem d4_50 : decode prog_33_method_9_code 50 = .ok (.if_icmp .le 7, 3) := by decide +kernel
theorem d4_53 : decode prog_33_method_9_code 53 = .ok (.iload_n 3, 1) := by decide +kernel
theorem d4_54 : decode prog_33_method_9_code 54 = .ok (.goto 4, 3) := by decide +kernel
theorem d4_57 : decode prog_33_method_9_code 57 = .ok (.iconst (-1), 1) := by decide +kernel
theorem d4_58 : decode prog_33_method_9_code 58 = .ok (.ireturn, 1) := by decide +kernel
theorem pn_4 : plainName "com/example/hour_ending/hourending/prices/PriceLayout" = true := by first | (simp [plainName, overriddenIn]; done) | decide +kernel
theorem ef_4 (m : MethodId) (x0 : Addr) (x1 : Int32) (x2 : Int32) : entryFrame m #[(.ref x0), (.int x1), (.int x2)] 6 = mkF m 0 #[.val (.ref x0), .val (.int x1), .val (.int x2), .unset, .unset, .unset] [] := by first | (simp [entryFrame, mkF, argsToLocals, Value.category]; done) | rfl
def Q4 (Z : State) (r0 : Addr) (p1 : Int32) (p2 : Int32) (kk : ClassId) (b0 : Int32) (b1 : Int32) (b2 : Int32) (b3 : Int32) (h0 : Heap) (n0 : Nat) (v : Option Value) (h : Heap) (L : List Loc) : Prop := v = some (.int (own_D b0 b1 b2 b3 p1 p2)) ∧ Fr n0 L ∧ h = h0
theorem os4_18 {z0 : Value} {z1 : Value} {z2 : Value} {z3 : Value} {z4 : Value} {s5 : Slot} {x : Int32} (h : One s5) : storeLocals #[.val z0, .val z1, .val z2, .val z3, .val z4, s5] 5 (.int x) = some #[.val z0, .val z1, .val z2, .val z3, .val z4, .val (.int x)] := by
  rcases h with rfl | ⟨w, rfl, hw⟩
  · rfl
  · cases w <;> first | rfl | (simp [Value.category] at hw)
set_option maxRecDepth 65536 in
set_option maxHeartbeats 40000000 in
theorem rm4 (l : Launch) (Z : State) (a0 : Array Value) (hw : ∀ d ∈ tables_1, d.before a0 Z = true) (ws : List Jvm.Cond) (r0 : Addr) (p1 : Int32) (p2 : Int32) (kk : ClassId) (b0 : Int32) (b1 : Int32) (b2 : Int32) (b3 : Int32) (h0 : Heap) (n0 : Nat) (Z0 : n0 ≤ h0.size) (VA : Arv Z h0 r0 kk .byte (4 : Int32) [(.int b0), (.int b1), (.int b2), (.int b3)] (.int (0 : Int32))) (hf : own_in p1) (ht : own_in p2) :
    MetFree l (⟨"com/example/hour_ending/hourending/prices/PriceLayout", "digits", "([BII)I"⟩ : MethodName) (head1 (Jvm.Cond.code (⟨"com/example/hour_ending/hourending/prices/PriceLayout", "digits", "([BII)I"⟩ : MethodName) prog_33_method_9_code 6 (some .int) :: ws) ({ frames := 0, cells := 0, slots := 0, locals := 0 } : Room)) (fun a U => a = #[(.ref r0), (.int p1), (.int p2)] ∧ Z.Warmed39 U.vm ∧ U.heap = h0) (fun _ _ _ _ _ => True) (fun _ U o U' => ∃ v L, o = .returned v ∧ Q4 Z r0 p1 p2 kk b0 b1 b2 b3 h0 n0 v U'.heap L ∧ FrameEnd U o U' L ({ frames := 0, cells := 0, slots := 0, locals := 0 } : Room).cells ({ frames := 0, cells := 0, slots := 0, locals := 0 } : Room).slots) := by
  refine MetFree.of_bodySF (plainFor_of_name pn_4) hisR ?_
  intro p e s m args below meth c s₁ Bd hml0 hP hK
  obtain ⟨rfl, hZ, hh⟩ := hP
  have hx := Bd.exec
  have hby := Bd.bytes
  have hml : c.maxLocals = 6 := hml0
  have hown : s.vm.findClass "com/example/hour_ending/hourending/prices/PriceLayout" = some m.cls := findClass_of_methodNamed Bd.named
  have hnm := (name_of_methodNamed Bd.named Bd.method).1
  have X0 : Stand p l e ({ frames := 0, cells := 0, slots := 0, locals := 0 } : Room) s m #[(.ref r0), (.int p1), (.int p2)] below meth c s₁ [] 0 0 := Stand.of_body Bd
  have e0 : s₁.heap = h0 := by rw [← hh, Bd.state]; rfl
  have N0 := Fr.nil n0
  show own_G p e below (fun (t : State) (o : Outcome) => t.status = .running ∧ Ended t below o ∧ ∃ v L, o = .returned v ∧ Q4 Z r0 p1 p2 kk b0 b1 b2 b3 h0 n0 v t.heap L ∧ FrameEnd s o t L ({ frames := 0, cells := 0, slots := 0, locals := 0 } : Room).cells ({ frames := 0, cells := 0, slots := 0, locals := 0 } : Room).slots) (s₁.setTop (entryFrame m #[(.ref r0), (.int p1), (.int p2)] 6))
  rw [ef_4 m r0 p1 p2]
  refine own_st (B := s₁.setTop (mkF m 5 #[.val (.ref r0), .val (.int p1), .val (.int p2), .val (.int (0 : Int32)), .val (.int p1), .unset] [])) (fun t k => ?_) ?_
  · show Steps p.tables e below (s₁.setTop (mkF m 0 #[.val (.ref r0), .val (.int p1), .val (.int p2), .unset, .unset, .unset] [])) _
    refine XS.iconst X0.here hx rfl (hb hby d4_0) ?_
    show Steps p.tables e below (s₁.setTop (mkF m 1 #[.val (.ref r0), .val (.int p1), .val (.int p2), .unset, .unset, .unset] [(.int (0 : Int32))])) _
    refine XS.istoreN X0.here hx rfl (hb hby d4_1) rfl (l' := #[.val (.ref r0), .val (.int p1), .val (.int p2), .val (.int (0 : Int32)), .unset, .unset]) rfl ?_
    show Steps p.tables e below (s₁.setTop (mkF m 2 #[.val (.ref r0), .val (.int p1), .val (.int p2), .val (.int (0 : Int32)), .unset, .unset] [])) _
    refine XS.iloadN X0.here hx rfl (hb hby d4_2) rfl ?_
    show Steps p.tables e below (s₁.setTop (mkF m 3 #[.val (.ref r0), .val (.int p1), .val (.int p2), .val (.int (0 : Int32)), .unset, .unset] [(.int p1)])) _
    refine XS.istore X0.here hx rfl (hb hby d4_3) rfl (l' := #[.val (.ref r0), .val (.int p1), .val (.int p2), .val (.int (0 : Int32)), .val (.int p1), .unset]) rfl ?_
    exact k
  have k48 : ∀ (acc i4 : Int32) (s5 : Slot) (hv : own_D b0 b1 b2 b3 p1 p2 = own_fin p1 p2 acc), own_G p e below (fun (t : State) (o : Outcome) => t.status = .running ∧ Ended t below o ∧ ∃ v L, o = .returned v ∧ Q4 Z r0 p1 p2 kk b0 b1 b2 b3 h0 n0 v t.heap L ∧ FrameEnd s o t L ({ frames := 0, cells := 0, slots := 0, locals := 0 } : Room).cells ({ frames := 0, cells := 0, slots := 0, locals := 0 } : Room).slots) (s₁.setTop (mkF m 48 #[.val (.ref r0), .val (.int p1), .val (.int p2), .val (.int acc), .val (.int i4), s5] [])) := by
    intro acc i4 s5 hv
    refine own_st (B := s₁.setTop (mkF m 50 #[.val (.ref r0), .val (.int p1), .val (.int p2), .val (.int acc), .val (.int i4), s5] [(.int p1), (.int p2)])) (fun t k => ?_) ?_
    · show Steps p.tables e below (s₁.setTop (mkF m 48 #[.val (.ref r0), .val (.int p1), .val (.int p2), .val (.int acc), .val (.int i4), s5] [])) _
      refine XS.iloadN X0.here hx rfl (hb hby d4_48) rfl ?_
      show Steps p.tables e below (s₁.setTop (mkF m 49 #[.val (.ref r0), .val (.int p1), .val (.int p2), .val (.int acc), .val (.int i4), s5] [(.int p2)])) _
      refine XS.iloadN X0.here hx rfl (hb hby d4_49) rfl ?_
      exact k
    by_cases h50 : p1 < p2
    · refine own_st (B := s₁.setTop (mkF m 58 #[.val (.ref r0), .val (.int p1), .val (.int p2), .val (.int acc), .val (.int i4), s5] [(.int acc)])) (fun t k => ?_) ?_
      · show Steps p.tables e below (s₁.setTop (mkF m 50 #[.val (.ref r0), .val (.int p1), .val (.int p2), .val (.int acc), .val (.int i4), s5] [(.int p1), (.int p2)])) _
        refine XS.icmpNo X0.here hx rfl (hb hby d4_50) rfl (tlt h50).2.2.2 ?_
        show Steps p.tables e below (s₁.setTop (mkF m 53 #[.val (.ref r0), .val (.int p1), .val (.int p2), .val (.int acc), .val (.int i4), s5] [])) _
        refine XS.iloadN X0.here hx rfl (hb hby d4_53) rfl ?_
        show Steps p.tables e below (s₁.setTop (mkF m 54 #[.val (.ref r0), .val (.int p1), .val (.int p2), .val (.int acc), .val (.int i4), s5] [(.int acc)])) _
        refine XS.goto X0.here hx rfl (pc0 := 54) (pc' := 58) rfl (hb hby d4_54) (by decide) (by decide) ?_
        exact k
      obtain ⟨fs, hr, hrun, hended, hW, hsame⟩ := X0.leave (v := some (.int acc)) (fun h => by rw [Bd.returns] at h; cases h)
      refine ⟨_, _, ?_, hrun, hended, _, _, rfl, ?_, ⟨_, rfl⟩, hW, hsame.mono (by decide) (by decide)⟩
      · exact retOut X0 hx Bd.returns rfl (Or.inl ⟨rfl, by simp, _, rfl⟩) (hb hby d4_58) hr
      · show Q4 Z r0 p1 p2 kk b0 b1 b2 b3 h0 n0 _ s₁.heap _
        rw [e0]
        exact ⟨by rw [hv, own_fin, if_pos h50], N0, rfl⟩
    · refine own_st (B := s₁.setTop (mkF m 58 #[.val (.ref r0), .val (.int p1), .val (.int p2), .val (.int acc), .val (.int i4), s5] [(.int (-1 : Int32))])) (fun t k => ?_) ?_
      · show Steps p.tables e below (s₁.setTop (mkF m 50 #[.val (.ref r0), .val (.int p1), .val (.int p2), .val (.int acc), .val (.int i4), s5] [(.int p1), (.int p2)])) _
        refine XS.icmpYes X0.here hx rfl (pc0 := 50) (pc' := 57) rfl (hb hby d4_50) rfl (flt h50).2.2.2 (by decide) (by decide) ?_
        show Steps p.tables e below (s₁.setTop (mkF m 57 #[.val (.ref r0), .val (.int p1), .val (.int p2), .val (.int acc), .val (.int i4), s5] [])) _
        refine XS.iconst X0.here hx rfl (hb hby d4_57) ?_
        exact k
      obtain ⟨fs, hr, hrun, hended, hW, hsame⟩ := X0.leave (v := some (.int (-1 : Int32))) (fun h => by rw [Bd.returns] at h; cases h)
      refine ⟨_, _, ?_, hrun, hended, _, _, rfl, ?_, ⟨_, rfl⟩, hW, hsame.mono (by decide) (by decide)⟩
      · exact retOut X0 hx Bd.returns rfl (Or.inl ⟨rfl, by simp, _, rfl⟩) (hb hby d4_58) hr
      · show Q4 Z r0 p1 p2 kk b0 b1 b2 b3 h0 n0 _ s₁.heap _
        rw [e0]
        exact ⟨by rw [hv, own_fin, if_neg h50], N0, rfl⟩
  have k5_4 : ∀ (i4 : Int32) (hi : i4 = 4) (acc : Int32) (s5 : Slot) (h5 : One s5) (hv : own_D b0 b1 b2 b3 p1 p2 = own_f4 p1 p2 acc), own_G p e below (fun (t : State) (o : Outcome) => t.status = .running ∧ Ended t below o ∧ ∃ v L, o = .returned v ∧ Q4 Z r0 p1 p2 kk b0 b1 b2 b3 h0 n0 v t.heap L ∧ FrameEnd s o t L ({ frames := 0, cells := 0, slots := 0, locals := 0 } : Room).cells ({ frames := 0, cells := 0, slots := 0, locals := 0 } : Room).slots) (s₁.setTop (mkF m 5 #[.val (.ref r0), .val (.int p1), .val (.int p2), .val (.int acc), .val (.int i4), s5] [])) := by
    intro i4 hi acc s5 h5 hv
    subst hi
    refine own_st (B := s₁.setTop (mkF m 8 #[.val (.ref r0), .val (.int p1), .val (.int p2), .val (.int acc), .val (.int (4 : Int32)), s5] [(.int p2), (.int (4 : Int32))])) (fun t k => ?_) ?_
    · show Steps p.tables e below (s₁.setTop (mkF m 5 #[.val (.ref r0), .val (.int p1), .val (.int p2), .val (.int acc), .val (.int (4 : Int32)), s5] [])) _
      refine XS.iload X0.here hx rfl (hb hby d4_5) rfl ?_
      show Steps p.tables e below (s₁.setTop (mkF m 7 #[.val (.ref r0), .val (.int p1), .val (.int p2), .val (.int acc), .val (.int (4 : Int32)), s5] [(.int (4 : Int32))])) _
      refine XS.iloadN X0.here hx rfl (hb hby d4_7) rfl ?_
      exact k
    refine own_st (B := s₁.setTop (mkF m 48 #[.val (.ref r0), .val (.int p1), .val (.int p2), .val (.int acc), .val (.int (4 : Int32)), s5] [])) (fun t k => ?_) ?_
    · show Steps p.tables e below (s₁.setTop (mkF m 8 #[.val (.ref r0), .val (.int p1), .val (.int p2), .val (.int acc), .val (.int (4 : Int32)), s5] [(.int p2), (.int (4 : Int32))])) _
      refine XS.icmpYes X0.here hx rfl (pc0 := 8) (pc' := 48) rfl (hb hby d4_8) rfl (flt (by rcases ht with h | h | h | h | h <;> rw [h] <;> decide)).2.1 (by decide) (by decide) ?_
      exact k
    exact k48 _ _ _ hv
  have k5_3 : ∀ (i4 : Int32) (hi : i4 = 3) (acc : Int32) (s5 : Slot) (h5 : One s5) (hv : own_D b0 b1 b2 b3 p1 p2 = own_f3 b3 p1 p2 acc), own_G p e below (fun (t : State) (o : Outcome) => t.status = .running ∧ Ended t below o ∧ ∃ v L, o = .returned v ∧ Q4 Z r0 p1 p2 kk b0 b1 b2 b3 h0 n0 v t.heap L ∧ FrameEnd s o t L ({ frames := 0, cells := 0, slots := 0, locals := 0 } : Room).cells ({ frames := 0, cells := 0, slots := 0, locals := 0 } : Room).slots) (s₁.setTop (mkF m 5 #[.val (.ref r0), .val (.int p1), .val (.int p2), .val (.int acc), .val (.int i4), s5] [])) := by
    intro i4 hi acc s5 h5 hv
    subst hi
    refine own_st (B := s₁.setTop (mkF m 8 #[.val (.ref r0), .val (.int p1), .val (.int p2), .val (.int acc), .val (.int (3 : Int32)), s5] [(.int p2), (.int (3 : Int32))])) (fun t k => ?_) ?_
    · show Steps p.tables e below (s₁.setTop (mkF m 5 #[.val (.ref r0), .val (.int p1), .val (.int p2), .val (.int acc), .val (.int (3 : Int32)), s5] [])) _
      refine XS.iload X0.here hx rfl (hb hby d4_5) rfl ?_
      show Steps p.tables e below (s₁.setTop (mkF m 7 #[.val (.ref r0), .val (.int p1), .val (.int p2), .val (.int acc), .val (.int (3 : Int32)), s5] [(.int (3 : Int32))])) _
      refine XS.iloadN X0.here hx rfl (hb hby d4_7) rfl ?_
      exact k
    by_cases hlt : (3 : Int32) < p2
    · rw [own_f3, if_pos hlt] at hv
      refine own_st (B := s₁.setTop (mkF m 14 #[.val (.ref r0), .val (.int p1), .val (.int p2), .val (.int acc), .val (.int (3 : Int32)), s5] [(.int (3 : Int32)), (.ref r0)])) (fun t k => ?_) ?_
      · show Steps p.tables e below (s₁.setTop (mkF m 8 #[.val (.ref r0), .val (.int p1), .val (.int p2), .val (.int acc), .val (.int (3 : Int32)), s5] [(.int p2), (.int (3 : Int32))])) _
        refine XS.icmpNo X0.here hx rfl (hb hby d4_8) rfl (tlt hlt).2.1 ?_
        show Steps p.tables e below (s₁.setTop (mkF m 11 #[.val (.ref r0), .val (.int p1), .val (.int p2), .val (.int acc), .val (.int (3 : Int32)), s5] [])) _
        refine XS.aloadN X0.here hx rfl (hb hby d4_11) rfl rfl ?_
        show Steps p.tables e below (s₁.setTop (mkF m 12 #[.val (.ref r0), .val (.int p1), .val (.int p2), .val (.int acc), .val (.int (3 : Int32)), s5] [(.ref r0)])) _
        refine XS.iload X0.here hx rfl (hb hby d4_12) rfl ?_
        exact k
      obtain ⟨cl1, Ar1, q1, S1, M1, H1, G1⟩ := VA
      have hin1 : ¬ ((3 : Int32) < 0 ∨ cl1.slots.size ≤ ((3 : Int32)).toNatClampNeg) := inb_of S1 ⟨by decide, by decide⟩
      have hat1 : cl1.slots[((3 : Int32)).toNatClampNeg]? = some (.int b3) := H1.at hin1 rfl
      refine own_st (B := s₁.setTop (mkF m 22 #[.val (.ref r0), .val (.int p1), .val (.int p2), .val (.int acc), .val (.int (3 : Int32)), .val (.int (b3 - (48 : Int32)))] [(.int (b3 - (48 : Int32)))])) (fun t k => ?_) ?_
      · show Steps p.tables e below (s₁.setTop (mkF m 14 #[.val (.ref r0), .val (.int p1), .val (.int p2), .val (.int acc), .val (.int (3 : Int32)), s5] [(.int (3 : Int32)), (.ref r0)])) _
        refine X0.baloadBytes hx (j := (3 : Int32)) (v := (.int b3)) (by rw [e0]; exact Ar1.1) (State.isArrayOf_alike hZ.alike Ar1.2.1) Ar1.2.2 hin1 hat1 (g := (mkF m 14 #[.val (.ref r0), .val (.int p1), .val (.int p2), .val (.int acc), .val (.int (3 : Int32)), s5] [(.int (3 : Int32)), (.ref r0)])) rfl rfl (hb hby d4_14) _ ?_
        show Steps p.tables e below (s₁.setTop (mkF m 15 #[.val (.ref r0), .val (.int p1), .val (.int p2), .val (.int acc), .val (.int (3 : Int32)), s5] [(.int b3)])) _
        refine XS.bipush X0.here hx rfl (hb hby d4_15) ?_
        show Steps p.tables e below (s₁.setTop (mkF m 17 #[.val (.ref r0), .val (.int p1), .val (.int p2), .val (.int acc), .val (.int (3 : Int32)), s5] [(.int (48 : Int32)), (.int b3)])) _
        refine XS.isub X0.here hx rfl (hb hby d4_17) rfl ?_
        show Steps p.tables e below (s₁.setTop (mkF m 18 #[.val (.ref r0), .val (.int p1), .val (.int p2), .val (.int acc), .val (.int (3 : Int32)), s5] [(.int (b3 - (48 : Int32)))])) _
        refine XS.istore X0.here hx rfl (hb hby d4_18) rfl (l' := #[.val (.ref r0), .val (.int p1), .val (.int p2), .val (.int acc), .val (.int (3 : Int32)), .val (.int (b3 - (48 : Int32)))]) (os4_18 h5) ?_
        show Steps p.tables e below (s₁.setTop (mkF m 20 #[.val (.ref r0), .val (.int p1), .val (.int p2), .val (.int acc), .val (.int (3 : Int32)), .val (.int (b3 - (48 : Int32)))] [])) _
        refine XS.iload X0.here hx rfl (hb hby d4_20) rfl ?_
        exact k
      by_cases h22 : (b3 - (48 : Int32)) < (0 : Int32)
      · refine own_st (B := s₁.setTop (mkF m 33 #[.val (.ref r0), .val (.int p1), .val (.int p2), .val (.int acc), .val (.int (3 : Int32)), .val (.int (b3 - (48 : Int32)))] [(.int (-1 : Int32))])) (fun t k => ?_) ?_
        · show Steps p.tables e below (s₁.setTop (mkF m 22 #[.val (.ref r0), .val (.int p1), .val (.int p2), .val (.int acc), .val (.int (3 : Int32)), .val (.int (b3 - (48 : Int32)))] [(.int (b3 - (48 : Int32)))])) _
          refine XS.ifYes X0.here hx rfl (pc0 := 22) (pc' := 32) rfl (hb hby d4_22) rfl ((if0 _ _).trans (tlt h22).1) (by decide) (by decide) ?_
          show Steps p.tables e below (s₁.setTop (mkF m 32 #[.val (.ref r0), .val (.int p1), .val (.int p2), .val (.int acc), .val (.int (3 : Int32)), .val (.int (b3 - (48 : Int32)))] [])) _
          refine XS.iconst X0.here hx rfl (hb hby d4_32) ?_
          exact k
        have hb_ : own_bad b3 = true := by simp [own_bad, h22]
        rw [hb_] at hv
        obtain ⟨fs, hr, hrun, hended, hW, hsame⟩ := X0.leave (v := some (.int (-1 : Int32))) (fun h => by rw [Bd.returns] at h; cases h)
        refine ⟨_, _, ?_, hrun, hended, _, _, rfl, ?_, ⟨_, rfl⟩, hW, hsame.mono (by decide) (by decide)⟩
        · exact retOut X0 hx Bd.returns rfl (Or.inl ⟨rfl, by simp, _, rfl⟩) (hb hby d4_33) hr
        · show Q4 Z r0 p1 p2 kk b0 b1 b2 b3 h0 n0 _ s₁.heap _
          rw [e0]
          exact ⟨by rw [hv]; rfl, N0, rfl⟩
      · refine own_st (B := s₁.setTop (mkF m 29 #[.val (.ref r0), .val (.int p1), .val (.int p2), .val (.int acc), .val (.int (3 : Int32)), .val (.int (b3 - (48 : Int32)))] [(.int (9 : Int32)), (.int (b3 - (48 : Int32)))])) (fun t k => ?_) ?_
        · show Steps p.tables e below (s₁.setTop (mkF m 22 #[.val (.ref r0), .val (.int p1), .val (.int p2), .val (.int acc), .val (.int (3 : Int32)), .val (.int (b3 - (48 : Int32)))] [(.int (b3 - (48 : Int32)))])) _
          refine XS.ifNo X0.here hx rfl (hb hby d4_22) rfl ((if0 _ _).trans (flt h22).1) ?_
          show Steps p.tables e below (s₁.setTop (mkF m 25 #[.val (.ref r0), .val (.int p1), .val (.int p2), .val (.int acc), .val (.int (3 : Int32)), .val (.int (b3 - (48 : Int32)))] [])) _
          refine XS.iload X0.here hx rfl (hb hby d4_25) rfl ?_
          show Steps p.tables e below (s₁.setTop (mkF m 27 #[.val (.ref r0), .val (.int p1), .val (.int p2), .val (.int acc), .val (.int (3 : Int32)), .val (.int (b3 - (48 : Int32)))] [(.int (b3 - (48 : Int32)))])) _
          refine XS.bipush X0.here hx rfl (hb hby d4_27) ?_
          exact k
        by_cases h29 : (9 : Int32) < (b3 - (48 : Int32))
        · refine own_st (B := s₁.setTop (mkF m 33 #[.val (.ref r0), .val (.int p1), .val (.int p2), .val (.int acc), .val (.int (3 : Int32)), .val (.int (b3 - (48 : Int32)))] [(.int (-1 : Int32))])) (fun t k => ?_) ?_
          · show Steps p.tables e below (s₁.setTop (mkF m 29 #[.val (.ref r0), .val (.int p1), .val (.int p2), .val (.int acc), .val (.int (3 : Int32)), .val (.int (b3 - (48 : Int32)))] [(.int (9 : Int32)), (.int (b3 - (48 : Int32)))])) _
            refine XS.icmpNo X0.here hx rfl (hb hby d4_29) rfl (tlt h29).2.2.2 ?_
            show Steps p.tables e below (s₁.setTop (mkF m 32 #[.val (.ref r0), .val (.int p1), .val (.int p2), .val (.int acc), .val (.int (3 : Int32)), .val (.int (b3 - (48 : Int32)))] [])) _
            refine XS.iconst X0.here hx rfl (hb hby d4_32) ?_
            exact k
          have hb_ : own_bad b3 = true := by simp [own_bad, h22, h29]
          rw [hb_] at hv
          obtain ⟨fs, hr, hrun, hended, hW, hsame⟩ := X0.leave (v := some (.int (-1 : Int32))) (fun h => by rw [Bd.returns] at h; cases h)
          refine ⟨_, _, ?_, hrun, hended, _, _, rfl, ?_, ⟨_, rfl⟩, hW, hsame.mono (by decide) (by decide)⟩
          · exact retOut X0 hx Bd.returns rfl (Or.inl ⟨rfl, by simp, _, rfl⟩) (hb hby d4_33) hr
          · show Q4 Z r0 p1 p2 kk b0 b1 b2 b3 h0 n0 _ s₁.heap _
            rw [e0]
            exact ⟨by rw [hv]; rfl, N0, rfl⟩
        · have hb_ : own_bad b3 = false := by simp [own_bad, h22, h29]
          rw [hb_] at hv
          refine own_st (B := s₁.setTop (mkF m 5 #[.val (.ref r0), .val (.int p1), .val (.int p2), .val (.int ((acc * (10 : Int32)) + (b3 - (48 : Int32)))), .val (.int ((3 : Int32) + (1 : Int32))), .val (.int (b3 - (48 : Int32)))] [])) (fun t k => ?_) ?_
          · show Steps p.tables e below (s₁.setTop (mkF m 29 #[.val (.ref r0), .val (.int p1), .val (.int p2), .val (.int acc), .val (.int (3 : Int32)), .val (.int (b3 - (48 : Int32)))] [(.int (9 : Int32)), (.int (b3 - (48 : Int32)))])) _
            refine XS.icmpYes X0.here hx rfl (pc0 := 29) (pc' := 34) rfl (hb hby d4_29) rfl (flt h29).2.2.2 (by decide) (by decide) ?_
            show Steps p.tables e below (s₁.setTop (mkF m 34 #[.val (.ref r0), .val (.int p1), .val (.int p2), .val (.int acc), .val (.int (3 : Int32)), .val (.int (b3 - (48 : Int32)))] [])) _
            refine XS.iloadN X0.here hx rfl (hb hby d4_34) rfl ?_
            show Steps p.tables e below (s₁.setTop (mkF m 35 #[.val (.ref r0), .val (.int p1), .val (.int p2), .val (.int acc), .val (.int (3 : Int32)), .val (.int (b3 - (48 : Int32)))] [(.int acc)])) _
            refine XS.bipush X0.here hx rfl (hb hby d4_35) ?_
            show Steps p.tables e below (s₁.setTop (mkF m 37 #[.val (.ref r0), .val (.int p1), .val (.int p2), .val (.int acc), .val (.int (3 : Int32)), .val (.int (b3 - (48 : Int32)))] [(.int (10 : Int32)), (.int acc)])) _
            refine XS.imul X0.here hx rfl (hb hby d4_37) rfl ?_
            show Steps p.tables e below (s₁.setTop (mkF m 38 #[.val (.ref r0), .val (.int p1), .val (.int p2), .val (.int acc), .val (.int (3 : Int32)), .val (.int (b3 - (48 : Int32)))] [(.int (acc * (10 : Int32)))])) _
            refine XS.iload X0.here hx rfl (hb hby d4_38) rfl ?_
            show Steps p.tables e below (s₁.setTop (mkF m 40 #[.val (.ref r0), .val (.int p1), .val (.int p2), .val (.int acc), .val (.int (3 : Int32)), .val (.int (b3 - (48 : Int32)))] [(.int (b3 - (48 : Int32))), (.int (acc * (10 : Int32)))])) _
            refine XS.iadd X0.here hx rfl (hb hby d4_40) rfl ?_
            show Steps p.tables e below (s₁.setTop (mkF m 41 #[.val (.ref r0), .val (.int p1), .val (.int p2), .val (.int acc), .val (.int (3 : Int32)), .val (.int (b3 - (48 : Int32)))] [(.int ((acc * (10 : Int32)) + (b3 - (48 : Int32))))])) _
            refine XS.istoreN X0.here hx rfl (hb hby d4_41) rfl (l' := #[.val (.ref r0), .val (.int p1), .val (.int p2), .val (.int ((acc * (10 : Int32)) + (b3 - (48 : Int32)))), .val (.int (3 : Int32)), .val (.int (b3 - (48 : Int32)))]) rfl ?_
            show Steps p.tables e below (s₁.setTop (mkF m 42 #[.val (.ref r0), .val (.int p1), .val (.int p2), .val (.int ((acc * (10 : Int32)) + (b3 - (48 : Int32)))), .val (.int (3 : Int32)), .val (.int (b3 - (48 : Int32)))] [])) _
            refine XS.iinc X0.here hx rfl (hb hby d4_42) rfl (l' := #[.val (.ref r0), .val (.int p1), .val (.int p2), .val (.int ((acc * (10 : Int32)) + (b3 - (48 : Int32)))), .val (.int ((3 : Int32) + (1 : Int32))), .val (.int (b3 - (48 : Int32)))]) rfl ?_
            show Steps p.tables e below (s₁.setTop (mkF m 45 #[.val (.ref r0), .val (.int p1), .val (.int p2), .val (.int ((acc * (10 : Int32)) + (b3 - (48 : Int32)))), .val (.int ((3 : Int32) + (1 : Int32))), .val (.int (b3 - (48 : Int32)))] [])) _
            refine XS.goto X0.here hx rfl (pc0 := 45) (pc' := 5) rfl (hb hby d4_45) (by decide) (by decide) ?_
            exact k
          exact k5_4 _ (by decide) _ _ (One.val rfl) hv
    · rw [own_f3, if_neg hlt] at hv
      refine own_st (B := s₁.setTop (mkF m 48 #[.val (.ref r0), .val (.int p1), .val (.int p2), .val (.int acc), .val (.int (3 : Int32)), s5] [])) (fun t k => ?_) ?_
      · show Steps p.tables e below (s₁.setTop (mkF m 8 #[.val (.ref r0), .val (.int p1), .val (.int p2), .val (.int acc), .val (.int (3 : Int32)), s5] [(.int p2), (.int (3 : Int32))])) _
        refine XS.icmpYes X0.here hx rfl (pc0 := 8) (pc' := 48) rfl (hb hby d4_8) rfl (flt hlt).2.1 (by decide) (by decide) ?_
        exact k
      exact k48 _ _ _ hv
  have k5_2 : ∀ (i4 : Int32) (hi : i4 = 2) (acc : Int32) (s5 : Slot) (h5 : One s5) (hv : own_D b0 b1 b2 b3 p1 p2 = own_f2 b2 b3 p1 p2 acc), own_G p e below (fun (t : State) (o : Outcome) => t.status = .running ∧ Ended t below o ∧ ∃ v L, o = .returned v ∧ Q4 Z r0 p1 p2 kk b0 b1 b2 b3 h0 n0 v t.heap L ∧ FrameEnd s o t L ({ frames := 0, cells := 0, slots := 0, locals := 0 } : Room).cells ({ frames := 0, cells := 0, slots := 0, locals := 0 } : Room).slots) (s₁.setTop (mkF m 5 #[.val (.ref r0), .val (.int p1), .val (.int p2), .val (.int acc), .val (.int i4), s5] [])) := by
    intro i4 hi acc s5 h5 hv
    subst hi
    refine own_st (B := s₁.setTop (mkF m 8 #[.val (.ref r0), .val (.int p1), .val (.int p2), .val (.int acc), .val (.int (2 : Int32)), s5] [(.int p2), (.int (2 : Int32))])) (fun t k => ?_) ?_
    · show Steps p.tables e below (s₁.setTop (mkF m 5 #[.val (.ref r0), .val (.int p1), .val (.int p2), .val (.int acc), .val (.int (2 : Int32)), s5] [])) _
      refine XS.iload X0.here hx rfl (hb hby d4_5) rfl ?_
      show Steps p.tables e below (s₁.setTop (mkF m 7 #[.val (.ref r0), .val (.int p1), .val (.int p2), .val (.int acc), .val (.int (2 : Int32)), s5] [(.int (2 : Int32))])) _
      refine XS.iloadN X0.here hx rfl (hb hby d4_7) rfl ?_
      exact k
    by_cases hlt : (2 : Int32) < p2
    · rw [own_f2, if_pos hlt] at hv
      refine own_st (B := s₁.setTop (mkF m 14 #[.val (.ref r0), .val (.int p1), .val (.int p2), .val (.int acc), .val (.int (2 : Int32)), s5] [(.int (2 : Int32)), (.ref r0)])) (fun t k => ?_) ?_
      · show Steps p.tables e below (s₁.setTop (mkF m 8 #[.val (.ref r0), .val (.int p1), .val (.int p2), .val (.int acc), .val (.int (2 : Int32)), s5] [(.int p2), (.int (2 : Int32))])) _
        refine XS.icmpNo X0.here hx rfl (hb hby d4_8) rfl (tlt hlt).2.1 ?_
        show Steps p.tables e below (s₁.setTop (mkF m 11 #[.val (.ref r0), .val (.int p1), .val (.int p2), .val (.int acc), .val (.int (2 : Int32)), s5] [])) _
        refine XS.aloadN X0.here hx rfl (hb hby d4_11) rfl rfl ?_
        show Steps p.tables e below (s₁.setTop (mkF m 12 #[.val (.ref r0), .val (.int p1), .val (.int p2), .val (.int acc), .val (.int (2 : Int32)), s5] [(.ref r0)])) _
        refine XS.iload X0.here hx rfl (hb hby d4_12) rfl ?_
        exact k
      obtain ⟨cl2, Ar2, q2, S2, M2, H2, G2⟩ := VA
      have hin2 : ¬ ((2 : Int32) < 0 ∨ cl2.slots.size ≤ ((2 : Int32)).toNatClampNeg) := inb_of S2 ⟨by decide, by decide⟩
      have hat2 : cl2.slots[((2 : Int32)).toNatClampNeg]? = some (.int b2) := H2.at hin2 rfl
      refine own_st (B := s₁.setTop (mkF m 22 #[.val (.ref r0), .val (.int p1), .val (.int p2), .val (.int acc), .val (.int (2 : Int32)), .val (.int (b2 - (48 : Int32)))] [(.int (b2 - (48 : Int32)))])) (fun t k => ?_) ?_
      · show Steps p.tables e below (s₁.setTop (mkF m 14 #[.val (.ref r0), .val (.int p1), .val (.int p2), .val (.int acc), .val (.int (2 : Int32)), s5] [(.int (2 : Int32)), (.ref r0)])) _
        refine X0.baloadBytes hx (j := (2 : Int32)) (v := (.int b2)) (by rw [e0]; exact Ar2.1) (State.isArrayOf_alike hZ.alike Ar2.2.1) Ar2.2.2 hin2 hat2 (g := (mkF m 14 #[.val (.ref r0), .val (.int p1), .val (.int p2), .val (.int acc), .val (.int (2 : Int32)), s5] [(.int (2 : Int32)), (.ref r0)])) rfl rfl (hb hby d4_14) _ ?_
        show Steps p.tables e below (s₁.setTop (mkF m 15 #[.val (.ref r0), .val (.int p1), .val (.int p2), .val (.int acc), .val (.int (2 : Int32)), s5] [(.int b2)])) _
        refine XS.bipush X0.here hx rfl (hb hby d4_15) ?_
        show Steps p.tables e below (s₁.setTop (mkF m 17 #[.val (.ref r0), .val (.int p1), .val (.int p2), .val (.int acc), .val (.int (2 : Int32)), s5] [(.int (48 : Int32)), (.int b2)])) _
        refine XS.isub X0.here hx rfl (hb hby d4_17) rfl ?_
        show Steps p.tables e below (s₁.setTop (mkF m 18 #[.val (.ref r0), .val (.int p1), .val (.int p2), .val (.int acc), .val (.int (2 : Int32)), s5] [(.int (b2 - (48 : Int32)))])) _
        refine XS.istore X0.here hx rfl (hb hby d4_18) rfl (l' := #[.val (.ref r0), .val (.int p1), .val (.int p2), .val (.int acc), .val (.int (2 : Int32)), .val (.int (b2 - (48 : Int32)))]) (os4_18 h5) ?_
        show Steps p.tables e below (s₁.setTop (mkF m 20 #[.val (.ref r0), .val (.int p1), .val (.int p2), .val (.int acc), .val (.int (2 : Int32)), .val (.int (b2 - (48 : Int32)))] [])) _
        refine XS.iload X0.here hx rfl (hb hby d4_20) rfl ?_
        exact k
      by_cases h22 : (b2 - (48 : Int32)) < (0 : Int32)
      · refine own_st (B := s₁.setTop (mkF m 33 #[.val (.ref r0), .val (.int p1), .val (.int p2), .val (.int acc), .val (.int (2 : Int32)), .val (.int (b2 - (48 : Int32)))] [(.int (-1 : Int32))])) (fun t k => ?_) ?_
        · show Steps p.tables e below (s₁.setTop (mkF m 22 #[.val (.ref r0), .val (.int p1), .val (.int p2), .val (.int acc), .val (.int (2 : Int32)), .val (.int (b2 - (48 : Int32)))] [(.int (b2 - (48 : Int32)))])) _
          refine XS.ifYes X0.here hx rfl (pc0 := 22) (pc' := 32) rfl (hb hby d4_22) rfl ((if0 _ _).trans (tlt h22).1) (by decide) (by decide) ?_
          show Steps p.tables e below (s₁.setTop (mkF m 32 #[.val (.ref r0), .val (.int p1), .val (.int p2), .val (.int acc), .val (.int (2 : Int32)), .val (.int (b2 - (48 : Int32)))] [])) _
          refine XS.iconst X0.here hx rfl (hb hby d4_32) ?_
          exact k
        have hb_ : own_bad b2 = true := by simp [own_bad, h22]
        rw [hb_] at hv
        obtain ⟨fs, hr, hrun, hended, hW, hsame⟩ := X0.leave (v := some (.int (-1 : Int32))) (fun h => by rw [Bd.returns] at h; cases h)
        refine ⟨_, _, ?_, hrun, hended, _, _, rfl, ?_, ⟨_, rfl⟩, hW, hsame.mono (by decide) (by decide)⟩
        · exact retOut X0 hx Bd.returns rfl (Or.inl ⟨rfl, by simp, _, rfl⟩) (hb hby d4_33) hr
        · show Q4 Z r0 p1 p2 kk b0 b1 b2 b3 h0 n0 _ s₁.heap _
          rw [e0]
          exact ⟨by rw [hv]; rfl, N0, rfl⟩
      · refine own_st (B := s₁.setTop (mkF m 29 #[.val (.ref r0), .val (.int p1), .val (.int p2), .val (.int acc), .val (.int (2 : Int32)), .val (.int (b2 - (48 : Int32)))] [(.int (9 : Int32)), (.int (b2 - (48 : Int32)))])) (fun t k => ?_) ?_
        · show Steps p.tables e below (s₁.setTop (mkF m 22 #[.val (.ref r0), .val (.int p1), .val (.int p2), .val (.int acc), .val (.int (2 : Int32)), .val (.int (b2 - (48 : Int32)))] [(.int (b2 - (48 : Int32)))])) _
          refine XS.ifNo X0.here hx rfl (hb hby d4_22) rfl ((if0 _ _).trans (flt h22).1) ?_
          show Steps p.tables e below (s₁.setTop (mkF m 25 #[.val (.ref r0), .val (.int p1), .val (.int p2), .val (.int acc), .val (.int (2 : Int32)), .val (.int (b2 - (48 : Int32)))] [])) _
          refine XS.iload X0.here hx rfl (hb hby d4_25) rfl ?_
          show Steps p.tables e below (s₁.setTop (mkF m 27 #[.val (.ref r0), .val (.int p1), .val (.int p2), .val (.int acc), .val (.int (2 : Int32)), .val (.int (b2 - (48 : Int32)))] [(.int (b2 - (48 : Int32)))])) _
          refine XS.bipush X0.here hx rfl (hb hby d4_27) ?_
          exact k
        by_cases h29 : (9 : Int32) < (b2 - (48 : Int32))
        · refine own_st (B := s₁.setTop (mkF m 33 #[.val (.ref r0), .val (.int p1), .val (.int p2), .val (.int acc), .val (.int (2 : Int32)), .val (.int (b2 - (48 : Int32)))] [(.int (-1 : Int32))])) (fun t k => ?_) ?_
          · show Steps p.tables e below (s₁.setTop (mkF m 29 #[.val (.ref r0), .val (.int p1), .val (.int p2), .val (.int acc), .val (.int (2 : Int32)), .val (.int (b2 - (48 : Int32)))] [(.int (9 : Int32)), (.int (b2 - (48 : Int32)))])) _
            refine XS.icmpNo X0.here hx rfl (hb hby d4_29) rfl (tlt h29).2.2.2 ?_
            show Steps p.tables e below (s₁.setTop (mkF m 32 #[.val (.ref r0), .val (.int p1), .val (.int p2), .val (.int acc), .val (.int (2 : Int32)), .val (.int (b2 - (48 : Int32)))] [])) _
            refine XS.iconst X0.here hx rfl (hb hby d4_32) ?_
            exact k
          have hb_ : own_bad b2 = true := by simp [own_bad, h22, h29]
          rw [hb_] at hv
          obtain ⟨fs, hr, hrun, hended, hW, hsame⟩ := X0.leave (v := some (.int (-1 : Int32))) (fun h => by rw [Bd.returns] at h; cases h)
          refine ⟨_, _, ?_, hrun, hended, _, _, rfl, ?_, ⟨_, rfl⟩, hW, hsame.mono (by decide) (by decide)⟩
          · exact retOut X0 hx Bd.returns rfl (Or.inl ⟨rfl, by simp, _, rfl⟩) (hb hby d4_33) hr
          · show Q4 Z r0 p1 p2 kk b0 b1 b2 b3 h0 n0 _ s₁.heap _
            rw [e0]
            exact ⟨by rw [hv]; rfl, N0, rfl⟩
        · have hb_ : own_bad b2 = false := by simp [own_bad, h22, h29]
          rw [hb_] at hv
          refine own_st (B := s₁.setTop (mkF m 5 #[.val (.ref r0), .val (.int p1), .val (.int p2), .val (.int ((acc * (10 : Int32)) + (b2 - (48 : Int32)))), .val (.int ((2 : Int32) + (1 : Int32))), .val (.int (b2 - (48 : Int32)))] [])) (fun t k => ?_) ?_
          · show Steps p.tables e below (s₁.setTop (mkF m 29 #[.val (.ref r0), .val (.int p1), .val (.int p2), .val (.int acc), .val (.int (2 : Int32)), .val (.int (b2 - (48 : Int32)))] [(.int (9 : Int32)), (.int (b2 - (48 : Int32)))])) _
            refine XS.icmpYes X0.here hx rfl (pc0 := 29) (pc' := 34) rfl (hb hby d4_29) rfl (flt h29).2.2.2 (by decide) (by decide) ?_
            show Steps p.tables e below (s₁.setTop (mkF m 34 #[.val (.ref r0), .val (.int p1), .val (.int p2), .val (.int acc), .val (.int (2 : Int32)), .val (.int (b2 - (48 : Int32)))] [])) _
            refine XS.iloadN X0.here hx rfl (hb hby d4_34) rfl ?_
            show Steps p.tables e below (s₁.setTop (mkF m 35 #[.val (.ref r0), .val (.int p1), .val (.int p2), .val (.int acc), .val (.int (2 : Int32)), .val (.int (b2 - (48 : Int32)))] [(.int acc)])) _
            refine XS.bipush X0.here hx rfl (hb hby d4_35) ?_
            show Steps p.tables e below (s₁.setTop (mkF m 37 #[.val (.ref r0), .val (.int p1), .val (.int p2), .val (.int acc), .val (.int (2 : Int32)), .val (.int (b2 - (48 : Int32)))] [(.int (10 : Int32)), (.int acc)])) _
            refine XS.imul X0.here hx rfl (hb hby d4_37) rfl ?_
            show Steps p.tables e below (s₁.setTop (mkF m 38 #[.val (.ref r0), .val (.int p1), .val (.int p2), .val (.int acc), .val (.int (2 : Int32)), .val (.int (b2 - (48 : Int32)))] [(.int (acc * (10 : Int32)))])) _
            refine XS.iload X0.here hx rfl (hb hby d4_38) rfl ?_
            show Steps p.tables e below (s₁.setTop (mkF m 40 #[.val (.ref r0), .val (.int p1), .val (.int p2), .val (.int acc), .val (.int (2 : Int32)), .val (.int (b2 - (48 : Int32)))] [(.int (b2 - (48 : Int32))), (.int (acc * (10 : Int32)))])) _
            refine XS.iadd X0.here hx rfl (hb hby d4_40) rfl ?_
            show Steps p.tables e below (s₁.setTop (mkF m 41 #[.val (.ref r0), .val (.int p1), .val (.int p2), .val (.int acc), .val (.int (2 : Int32)), .val (.int (b2 - (48 : Int32)))] [(.int ((acc * (10 : Int32)) + (b2 - (48 : Int32))))])) _
            refine XS.istoreN X0.here hx rfl (hb hby d4_41) rfl (l' := #[.val (.ref r0), .val (.int p1), .val (.int p2), .val (.int ((acc * (10 : Int32)) + (b2 - (48 : Int32)))), .val (.int (2 : Int32)), .val (.int (b2 - (48 : Int32)))]) rfl ?_
            show Steps p.tables e below (s₁.setTop (mkF m 42 #[.val (.ref r0), .val (.int p1), .val (.int p2), .val (.int ((acc * (10 : Int32)) + (b2 - (48 : Int32)))), .val (.int (2 : Int32)), .val (.int (b2 - (48 : Int32)))] [])) _
            refine XS.iinc X0.here hx rfl (hb hby d4_42) rfl (l' := #[.val (.ref r0), .val (.int p1), .val (.int p2), .val (.int ((acc * (10 : Int32)) + (b2 - (48 : Int32)))), .val (.int ((2 : Int32) + (1 : Int32))), .val (.int (b2 - (48 : Int32)))]) rfl ?_
            show Steps p.tables e below (s₁.setTop (mkF m 45 #[.val (.ref r0), .val (.int p1), .val (.int p2), .val (.int ((acc * (10 : Int32)) + (b2 - (48 : Int32)))), .val (.int ((2 : Int32) + (1 : Int32))), .val (.int (b2 - (48 : Int32)))] [])) _
            refine XS.goto X0.here hx rfl (pc0 := 45) (pc' := 5) rfl (hb hby d4_45) (by decide) (by decide) ?_
            exact k
          exact k5_3 _ (by decide) _ _ (One.val rfl) hv
    · rw [own_f2, if_neg hlt] at hv
      refine own_st (B := s₁.setTop (mkF m 48 #[.val (.ref r0), .val (.int p1), .val (.int p2), .val (.int acc), .val (.int (2 : Int32)), s5] [])) (fun t k => ?_) ?_
      · show Steps p.tables e below (s₁.setTop (mkF m 8 #[.val (.ref r0), .val (.int p1), .val (.int p2), .val (.int acc), .val (.int (2 : Int32)), s5] [(.int p2), (.int (2 : Int32))])) _
        refine XS.icmpYes X0.here hx rfl (pc0 := 8) (pc' := 48) rfl (hb hby d4_8) rfl (flt hlt).2.1 (by decide) (by decide) ?_
        exact k
      exact k48 _ _ _ hv
  have k5_1 : ∀ (i4 : Int32) (hi : i4 = 1) (acc : Int32) (s5 : Slot) (h5 : One s5) (hv : own_D b0 b1 b2 b3 p1 p2 = own_f1 b1 b2 b3 p1 p2 acc), own_G p e below (fun (t : State) (o : Outcome) => t.status = .running ∧ Ended t below o ∧ ∃ v L, o = .returned v ∧ Q4 Z r0 p1 p2 kk b0 b1 b2 b3 h0 n0 v t.heap L ∧ FrameEnd s o t L ({ frames := 0, cells := 0, slots := 0, locals := 0 } : Room).cells ({ frames := 0, cells := 0, slots := 0, locals := 0 } : Room).slots) (s₁.setTop (mkF m 5 #[.val (.ref r0), .val (.int p1), .val (.int p2), .val (.int acc), .val (.int i4), s5] [])) := by
    intro i4 hi acc s5 h5 hv
    subst hi
    refine own_st (B := s₁.setTop (mkF m 8 #[.val (.ref r0), .val (.int p1), .val (.int p2), .val (.int acc), .val (.int (1 : Int32)), s5] [(.int p2), (.int (1 : Int32))])) (fun t k => ?_) ?_
    · show Steps p.tables e below (s₁.setTop (mkF m 5 #[.val (.ref r0), .val (.int p1), .val (.int p2), .val (.int acc), .val (.int (1 : Int32)), s5] [])) _
      refine XS.iload X0.here hx rfl (hb hby d4_5) rfl ?_
      show Steps p.tables e below (s₁.setTop (mkF m 7 #[.val (.ref r0), .val (.int p1), .val (.int p2), .val (.int acc), .val (.int (1 : Int32)), s5] [(.int (1 : Int32))])) _
      refine XS.iloadN X0.here hx rfl (hb hby d4_7) rfl ?_
      exact k
    by_cases hlt : (1 : Int32) < p2
    · rw [own_f1, if_pos hlt] at hv
      refine own_st (B := s₁.setTop (mkF m 14 #[.val (.ref r0), .val (.int p1), .val (.int p2), .val (.int acc), .val (.int (1 : Int32)), s5] [(.int (1 : Int32)), (.ref r0)])) (fun t k => ?_) ?_
      · show Steps p.tables e below (s₁.setTop (mkF m 8 #[.val (.ref r0), .val (.int p1), .val (.int p2), .val (.int acc), .val (.int (1 : Int32)), s5] [(.int p2), (.int (1 : Int32))])) _
        refine XS.icmpNo X0.here hx rfl (hb hby d4_8) rfl (tlt hlt).2.1 ?_
        show Steps p.tables e below (s₁.setTop (mkF m 11 #[.val (.ref r0), .val (.int p1), .val (.int p2), .val (.int acc), .val (.int (1 : Int32)), s5] [])) _
        refine XS.aloadN X0.here hx rfl (hb hby d4_11) rfl rfl ?_
        show Steps p.tables e below (s₁.setTop (mkF m 12 #[.val (.ref r0), .val (.int p1), .val (.int p2), .val (.int acc), .val (.int (1 : Int32)), s5] [(.ref r0)])) _
        refine XS.iload X0.here hx rfl (hb hby d4_12) rfl ?_
        exact k
      obtain ⟨cl3, Ar3, q3, S3, M3, H3, G3⟩ := VA
      have hin3 : ¬ ((1 : Int32) < 0 ∨ cl3.slots.size ≤ ((1 : Int32)).toNatClampNeg) := inb_of S3 ⟨by decide, by decide⟩
      have hat3 : cl3.slots[((1 : Int32)).toNatClampNeg]? = some (.int b1) := H3.at hin3 rfl
      refine own_st (B := s₁.setTop (mkF m 22 #[.val (.ref r0), .val (.int p1), .val (.int p2), .val (.int acc), .val (.int (1 : Int32)), .val (.int (b1 - (48 : Int32)))] [(.int (b1 - (48 : Int32)))])) (fun t k => ?_) ?_
      · show Steps p.tables e below (s₁.setTop (mkF m 14 #[.val (.ref r0), .val (.int p1), .val (.int p2), .val (.int acc), .val (.int (1 : Int32)), s5] [(.int (1 : Int32)), (.ref r0)])) _
        refine X0.baloadBytes hx (j := (1 : Int32)) (v := (.int b1)) (by rw [e0]; exact Ar3.1) (State.isArrayOf_alike hZ.alike Ar3.2.1) Ar3.2.2 hin3 hat3 (g := (mkF m 14 #[.val (.ref r0), .val (.int p1), .val (.int p2), .val (.int acc), .val (.int (1 : Int32)), s5] [(.int (1 : Int32)), (.ref r0)])) rfl rfl (hb hby d4_14) _ ?_
        show Steps p.tables e below (s₁.setTop (mkF m 15 #[.val (.ref r0), .val (.int p1), .val (.int p2), .val (.int acc), .val (.int (1 : Int32)), s5] [(.int b1)])) _
        refine XS.bipush X0.here hx rfl (hb hby d4_15) ?_
        show Steps p.tables e below (s₁.setTop (mkF m 17 #[.val (.ref r0), .val (.int p1), .val (.int p2), .val (.int acc), .val (.int (1 : Int32)), s5] [(.int (48 : Int32)), (.int b1)])) _
        refine XS.isub X0.here hx rfl (hb hby d4_17) rfl ?_
        show Steps p.tables e below (s₁.setTop (mkF m 18 #[.val (.ref r0), .val (.int p1), .val (.int p2), .val (.int acc), .val (.int (1 : Int32)), s5] [(.int (b1 - (48 : Int32)))])) _
        refine XS.istore X0.here hx rfl (hb hby d4_18) rfl (l' := #[.val (.ref r0), .val (.int p1), .val (.int p2), .val (.int acc), .val (.int (1 : Int32)), .val (.int (b1 - (48 : Int32)))]) (os4_18 h5) ?_
        show Steps p.tables e below (s₁.setTop (mkF m 20 #[.val (.ref r0), .val (.int p1), .val (.int p2), .val (.int acc), .val (.int (1 : Int32)), .val (.int (b1 - (48 : Int32)))] [])) _
        refine XS.iload X0.here hx rfl (hb hby d4_20) rfl ?_
        exact k
      by_cases h22 : (b1 - (48 : Int32)) < (0 : Int32)
      · refine own_st (B := s₁.setTop (mkF m 33 #[.val (.ref r0), .val (.int p1), .val (.int p2), .val (.int acc), .val (.int (1 : Int32)), .val (.int (b1 - (48 : Int32)))] [(.int (-1 : Int32))])) (fun t k => ?_) ?_
        · show Steps p.tables e below (s₁.setTop (mkF m 22 #[.val (.ref r0), .val (.int p1), .val (.int p2), .val (.int acc), .val (.int (1 : Int32)), .val (.int (b1 - (48 : Int32)))] [(.int (b1 - (48 : Int32)))])) _
          refine XS.ifYes X0.here hx rfl (pc0 := 22) (pc' := 32) rfl (hb hby d4_22) rfl ((if0 _ _).trans (tlt h22).1) (by decide) (by decide) ?_
          show Steps p.tables e below (s₁.setTop (mkF m 32 #[.val (.ref r0), .val (.int p1), .val (.int p2), .val (.int acc), .val (.int (1 : Int32)), .val (.int (b1 - (48 : Int32)))] [])) _
          refine XS.iconst X0.here hx rfl (hb hby d4_32) ?_
          exact k
        have hb_ : own_bad b1 = true := by simp [own_bad, h22]
        rw [hb_] at hv
        obtain ⟨fs, hr, hrun, hended, hW, hsame⟩ := X0.leave (v := some (.int (-1 : Int32))) (fun h => by rw [Bd.returns] at h; cases h)
        refine ⟨_, _, ?_, hrun, hended, _, _, rfl, ?_, ⟨_, rfl⟩, hW, hsame.mono (by decide) (by decide)⟩
        · exact retOut X0 hx Bd.returns rfl (Or.inl ⟨rfl, by simp, _, rfl⟩) (hb hby d4_33) hr
        · show Q4 Z r0 p1 p2 kk b0 b1 b2 b3 h0 n0 _ s₁.heap _
          rw [e0]
          exact ⟨by rw [hv]; rfl, N0, rfl⟩
      · refine own_st (B := s₁.setTop (mkF m 29 #[.val (.ref r0), .val (.int p1), .val (.int p2), .val (.int acc), .val (.int (1 : Int32)), .val (.int (b1 - (48 : Int32)))] [(.int (9 : Int32)), (.int (b1 - (48 : Int32)))])) (fun t k => ?_) ?_
        · show Steps p.tables e below (s₁.setTop (mkF m 22 #[.val (.ref r0), .val (.int p1), .val (.int p2), .val (.int acc), .val (.int (1 : Int32)), .val (.int (b1 - (48 : Int32)))] [(.int (b1 - (48 : Int32)))])) _
          refine XS.ifNo X0.here hx rfl (hb hby d4_22) rfl ((if0 _ _).trans (flt h22).1) ?_
          show Steps p.tables e below (s₁.setTop (mkF m 25 #[.val (.ref r0), .val (.int p1), .val (.int p2), .val (.int acc), .val (.int (1 : Int32)), .val (.int (b1 - (48 : Int32)))] [])) _
          refine XS.iload X0.here hx rfl (hb hby d4_25) rfl ?_
          show Steps p.tables e below (s₁.setTop (mkF m 27 #[.val (.ref r0), .val (.int p1), .val (.int p2), .val (.int acc), .val (.int (1 : Int32)), .val (.int (b1 - (48 : Int32)))] [(.int (b1 - (48 : Int32)))])) _
          refine XS.bipush X0.here hx rfl (hb hby d4_27) ?_
          exact k
        by_cases h29 : (9 : Int32) < (b1 - (48 : Int32))
        · refine own_st (B := s₁.setTop (mkF m 33 #[.val (.ref r0), .val (.int p1), .val (.int p2), .val (.int acc), .val (.int (1 : Int32)), .val (.int (b1 - (48 : Int32)))] [(.int (-1 : Int32))])) (fun t k => ?_) ?_
          · show Steps p.tables e below (s₁.setTop (mkF m 29 #[.val (.ref r0), .val (.int p1), .val (.int p2), .val (.int acc), .val (.int (1 : Int32)), .val (.int (b1 - (48 : Int32)))] [(.int (9 : Int32)), (.int (b1 - (48 : Int32)))])) _
            refine XS.icmpNo X0.here hx rfl (hb hby d4_29) rfl (tlt h29).2.2.2 ?_
            show Steps p.tables e below (s₁.setTop (mkF m 32 #[.val (.ref r0), .val (.int p1), .val (.int p2), .val (.int acc), .val (.int (1 : Int32)), .val (.int (b1 - (48 : Int32)))] [])) _
            refine XS.iconst X0.here hx rfl (hb hby d4_32) ?_
            exact k
          have hb_ : own_bad b1 = true := by simp [own_bad, h22, h29]
          rw [hb_] at hv
          obtain ⟨fs, hr, hrun, hended, hW, hsame⟩ := X0.leave (v := some (.int (-1 : Int32))) (fun h => by rw [Bd.returns] at h; cases h)
          refine ⟨_, _, ?_, hrun, hended, _, _, rfl, ?_, ⟨_, rfl⟩, hW, hsame.mono (by decide) (by decide)⟩
          · exact retOut X0 hx Bd.returns rfl (Or.inl ⟨rfl, by simp, _, rfl⟩) (hb hby d4_33) hr
          · show Q4 Z r0 p1 p2 kk b0 b1 b2 b3 h0 n0 _ s₁.heap _
            rw [e0]
            exact ⟨by rw [hv]; rfl, N0, rfl⟩
        · have hb_ : own_bad b1 = false := by simp [own_bad, h22, h29]
          rw [hb_] at hv
          refine own_st (B := s₁.setTop (mkF m 5 #[.val (.ref r0), .val (.int p1), .val (.int p2), .val (.int ((acc * (10 : Int32)) + (b1 - (48 : Int32)))), .val (.int ((1 : Int32) + (1 : Int32))), .val (.int (b1 - (48 : Int32)))] [])) (fun t k => ?_) ?_
          · show Steps p.tables e below (s₁.setTop (mkF m 29 #[.val (.ref r0), .val (.int p1), .val (.int p2), .val (.int acc), .val (.int (1 : Int32)), .val (.int (b1 - (48 : Int32)))] [(.int (9 : Int32)), (.int (b1 - (48 : Int32)))])) _
            refine XS.icmpYes X0.here hx rfl (pc0 := 29) (pc' := 34) rfl (hb hby d4_29) rfl (flt h29).2.2.2 (by decide) (by decide) ?_
            show Steps p.tables e below (s₁.setTop (mkF m 34 #[.val (.ref r0), .val (.int p1), .val (.int p2), .val (.int acc), .val (.int (1 : Int32)), .val (.int (b1 - (48 : Int32)))] [])) _
            refine XS.iloadN X0.here hx rfl (hb hby d4_34) rfl ?_
            show Steps p.tables e below (s₁.setTop (mkF m 35 #[.val (.ref r0), .val (.int p1), .val (.int p2), .val (.int acc), .val (.int (1 : Int32)), .val (.int (b1 - (48 : Int32)))] [(.int acc)])) _
            refine XS.bipush X0.here hx rfl (hb hby d4_35) ?_
            show Steps p.tables e below (s₁.setTop (mkF m 37 #[.val (.ref r0), .val (.int p1), .val (.int p2), .val (.int acc), .val (.int (1 : Int32)), .val (.int (b1 - (48 : Int32)))] [(.int (10 : Int32)), (.int acc)])) _
            refine XS.imul X0.here hx rfl (hb hby d4_37) rfl ?_
            show Steps p.tables e below (s₁.setTop (mkF m 38 #[.val (.ref r0), .val (.int p1), .val (.int p2), .val (.int acc), .val (.int (1 : Int32)), .val (.int (b1 - (48 : Int32)))] [(.int (acc * (10 : Int32)))])) _
            refine XS.iload X0.here hx rfl (hb hby d4_38) rfl ?_
            show Steps p.tables e below (s₁.setTop (mkF m 40 #[.val (.ref r0), .val (.int p1), .val (.int p2), .val (.int acc), .val (.int (1 : Int32)), .val (.int (b1 - (48 : Int32)))] [(.int (b1 - (48 : Int32))), (.int (acc * (10 : Int32)))])) _
            refine XS.iadd X0.here hx rfl (hb hby d4_40) rfl ?_
            show Steps p.tables e below (s₁.setTop (mkF m 41 #[.val (.ref r0), .val (.int p1), .val (.int p2), .val (.int acc), .val (.int (1 : Int32)), .val (.int (b1 - (48 : Int32)))] [(.int ((acc * (10 : Int32)) + (b1 - (48 : Int32))))])) _
            refine XS.istoreN X0.here hx rfl (hb hby d4_41) rfl (l' := #[.val (.ref r0), .val (.int p1), .val (.int p2), .val (.int ((acc * (10 : Int32)) + (b1 - (48 : Int32)))), .val (.int (1 : Int32)), .val (.int (b1 - (48 : Int32)))]) rfl ?_
            show Steps p.tables e below (s₁.setTop (mkF m 42 #[.val (.ref r0), .val (.int p1), .val (.int p2), .val (.int ((acc * (10 : Int32)) + (b1 - (48 : Int32)))), .val (.int (1 : Int32)), .val (.int (b1 - (48 : Int32)))] [])) _
            refine XS.iinc X0.here hx rfl (hb hby d4_42) rfl (l' := #[.val (.ref r0), .val (.int p1), .val (.int p2), .val (.int ((acc * (10 : Int32)) + (b1 - (48 : Int32)))), .val (.int ((1 : Int32) + (1 : Int32))), .val (.int (b1 - (48 : Int32)))]) rfl ?_
            show Steps p.tables e below (s₁.setTop (mkF m 45 #[.val (.ref r0), .val (.int p1), .val (.int p2), .val (.int ((acc * (10 : Int32)) + (b1 - (48 : Int32)))), .val (.int ((1 : Int32) + (1 : Int32))), .val (.int (b1 - (48 : Int32)))] [])) _
            refine XS.goto X0.here hx rfl (pc0 := 45) (pc' := 5) rfl (hb hby d4_45) (by decide) (by decide) ?_
            exact k
          exact k5_2 _ (by decide) _ _ (One.val rfl) hv
    · rw [own_f1, if_neg hlt] at hv
      refine own_st (B := s₁.setTop (mkF m 48 #[.val (.ref r0), .val (.int p1), .val (.int p2), .val (.int acc), .val (.int (1 : Int32)), s5] [])) (fun t k => ?_) ?_
      · show Steps p.tables e below (s₁.setTop (mkF m 8 #[.val (.ref r0), .val (.int p1), .val (.int p2), .val (.int acc), .val (.int (1 : Int32)), s5] [(.int p2), (.int (1 : Int32))])) _
        refine XS.icmpYes X0.here hx rfl (pc0 := 8) (pc' := 48) rfl (hb hby d4_8) rfl (flt hlt).2.1 (by decide) (by decide) ?_
        exact k
      exact k48 _ _ _ hv
  have k5_0 : ∀ (i4 : Int32) (hi : i4 = 0) (acc : Int32) (s5 : Slot) (h5 : One s5) (hv : own_D b0 b1 b2 b3 p1 p2 = own_f0 b0 b1 b2 b3 p1 p2 acc), own_G p e below (fun (t : State) (o : Outcome) => t.status = .running ∧ Ended t below o ∧ ∃ v L, o = .returned v ∧ Q4 Z r0 p1 p2 kk b0 b1 b2 b3 h0 n0 v t.heap L ∧ FrameEnd s o t L ({ frames := 0, cells := 0, slots := 0, locals := 0 } : Room).cells ({ frames := 0, cells := 0, slots := 0, locals := 0 } : Room).slots) (s₁.setTop (mkF m 5 #[.val (.ref r0), .val (.int p1), .val (.int p2), .val (.int acc), .val (.int i4), s5] [])) := by
    intro i4 hi acc s5 h5 hv
    subst hi
    refine own_st (B := s₁.setTop (mkF m 8 #[.val (.ref r0), .val (.int p1), .val (.int p2), .val (.int acc), .val (.int (0 : Int32)), s5] [(.int p2), (.int (0 : Int32))])) (fun t k => ?_) ?_
    · show Steps p.tables e below (s₁.setTop (mkF m 5 #[.val (.ref r0), .val (.int p1), .val (.int p2), .val (.int acc), .val (.int (0 : Int32)), s5] [])) _
      refine XS.iload X0.here hx rfl (hb hby d4_5) rfl ?_
      show Steps p.tables e below (s₁.setTop (mkF m 7 #[.val (.ref r0), .val (.int p1), .val (.int p2), .val (.int acc), .val (.int (0 : Int32)), s5] [(.int (0 : Int32))])) _
      refine XS.iloadN X0.here hx rfl (hb hby d4_7) rfl ?_
      exact k
    by_cases hlt : (0 : Int32) < p2
    · rw [own_f0, if_pos hlt] at hv
      refine own_st (B := s₁.setTop (mkF m 14 #[.val (.ref r0), .val (.int p1), .val (.int p2), .val (.int acc), .val (.int (0 : Int32)), s5] [(.int (0 : Int32)), (.ref r0)])) (fun t k => ?_) ?_
      · show Steps p.tables e below (s₁.setTop (mkF m 8 #[.val (.ref r0), .val (.int p1), .val (.int p2), .val (.int acc), .val (.int (0 : Int32)), s5] [(.int p2), (.int (0 : Int32))])) _
        refine XS.icmpNo X0.here hx rfl (hb hby d4_8) rfl (tlt hlt).2.1 ?_
        show Steps p.tables e below (s₁.setTop (mkF m 11 #[.val (.ref r0), .val (.int p1), .val (.int p2), .val (.int acc), .val (.int (0 : Int32)), s5] [])) _
        refine XS.aloadN X0.here hx rfl (hb hby d4_11) rfl rfl ?_
        show Steps p.tables e below (s₁.setTop (mkF m 12 #[.val (.ref r0), .val (.int p1), .val (.int p2), .val (.int acc), .val (.int (0 : Int32)), s5] [(.ref r0)])) _
        refine XS.iload X0.here hx rfl (hb hby d4_12) rfl ?_
        exact k
      obtain ⟨cl4, Ar4, q4, S4, M4, H4, G4⟩ := VA
      have hin4 : ¬ ((0 : Int32) < 0 ∨ cl4.slots.size ≤ ((0 : Int32)).toNatClampNeg) := inb_of S4 ⟨by decide, by decide⟩
      have hat4 : cl4.slots[((0 : Int32)).toNatClampNeg]? = some (.int b0) := H4.at hin4 rfl
      refine own_st (B := s₁.setTop (mkF m 22 #[.val (.ref r0), .val (.int p1), .val (.int p2), .val (.int acc), .val (.int (0 : Int32)), .val (.int (b0 - (48 : Int32)))] [(.int (b0 - (48 : Int32)))])) (fun t k => ?_) ?_
      · show Steps p.tables e below (s₁.setTop (mkF m 14 #[.val (.ref r0), .val (.int p1), .val (.int p2), .val (.int acc), .val (.int (0 : Int32)), s5] [(.int (0 : Int32)), (.ref r0)])) _
        refine X0.baloadBytes hx (j := (0 : Int32)) (v := (.int b0)) (by rw [e0]; exact Ar4.1) (State.isArrayOf_alike hZ.alike Ar4.2.1) Ar4.2.2 hin4 hat4 (g := (mkF m 14 #[.val (.ref r0), .val (.int p1), .val (.int p2), .val (.int acc), .val (.int (0 : Int32)), s5] [(.int (0 : Int32)), (.ref r0)])) rfl rfl (hb hby d4_14) _ ?_
        show Steps p.tables e below (s₁.setTop (mkF m 15 #[.val (.ref r0), .val (.int p1), .val (.int p2), .val (.int acc), .val (.int (0 : Int32)), s5] [(.int b0)])) _
        refine XS.bipush X0.here hx rfl (hb hby d4_15) ?_
        show Steps p.tables e below (s₁.setTop (mkF m 17 #[.val (.ref r0), .val (.int p1), .val (.int p2), .val (.int acc), .val (.int (0 : Int32)), s5] [(.int (48 : Int32)), (.int b0)])) _
        refine XS.isub X0.here hx rfl (hb hby d4_17) rfl ?_
        show Steps p.tables e below (s₁.setTop (mkF m 18 #[.val (.ref r0), .val (.int p1), .val (.int p2), .val (.int acc), .val (.int (0 : Int32)), s5] [(.int (b0 - (48 : Int32)))])) _
        refine XS.istore X0.here hx rfl (hb hby d4_18) rfl (l' := #[.val (.ref r0), .val (.int p1), .val (.int p2), .val (.int acc), .val (.int (0 : Int32)), .val (.int (b0 - (48 : Int32)))]) (os4_18 h5) ?_
        show Steps p.tables e below (s₁.setTop (mkF m 20 #[.val (.ref r0), .val (.int p1), .val (.int p2), .val (.int acc), .val (.int (0 : Int32)), .val (.int (b0 - (48 : Int32)))] [])) _
        refine XS.iload X0.here hx rfl (hb hby d4_20) rfl ?_
        exact k
      by_cases h22 : (b0 - (48 : Int32)) < (0 : Int32)
      · refine own_st (B := s₁.setTop (mkF m 33 #[.val (.ref r0), .val (.int p1), .val (.int p2), .val (.int acc), .val (.int (0 : Int32)), .val (.int (b0 - (48 : Int32)))] [(.int (-1 : Int32))])) (fun t k => ?_) ?_
        · show Steps p.tables e below (s₁.setTop (mkF m 22 #[.val (.ref r0), .val (.int p1), .val (.int p2), .val (.int acc), .val (.int (0 : Int32)), .val (.int (b0 - (48 : Int32)))] [(.int (b0 - (48 : Int32)))])) _
          refine XS.ifYes X0.here hx rfl (pc0 := 22) (pc' := 32) rfl (hb hby d4_22) rfl ((if0 _ _).trans (tlt h22).1) (by decide) (by decide) ?_
          show Steps p.tables e below (s₁.setTop (mkF m 32 #[.val (.ref r0), .val (.int p1), .val (.int p2), .val (.int acc), .val (.int (0 : Int32)), .val (.int (b0 - (48 : Int32)))] [])) _
          refine XS.iconst X0.here hx rfl (hb hby d4_32) ?_
          exact k
        have hb_ : own_bad b0 = true := by simp [own_bad, h22]
        rw [hb_] at hv
        obtain ⟨fs, hr, hrun, hended, hW, hsame⟩ := X0.leave (v := some (.int (-1 : Int32))) (fun h => by rw [Bd.returns] at h; cases h)
        refine ⟨_, _, ?_, hrun, hended, _, _, rfl, ?_, ⟨_, rfl⟩, hW, hsame.mono (by decide) (by decide)⟩
        · exact retOut X0 hx Bd.returns rfl (Or.inl ⟨rfl, by simp, _, rfl⟩) (hb hby d4_33) hr
        · show Q4 Z r0 p1 p2 kk b0 b1 b2 b3 h0 n0 _ s₁.heap _
          rw [e0]
          exact ⟨by rw [hv]; rfl, N0, rfl⟩
      · refine own_st (B := s₁.setTop (mkF m 29 #[.val (.ref r0), .val (.int p1), .val (.int p2), .val (.int acc), .val (.int (0 : Int32)), .val (.int (b0 - (48 : Int32)))] [(.int (9 : Int32)), (.int (b0 - (48 : Int32)))])) (fun t k => ?_) ?_
        · show Steps p.tables e below (s₁.setTop (mkF m 22 #[.val (.ref r0), .val (.int p1), .val (.int p2), .val (.int acc), .val (.int (0 : Int32)), .val (.int (b0 - (48 : Int32)))] [(.int (b0 - (48 : Int32)))])) _
          refine XS.ifNo X0.here hx rfl (hb hby d4_22) rfl ((if0 _ _).trans (flt h22).1) ?_
          show Steps p.tables e below (s₁.setTop (mkF m 25 #[.val (.ref r0), .val (.int p1), .val (.int p2), .val (.int acc), .val (.int (0 : Int32)), .val (.int (b0 - (48 : Int32)))] [])) _
          refine XS.iload X0.here hx rfl (hb hby d4_25) rfl ?_
          show Steps p.tables e below (s₁.setTop (mkF m 27 #[.val (.ref r0), .val (.int p1), .val (.int p2), .val (.int acc), .val (.int (0 : Int32)), .val (.int (b0 - (48 : Int32)))] [(.int (b0 - (48 : Int32)))])) _
          refine XS.bipush X0.here hx rfl (hb hby d4_27) ?_
          exact k
        by_cases h29 : (9 : Int32) < (b0 - (48 : Int32))
        · refine own_st (B := s₁.setTop (mkF m 33 #[.val (.ref r0), .val (.int p1), .val (.int p2), .val (.int acc), .val (.int (0 : Int32)), .val (.int (b0 - (48 : Int32)))] [(.int (-1 : Int32))])) (fun t k => ?_) ?_
          · show Steps p.tables e below (s₁.setTop (mkF m 29 #[.val (.ref r0), .val (.int p1), .val (.int p2), .val (.int acc), .val (.int (0 : Int32)), .val (.int (b0 - (48 : Int32)))] [(.int (9 : Int32)), (.int (b0 - (48 : Int32)))])) _
            refine XS.icmpNo X0.here hx rfl (hb hby d4_29) rfl (tlt h29).2.2.2 ?_
            show Steps p.tables e below (s₁.setTop (mkF m 32 #[.val (.ref r0), .val (.int p1), .val (.int p2), .val (.int acc), .val (.int (0 : Int32)), .val (.int (b0 - (48 : Int32)))] [])) _
            refine XS.iconst X0.here hx rfl (hb hby d4_32) ?_
            exact k
          have hb_ : own_bad b0 = true := by simp [own_bad, h22, h29]
          rw [hb_] at hv
          obtain ⟨fs, hr, hrun, hended, hW, hsame⟩ := X0.leave (v := some (.int (-1 : Int32))) (fun h => by rw [Bd.returns] at h; cases h)
          refine ⟨_, _, ?_, hrun, hended, _, _, rfl, ?_, ⟨_, rfl⟩, hW, hsame.mono (by decide) (by decide)⟩
          · exact retOut X0 hx Bd.returns rfl (Or.inl ⟨rfl, by simp, _, rfl⟩) (hb hby d4_33) hr
          · show Q4 Z r0 p1 p2 kk b0 b1 b2 b3 h0 n0 _ s₁.heap _
            rw [e0]
            exact ⟨by rw [hv]; rfl, N0, rfl⟩
        · have hb_ : own_bad b0 = false := by simp [own_bad, h22, h29]
          rw [hb_] at hv
          refine own_st (B := s₁.setTop (mkF m 5 #[.val (.ref r0), .val (.int p1), .val (.int p2), .val (.int ((acc * (10 : Int32)) + (b0 - (48 : Int32)))), .val (.int ((0 : Int32) + (1 : Int32))), .val (.int (b0 - (48 : Int32)))] [])) (fun t k => ?_) ?_
          · show Steps p.tables e below (s₁.setTop (mkF m 29 #[.val (.ref r0), .val (.int p1), .val (.int p2), .val (.int acc), .val (.int (0 : Int32)), .val (.int (b0 - (48 : Int32)))] [(.int (9 : Int32)), (.int (b0 - (48 : Int32)))])) _
            refine XS.icmpYes X0.here hx rfl (pc0 := 29) (pc' := 34) rfl (hb hby d4_29) rfl (flt h29).2.2.2 (by decide) (by decide) ?_
            show Steps p.tables e below (s₁.setTop (mkF m 34 #[.val (.ref r0), .val (.int p1), .val (.int p2), .val (.int acc), .val (.int (0 : Int32)), .val (.int (b0 - (48 : Int32)))] [])) _
            refine XS.iloadN X0.here hx rfl (hb hby d4_34) rfl ?_
            show Steps p.tables e below (s₁.setTop (mkF m 35 #[.val (.ref r0), .val (.int p1), .val (.int p2), .val (.int acc), .val (.int (0 : Int32)), .val (.int (b0 - (48 : Int32)))] [(.int acc)])) _
            refine XS.bipush X0.here hx rfl (hb hby d4_35) ?_
            show Steps p.tables e below (s₁.setTop (mkF m 37 #[.val (.ref r0), .val (.int p1), .val (.int p2), .val (.int acc), .val (.int (0 : Int32)), .val (.int (b0 - (48 : Int32)))] [(.int (10 : Int32)), (.int acc)])) _
            refine XS.imul X0.here hx rfl (hb hby d4_37) rfl ?_
            show Steps p.tables e below (s₁.setTop (mkF m 38 #[.val (.ref r0), .val (.int p1), .val (.int p2), .val (.int acc), .val (.int (0 : Int32)), .val (.int (b0 - (48 : Int32)))] [(.int (acc * (10 : Int32)))])) _
            refine XS.iload X0.here hx rfl (hb hby d4_38) rfl ?_
            show Steps p.tables e below (s₁.setTop (mkF m 40 #[.val (.ref r0), .val (.int p1), .val (.int p2), .val (.int acc), .val (.int (0 : Int32)), .val (.int (b0 - (48 : Int32)))] [(.int (b0 - (48 : Int32))), (.int (acc * (10 : Int32)))])) _
            refine XS.iadd X0.here hx rfl (hb hby d4_40) rfl ?_
            show Steps p.tables e below (s₁.setTop (mkF m 41 #[.val (.ref r0), .val (.int p1), .val (.int p2), .val (.int acc), .val (.int (0 : Int32)), .val (.int (b0 - (48 : Int32)))] [(.int ((acc * (10 : Int32)) + (b0 - (48 : Int32))))])) _
            refine XS.istoreN X0.here hx rfl (hb hby d4_41) rfl (l' := #[.val (.ref r0), .val (.int p1), .val (.int p2), .val (.int ((acc * (10 : Int32)) + (b0 - (48 : Int32)))), .val (.int (0 : Int32)), .val (.int (b0 - (48 : Int32)))]) rfl ?_
            show Steps p.tables e below (s₁.setTop (mkF m 42 #[.val (.ref r0), .val (.int p1), .val (.int p2), .val (.int ((acc * (10 : Int32)) + (b0 - (48 : Int32)))), .val (.int (0 : Int32)), .val (.int (b0 - (48 : Int32)))] [])) _
            refine XS.iinc X0.here hx rfl (hb hby d4_42) rfl (l' := #[.val (.ref r0), .val (.int p1), .val (.int p2), .val (.int ((acc * (10 : Int32)) + (b0 - (48 : Int32)))), .val (.int ((0 : Int32) + (1 : Int32))), .val (.int (b0 - (48 : Int32)))]) rfl ?_
            show Steps p.tables e below (s₁.setTop (mkF m 45 #[.val (.ref r0), .val (.int p1), .val (.int p2), .val (.int ((acc * (10 : Int32)) + (b0 - (48 : Int32)))), .val (.int ((0 : Int32) + (1 : Int32))), .val (.int (b0 - (48 : Int32)))] [])) _
            refine XS.goto X0.here hx rfl (pc0 := 45) (pc' := 5) rfl (hb hby d4_45) (by decide) (by decide) ?_
            exact k
          exact k5_1 _ (by decide) _ _ (One.val rfl) hv
    · rw [own_f0, if_neg hlt] at hv
      refine own_st (B := s₁.setTop (mkF m 48 #[.val (.ref r0), .val (.int p1), .val (.int p2), .val (.int acc), .val (.int (0 : Int32)), s5] [])) (fun t k => ?_) ?_
      · show Steps p.tables e below (s₁.setTop (mkF m 8 #[.val (.ref r0), .val (.int p1), .val (.int p2), .val (.int acc), .val (.int (0 : Int32)), s5] [(.int p2), (.int (0 : Int32))])) _
        refine XS.icmpYes X0.here hx rfl (pc0 := 8) (pc' := 48) rfl (hb hby d4_8) rfl (flt hlt).2.1 (by decide) (by decide) ?_
        exact k
      exact k48 _ _ _ hv
  rcases hf with h | h | h | h | h
  · exact k5_0 p1 h 0 .unset One.u (by simp [own_D, h])
  · exact k5_1 p1 h 0 .unset One.u (by simp [own_D, h])
  · exact k5_2 p1 h 0 .unset One.u (by simp [own_D, h])
  · exact k5_3 p1 h 0 .unset One.u (by simp [own_D, h])
  · exact k5_4 p1 h 0 .unset One.u (by simp [own_D, h])
theorem ef_0 (m : MethodId) (x0 : Int32) (x1 : Int32) (x2 : Int32) (x3 : Int32) (x4 : Int32) : entryFrame m #[(.int x0), (.int x1), (.int x2), (.int x3), (.int x4)] maxLocals = mkF m 0 #[.val (.int x0), .val (.int x1), .val (.int x2), .val (.int x3), .val (.int x4), .unset, .unset, .unset, .unset, .unset, .unset, .unset, .unset, .unset] [] := by first | (simp [entryFrame, mkF, argsToLocals, Value.category, maxLocals]; done) | rfl
def Q0 (Z : State) (p0 : Int32) (p1 : Int32) (p2 : Int32) (p3 : Int32) (rr : Int32) (h0 : Heap) (n0 : Nat) (v : Option Value) (h : Heap) (L : List Loc) : Prop := v = some (.int (1 : Int32)) ∧ Fr n0 L
theorem pd_1 : parseMethodDescriptor "(I)B" = some ⟨[.int], some .byte⟩ := by decide +kernel
theorem pd_2 : parseMethodDescriptor "(B)I" = some ⟨[.byte], some .int⟩ := by decide +kernel
theorem pd_3 : parseMethodDescriptor "([BII)I" = some ⟨[(.array .byte), .int, .int], some .int⟩ := by decide +kernel
theorem pd_4 : parseMethodDescriptor "(IIII)I" = some ⟨[.int, .int, .int, .int], some .int⟩ := by decide +kernel
theorem pd_5 : parseMethodDescriptor "(IIII)Z" = some ⟨[.int, .int, .int, .int], some .boolean⟩ := by decide +kernel
set_option maxRecDepth 65536 in
set_option maxHeartbeats 40000000 in
theorem rm0 (l : Launch) (Z : State) (a0 : Array Value) (hw : ∀ d ∈ tables_1, d.before a0 Z = true) (ws : List Jvm.Cond) (p0 : Int32) (p1 : Int32) (p2 : Int32) (p3 : Int32) (rr : Int32) (h0 : Heap) (n0 : Nat) (Z0 : n0 ≤ h0.size) :
    MetFree l x (head1 (Jvm.Cond.code x code maxLocals ret :: ws) room_1) (fun a U => a = #[(.int p0), (.int p1), (.int p2), (.int p3), (.int rr)] ∧ Z.Warmed39 U.vm ∧ U.heap = h0) (fun _ _ _ _ _ => True) (fun _ U o U' => ∃ v L, o = .returned v ∧ Q0 Z p0 p1 p2 p3 rr h0 n0 v U'.heap L ∧ FrameEnd U o U' L room_1.cells room_1.slots) := by
  refine MetFree.of_bodySF (plainFor_of_name pn_1) hisR ?_
  intro p e s m args below meth c s₁ Bd hml0 hP hK
  obtain ⟨rfl, hZ, hh⟩ := hP
  have hx := Bd.exec
  have hby := Bd.bytes
  have hml : c.maxLocals = 14 := hml0
  have hown : s.vm.findClass "com/example/hour_ending/hourending/prices/PriceLayoutDigitsPinLaw" = some m.cls := findClass_of_methodNamed Bd.named
  have hnm := (name_of_methodNamed Bd.named Bd.method).1
  have X0 : Stand p l e room_1 s m #[(.int p0), (.int p1), (.int p2), (.int p3), (.int rr)] below meth c s₁ [] 0 0 := Stand.of_body Bd
  have e0 : s₁.heap = h0 := by rw [← hh, Bd.state]; rfl
  have N0 := Fr.nil n0
  show own_G p e below (fun (t : State) (o : Outcome) => t.status = .running ∧ Ended t below o ∧ ∃ v L, o = .returned v ∧ Q0 Z p0 p1 p2 p3 rr h0 n0 v t.heap L ∧ FrameEnd s o t L room_1.cells room_1.slots) (s₁.setTop (entryFrame m #[(.int p0), (.int p1), (.int p2), (.int p3), (.int rr)] maxLocals))
  rw [ef_0 m p0 p1 p2 p3 rr]
  refine own_st (B := s₁.setTop (mkF m 1 #[.val (.int p0), .val (.int p1), .val (.int p2), .val (.int p3), .val (.int rr), .unset, .unset, .unset, .unset, .unset, .unset, .unset, .unset, .unset] [(.int (4 : Int32))])) (fun t k => ?_) ?_
  · show Steps p.tables e below (s₁.setTop (mkF m 0 #[.val (.int p0), .val (.int p1), .val (.int p2), .val (.int p3), .val (.int rr), .unset, .unset, .unset, .unset, .unset, .unset, .unset, .unset, .unset] [])) _
    refine XS.iconst X0.here hx rfl (hb hby at_0) ?_
    exact k
  obtain ⟨T1, h1, k1, X1, e1, E1, A1, st1⟩ := newP X0 hx hZ (hw _ (List.mem_of_getElem? (i := 0) rfl)) e0 (g := (mkF m 1 #[.val (.int p0), .val (.int p1), .val (.int p2), .val (.int p3), .val (.int rr), .unset, .unset, .unset, .unset, .unset, .unset, .unset, .unset, .unset] [(.int (4 : Int32))])) rfl (hb hby at_1) rfl (by decide) (cap := 4) (by decide) (by decide) (by decide) (by decide)
  obtain ⟨o, g1⟩ : ∃ z, z = h0.size := ⟨_, rfl⟩
  rw [← g1] at A1 st1
  have V1 : Arv Z h1 o k1 .byte (4 : Int32) [(.int (0 : Int32)), (.int (0 : Int32)), (.int (0 : Int32)), (.int (0 : Int32))] (.int (0 : Int32)) := (Arv.new A1 (by decide)).pad (pad_rep [] (.int (0 : Int32)) 4)
  refine own_st (B := T1.setTop (mkF m 3 #[.val (.int p0), .val (.int p1), .val (.int p2), .val (.int p3), .val (.int rr), .unset, .unset, .unset, .unset, .unset, .unset, .unset, .unset, .unset] [(.ref o)])) (fun t k => st1 t k) ?_
  have go : n0 ≤ o := Nat.le_trans Z0 (Nat.le_of_eq g1.symm)
  have so : h0.size ≤ o := Nat.le_of_eq g1.symm
  have K0 : Keep h0 h1 [] := (Keep.refl h0 []).ext E1
  refine own_st (B := T1.setTop (mkF m 9 #[.val (.int p0), .val (.int p1), .val (.int p2), .val (.int p3), .val (.int rr), .val (.ref o), .unset, .unset, .unset, .unset, .unset, .unset, .unset, .unset] [(.int p0), (.int (0 : Int32)), (.ref o)])) (fun t k => ?_) ?_
  · show Steps p.tables e below (T1.setTop (mkF m 3 #[.val (.int p0), .val (.int p1), .val (.int p2), .val (.int p3), .val (.int rr), .unset, .unset, .unset, .unset, .unset, .unset, .unset, .unset, .unset] [(.ref o)])) _
    refine XS.astore X1.here hx rfl (hb hby at_3) rfl rfl (l' := #[.val (.int p0), .val (.int p1), .val (.int p2), .val (.int p3), .val (.int rr), .val (.ref o), .unset, .unset, .unset, .unset, .unset, .unset, .unset, .unset]) rfl ?_
    show Steps p.tables e below (T1.setTop (mkF m 5 #[.val (.int p0), .val (.int p1), .val (.int p2), .val (.int p3), .val (.int rr), .val (.ref o), .unset, .unset, .unset, .unset, .unset, .unset, .unset, .unset] [])) _
    refine XS.aload X1.here hx rfl (hb hby at_5) rfl rfl ?_
    show Steps p.tables e below (T1.setTop (mkF m 7 #[.val (.int p0), .val (.int p1), .val (.int p2), .val (.int p3), .val (.int rr), .val (.ref o), .unset, .unset, .unset, .unset, .unset, .unset, .unset, .unset] [(.ref o)])) _
    refine XS.iconst X1.here hx rfl (hb hby at_7) ?_
    show Steps p.tables e below (T1.setTop (mkF m 8 #[.val (.int p0), .val (.int p1), .val (.int p2), .val (.int p3), .val (.int rr), .val (.ref o), .unset, .unset, .unset, .unset, .unset, .unset, .unset, .unset] [(.int (0 : Int32)), (.ref o)])) _
    refine XS.iloadN X1.here hx rfl (hb hby at_8) rfl ?_
    exact k
  obtain ⟨_, _, ⟨T2, L2, k2, n2⟩, -, X2, ⟨Lc2, hQ2, l2, y2, z2⟩, st2⟩ := Jvm.LawKit.callS X1 hx (y := (⟨"com/example/hour_ending/hourending/prices/PriceLayoutDigitsPinLaw", "draw", "(I)B"⟩ : MethodName)) hown (mvT hZ (hw _ (List.mem_of_getElem? (i := 1) rfl))) (mvT hZ (hw _ (List.mem_of_getElem? (i := 2) rfl))) (mvT hZ (hw _ (List.mem_of_getElem? (i := 3) rfl))) (mvT hZ (hw _ (List.mem_of_getElem? (i := 4) rfl))) (by decide) (backOf (W := 2) (rm1 l Z a0 hw [] p0 h1 n0 (Nat.le_trans Z0 K0.1)) hZ (hw _ (List.mem_of_getElem? (i := 4) rfl)) (hw _ (List.mem_of_getElem? (i := 3) rfl)) (by decide) (by decide)) (g := (mkF m 9 #[.val (.int p0), .val (.int p1), .val (.int p2), .val (.int p3), .val (.int rr), .val (.ref o), .unset, .unset, .unset, .unset, .unset, .unset, .unset, .unset] [(.int p0), (.int (0 : Int32)), (.ref o)])) rfl (by rw [hml]; rfl) (argsL := [(.int p0)]) (rest := [(.int (0 : Int32)), (.ref o)]) (lenOf pd_1 rfl) rfl (by show 2 * 0 + _ ≤ _; exact Nat.le_of_eq rfl) (hb hby at_9) (fun _ _ => ⟨rfl, e1, (by decide : 1 + 0 ≤ _), (by decide : 4 + 0 ≤ _)⟩)
  dsimp only [Pt.U, Pt.locs, Pt.cells, Pt.slots] at X2 l2 y2 z2 st2 hQ2
  subst l2 y2 z2
  obtain ⟨rfl, N2q, e2⟩ := hQ2
  have N2 := Fr.app N0 N2q
  refine own_st (B := T2.setTop (mkF m 12 #[.val (.int p0), .val (.int p1), .val (.int p2), .val (.int p3), .val (.int rr), .val (.ref o), .unset, .unset, .unset, .unset, .unset, .unset, .unset, .unset] [(.int (own_draw p0)), (.int (0 : Int32)), (.ref o)])) (fun t k => st2 _ k) ?_
  obtain ⟨cl3, Ar3, q3, S3, M3, H3, G3⟩ := V1
  have hin3 : ¬ ((0 : Int32) < 0 ∨ cl3.slots.size ≤ ((0 : Int32)).toNatClampNeg) := inb_of S3 ⟨by decide, by decide⟩
  obtain ⟨T3, h3, X3, e3, W3, st3⟩ := stB X2 hx hZ e2 Ar3 (j := (0 : Int32)) hin3 (g := (mkF m 12 #[.val (.int p0), .val (.int p1), .val (.int p2), .val (.int p3), .val (.int rr), .val (.ref o), .unset, .unset, .unset, .unset, .unset, .unset, .unset, .unset] [(.int (own_draw p0)), (.int (0 : Int32)), (.ref o)])) rfl rfl (hb hby at_12)
  have V3 : Arv Z h3 o k1 .byte (4 : Int32) [(.int (nar .byte (own_draw p0))), (.int (0 : Int32)), (.int (0 : Int32)), (.int (0 : Int32))] (.int (0 : Int32)) := Arv.set Ar3 q3 S3 M3 H3 G3 (fits_nar_byte _) W3 0 rfl (Nat.le_of_ble_eq_true rfl)
  refine own_st (B := T3.setTop (mkF m 13 #[.val (.int p0), .val (.int p1), .val (.int p2), .val (.int p3), .val (.int rr), .val (.ref o), .unset, .unset, .unset, .unset, .unset, .unset, .unset, .unset] [])) (fun t k => st3 t k) ?_
  have N3 := Fr.snoc X3 N2 go
  have Kb3 : Keep h0 h3 [] := K0.wr W3 (Or.inr so)
  refine own_st (B := T3.setTop (mkF m 17 #[.val (.int p0), .val (.int p1), .val (.int p2), .val (.int p3), .val (.int rr), .val (.ref o), .unset, .unset, .unset, .unset, .unset, .unset, .unset, .unset] [(.int p1), (.int (1 : Int32)), (.ref o)])) (fun t k => ?_) ?_
  · show Steps p.tables e below (T3.setTop (mkF m 13 #[.val (.int p0), .val (.int p1), .val (.int p2), .val (.int p3), .val (.int rr), .val (.ref o), .unset, .unset, .unset, .unset, .unset, .unset, .unset, .unset] [])) _
    refine XS.aload X3.here hx rfl (hb hby at_13) rfl rfl ?_
    show Steps p.tables e below (T3.setTop (mkF m 15 #[.val (.int p0), .val (.int p1), .val (.int p2), .val (.int p3), .val (.int rr), .val (.ref o), .unset, .unset, .unset, .unset, .unset, .unset, .unset, .unset] [(.ref o)])) _
    refine XS.iconst X3.here hx rfl (hb hby at_15) ?_
    show Steps p.tables e below (T3.setTop (mkF m 16 #[.val (.int p0), .val (.int p1), .val (.int p2), .val (.int p3), .val (.int rr), .val (.ref o), .unset, .unset, .unset, .unset, .unset, .unset, .unset, .unset] [(.int (1 : Int32)), (.ref o)])) _
    refine XS.iloadN X3.here hx rfl (hb hby at_16) rfl ?_
    exact k
  obtain ⟨_, _, ⟨T4, L4, k4, n4⟩, -, X4, ⟨Lc4, hQ4, l4, y4, z4⟩, st4⟩ := Jvm.LawKit.callS X3 hx (y := (⟨"com/example/hour_ending/hourending/prices/PriceLayoutDigitsPinLaw", "draw", "(I)B"⟩ : MethodName)) hown (mvT hZ (hw _ (List.mem_of_getElem? (i := 1) rfl))) (mvT hZ (hw _ (List.mem_of_getElem? (i := 2) rfl))) (mvT hZ (hw _ (List.mem_of_getElem? (i := 3) rfl))) (mvT hZ (hw _ (List.mem_of_getElem? (i := 4) rfl))) (by decide) (backOf (W := 2) (rm1 l Z a0 hw [] p1 h3 n0 (Nat.le_trans Z0 Kb3.1)) hZ (hw _ (List.mem_of_getElem? (i := 4) rfl)) (hw _ (List.mem_of_getElem? (i := 3) rfl)) (by decide) (by decide)) (g := (mkF m 17 #[.val (.int p0), .val (.int p1), .val (.int p2), .val (.int p3), .val (.int rr), .val (.ref o), .unset, .unset, .unset, .unset, .unset, .unset, .unset, .unset] [(.int p1), (.int (1 : Int32)), (.ref o)])) rfl (by rw [hml]; rfl) (argsL := [(.int p1)]) (rest := [(.int (1 : Int32)), (.ref o)]) (lenOf pd_1 rfl) rfl (by show 2 * 0 + _ ≤ _; exact Nat.le_of_eq rfl) (hb hby at_17) (fun _ _ => ⟨rfl, e3, (by decide : 1 + 0 ≤ _), (by decide : 4 + 0 ≤ _)⟩)
  dsimp only [Pt.U, Pt.locs, Pt.cells, Pt.slots] at X4 l4 y4 z4 st4 hQ4
  subst l4 y4 z4
  obtain ⟨rfl, N4q, e4⟩ := hQ4
  have N4 := Fr.app N3 N4q
  refine own_st (B := T4.setTop (mkF m 20 #[.val (.int p0), .val (.int p1), .val (.int p2), .val (.int p3), .val (.int rr), .val (.ref o), .unset, .unset, .unset, .unset, .unset, .unset, .unset, .unset] [(.int (own_draw p1)), (.int (1 : Int32)), (.ref o)])) (fun t k => st4 _ k) ?_
  obtain ⟨cl5, Ar5, q5, S5, M5, H5, G5⟩ := V3
  have hin5 : ¬ ((1 : Int32) < 0 ∨ cl5.slots.size ≤ ((1 : Int32)).toNatClampNeg) := inb_of S5 ⟨by decide, by decide⟩
  obtain ⟨T5, h5, X5, e5, W5, st5⟩ := stB X4 hx hZ e4 Ar5 (j := (1 : Int32)) hin5 (g := (mkF m 20 #[.val (.int p0), .val (.int p1), .val (.int p2), .val (.int p3), .val (.int rr), .val (.ref o), .unset, .unset, .unset, .unset, .unset, .unset, .unset, .unset] [(.int (own_draw p1)), (.int (1 : Int32)), (.ref o)])) rfl rfl (hb hby at_20)
  have V5 : Arv Z h5 o k1 .byte (4 : Int32) [(.int (nar .byte (own_draw p0))), (.int (nar .byte (own_draw p1))), (.int (0 : Int32)), (.int (0 : Int32))] (.int (0 : Int32)) := Arv.set Ar5 q5 S5 M5 H5 G5 (fits_nar_byte _) W5 1 rfl (Nat.le_of_ble_eq_true rfl)
  refine own_st (B := T5.setTop (mkF m 21 #[.val (.int p0), .val (.int p1), .val (.int p2), .val (.int p3), .val (.int rr), .val (.ref o), .unset, .unset, .unset, .unset, .unset, .unset, .unset, .unset] [])) (fun t k => st5 t k) ?_
  have N5 := Fr.snoc X5 N4 go
  have Kb5 : Keep h0 h5 [] := Kb3.wr W5 (Or.inr so)
  refine own_st (B := T5.setTop (mkF m 25 #[.val (.int p0), .val (.int p1), .val (.int p2), .val (.int p3), .val (.int rr), .val (.ref o), .unset, .unset, .unset, .unset, .unset, .unset, .unset, .unset] [(.int p2), (.int (2 : Int32)), (.ref o)])) (fun t k => ?_) ?_
  · show Steps p.tables e below (T5.setTop (mkF m 21 #[.val (.int p0), .val (.int p1), .val (.int p2), .val (.int p3), .val (.int rr), .val (.ref o), .unset, .unset, .unset, .unset, .unset, .unset, .unset, .unset] [])) _
    refine XS.aload X5.here hx rfl (hb hby at_21) rfl rfl ?_
    show Steps p.tables e below (T5.setTop (mkF m 23 #[.val (.int p0), .val (.int p1), .val (.int p2), .val (.int p3), .val (.int rr), .val (.ref o), .unset, .unset, .unset, .unset, .unset, .unset, .unset, .unset] [(.ref o)])) _
    refine XS.iconst X5.here hx rfl (hb hby at_23) ?_
    show Steps p.tables e below (T5.setTop (mkF m 24 #[.val (.int p0), .val (.int p1), .val (.int p2), .val (.int p3), .val (.int rr), .val (.ref o), .unset, .unset, .unset, .unset, .unset, .unset, .unset, .unset] [(.int (2 : Int32)), (.ref o)])) _
    refine XS.iloadN X5.here hx rfl (hb hby at_24) rfl ?_
    exact k
  obtain ⟨_, _, ⟨T6, L6, k6, n6⟩, -, X6, ⟨Lc6, hQ6, l6, y6, z6⟩, st6⟩ := Jvm.LawKit.callS X5 hx (y := (⟨"com/example/hour_ending/hourending/prices/PriceLayoutDigitsPinLaw", "draw", "(I)B"⟩ : MethodName)) hown (mvT hZ (hw _ (List.mem_of_getElem? (i := 1) rfl))) (mvT hZ (hw _ (List.mem_of_getElem? (i := 2) rfl))) (mvT hZ (hw _ (List.mem_of_getElem? (i := 3) rfl))) (mvT hZ (hw _ (List.mem_of_getElem? (i := 4) rfl))) (by decide) (backOf (W := 2) (rm1 l Z a0 hw [] p2 h5 n0 (Nat.le_trans Z0 Kb5.1)) hZ (hw _ (List.mem_of_getElem? (i := 4) rfl)) (hw _ (List.mem_of_getElem? (i := 3) rfl)) (by decide) (by decide)) (g := (mkF m 25 #[.val (.int p0), .val (.int p1), .val (.int p2), .val (.int p3), .val (.int rr), .val (.ref o), .unset, .unset, .unset, .unset, .unset, .unset, .unset, .unset] [(.int p2), (.int (2 : Int32)), (.ref o)])) rfl (by rw [hml]; rfl) (argsL := [(.int p2)]) (rest := [(.int (2 : Int32)), (.ref o)]) (lenOf pd_1 rfl) rfl (by show 2 * 0 + _ ≤ _; exact Nat.le_of_eq rfl) (hb hby at_25) (fun _ _ => ⟨rfl, e5, (by decide : 1 + 0 ≤ _), (by decide : 4 + 0 ≤ _)⟩)
  dsimp only [Pt.U, Pt.locs, Pt.cells, Pt.slots] at X6 l6 y6 z6 st6 hQ6
  subst l6 y6 z6
  obtain ⟨rfl, N6q, e6⟩ := hQ6
  have N6 := Fr.app N5 N6q
  refine own_st (B := T6.setTop (mkF m 28 #[.val (.int p0), .val (.int p1), .val (.int p2), .val (.int p3), .val (.int rr), .val (.ref o), .unset, .unset, .unset, .unset, .unset, .unset, .unset, .unset] [(.int (own_draw p2)), (.int (2 : Int32)), (.ref o)])) (fun t k => st6 _ k) ?_
  obtain ⟨cl7, Ar7, q7, S7, M7, H7, G7⟩ := V5
  have hin7 : ¬ ((2 : Int32) < 0 ∨ cl7.slots.size ≤ ((2 : Int32)).toNatClampNeg) := inb_of S7 ⟨by decide, by decide⟩
  obtain ⟨T7, h7, X7, e7, W7, st7⟩ := stB X6 hx hZ e6 Ar7 (j := (2 : Int32)) hin7 (g := (mkF m 28 #[.val (.int p0), .val (.int p1), .val (.int p2), .val (.int p3), .val (.int rr), .val (.ref o), .unset, .unset, .unset, .unset, .unset, .unset, .unset, .unset] [(.int (own_draw p2)), (.int (2 : Int32)), (.ref o)])) rfl rfl (hb hby at_28)
  have V7 : Arv Z h7 o k1 .byte (4 : Int32) [(.int (nar .byte (own_draw p0))), (.int (nar .byte (own_draw p1))), (.int (nar .byte (own_draw p2))), (.int (0 : Int32))] (.int (0 : Int32)) := Arv.set Ar7 q7 S7 M7 H7 G7 (fits_nar_byte _) W7 2 rfl (Nat.le_of_ble_eq_true rfl)
  refine own_st (B := T7.setTop (mkF m 29 #[.val (.int p0), .val (.int p1), .val (.int p2), .val (.int p3), .val (.int rr), .val (.ref o), .unset, .unset, .unset, .unset, .unset, .unset, .unset, .unset] [])) (fun t k => st7 t k) ?_
  have N7 := Fr.snoc X7 N6 go
  have Kb7 : Keep h0 h7 [] := Kb5.wr W7 (Or.inr so)
  refine own_st (B := T7.setTop (mkF m 33 #[.val (.int p0), .val (.int p1), .val (.int p2), .val (.int p3), .val (.int rr), .val (.ref o), .unset, .unset, .unset, .unset, .unset, .unset, .unset, .unset] [(.int p3), (.int (3 : Int32)), (.ref o)])) (fun t k => ?_) ?_
  · show Steps p.tables e below (T7.setTop (mkF m 29 #[.val (.int p0), .val (.int p1), .val (.int p2), .val (.int p3), .val (.int rr), .val (.ref o), .unset, .unset, .unset, .unset, .unset, .unset, .unset, .unset] [])) _
    refine XS.aload X7.here hx rfl (hb hby at_29) rfl rfl ?_
    show Steps p.tables e below (T7.setTop (mkF m 31 #[.val (.int p0), .val (.int p1), .val (.int p2), .val (.int p3), .val (.int rr), .val (.ref o), .unset, .unset, .unset, .unset, .unset, .unset, .unset, .unset] [(.ref o)])) _
    refine XS.iconst X7.here hx rfl (hb hby at_31) ?_
    show Steps p.tables e below (T7.setTop (mkF m 32 #[.val (.int p0), .val (.int p1), .val (.int p2), .val (.int p3), .val (.int rr), .val (.ref o), .unset, .unset, .unset, .unset, .unset, .unset, .unset, .unset] [(.int (3 : Int32)), (.ref o)])) _
    refine XS.iloadN X7.here hx rfl (hb hby at_32) rfl ?_
    exact k
  obtain ⟨_, _, ⟨T8, L8, k8, n8⟩, -, X8, ⟨Lc8, hQ8, l8, y8, z8⟩, st8⟩ := Jvm.LawKit.callS X7 hx (y := (⟨"com/example/hour_ending/hourending/prices/PriceLayoutDigitsPinLaw", "draw", "(I)B"⟩ : MethodName)) hown (mvT hZ (hw _ (List.mem_of_getElem? (i := 1) rfl))) (mvT hZ (hw _ (List.mem_of_getElem? (i := 2) rfl))) (mvT hZ (hw _ (List.mem_of_getElem? (i := 3) rfl))) (mvT hZ (hw _ (List.mem_of_getElem? (i := 4) rfl))) (by decide) (backOf (W := 2) (rm1 l Z a0 hw [] p3 h7 n0 (Nat.le_trans Z0 Kb7.1)) hZ (hw _ (List.mem_of_getElem? (i := 4) rfl)) (hw _ (List.mem_of_getElem? (i := 3) rfl)) (by decide) (by decide)) (g := (mkF m 33 #[.val (.int p0), .val (.int p1), .val (.int p2), .val (.int p3), .val (.int rr), .val (.ref o), .unset, .unset, .unset, .unset, .unset, .unset, .unset, .unset] [(.int p3), (.int (3 : Int32)), (.ref o)])) rfl (by rw [hml]; rfl) (argsL := [(.int p3)]) (rest := [(.int (3 : Int32)), (.ref o)]) (lenOf pd_1 rfl) rfl (by show 2 * 0 + _ ≤ _; exact Nat.le_of_eq rfl) (hb hby at_33) (fun _ _ => ⟨rfl, e7, (by decide : 1 + 0 ≤ _), (by decide : 4 + 0 ≤ _)⟩)
  dsimp only [Pt.U, Pt.locs, Pt.cells, Pt.slots] at X8 l8 y8 z8 st8 hQ8
  subst l8 y8 z8
  obtain ⟨rfl, N8q, e8⟩ := hQ8
  have N8 := Fr.app N7 N8q
  refine own_st (B := T8.setTop (mkF m 36 #[.val (.int p0), .val (.int p1), .val (.int p2), .val (.int p3), .val (.int rr), .val (.ref o), .unset, .unset, .unset, .unset, .unset, .unset, .unset, .unset] [(.int (own_draw p3)), (.int (3 : Int32)), (.ref o)])) (fun t k => st8 _ k) ?_
  obtain ⟨cl9, Ar9, q9, S9, M9, H9, G9⟩ := V7
  have hin9 : ¬ ((3 : Int32) < 0 ∨ cl9.slots.size ≤ ((3 : Int32)).toNatClampNeg) := inb_of S9 ⟨by decide, by decide⟩
  obtain ⟨T9, h9, X9, e9, W9, st9⟩ := stB X8 hx hZ e8 Ar9 (j := (3 : Int32)) hin9 (g := (mkF m 36 #[.val (.int p0), .val (.int p1), .val (.int p2), .val (.int p3), .val (.int rr), .val (.ref o), .unset, .unset, .unset, .unset, .unset, .unset, .unset, .unset] [(.int (own_draw p3)), (.int (3 : Int32)), (.ref o)])) rfl rfl (hb hby at_36)
  have V9 : Arv Z h9 o k1 .byte (4 : Int32) [(.int (nar .byte (own_draw p0))), (.int (nar .byte (own_draw p1))), (.int (nar .byte (own_draw p2))), (.int (nar .byte (own_draw p3)))] (.int (0 : Int32)) := Arv.set Ar9 q9 S9 M9 H9 G9 (fits_nar_byte _) W9 3 rfl (Nat.le_of_ble_eq_true rfl)
  refine own_st (B := T9.setTop (mkF m 37 #[.val (.int p0), .val (.int p1), .val (.int p2), .val (.int p3), .val (.int rr), .val (.ref o), .unset, .unset, .unset, .unset, .unset, .unset, .unset, .unset] [])) (fun t k => st9 t k) ?_
  have N9 := Fr.snoc X9 N8 go
  have Kb9 : Keep h0 h9 [] := Kb7.wr W9 (Or.inr so)
  have Zk : n0 ≤ h9.size := (Nat.le_trans Z0 Kb9.1)
  obtain ⟨b0, hb0⟩ : ∃ z, z = nar .byte (own_draw p0) := ⟨_, rfl⟩
  obtain ⟨b1, hb1⟩ : ∃ z, z = nar .byte (own_draw p1) := ⟨_, rfl⟩
  obtain ⟨b2, hb2⟩ : ∃ z, z = nar .byte (own_draw p2) := ⟨_, rfl⟩
  obtain ⟨b3, hb3⟩ : ∃ z, z = nar .byte (own_draw p3) := ⟨_, rfl⟩
  rw [← hb0, ← hb1, ← hb2, ← hb3] at V9
  refine own_st (B := T9.setTop (mkF m 58 #[.val (.int p0), .val (.int p1), .val (.int p2), .val (.int p3), .val (.int rr), .val (.ref o), .val (.int ((rr &&& (2147483647 : Int32)) % (5 : Int32))), .val (.int ((((rr.toUInt32 >>> ((8 : Int32) &&& 31).toUInt32).toInt32) &&& (2147483647 : Int32)) % (5 : Int32))), .unset, .unset, .unset, .unset, .unset, .unset] [])) (fun t k => ?_) ?_
  · show Steps p.tables e below (T9.setTop (mkF m 37 #[.val (.int p0), .val (.int p1), .val (.int p2), .val (.int p3), .val (.int rr), .val (.ref o), .unset, .unset, .unset, .unset, .unset, .unset, .unset, .unset] [])) _
    refine XS.iload X9.here hx rfl (hb hby at_37) rfl ?_
    show Steps p.tables e below (T9.setTop (mkF m 39 #[.val (.int p0), .val (.int p1), .val (.int p2), .val (.int p3), .val (.int rr), .val (.ref o), .unset, .unset, .unset, .unset, .unset, .unset, .unset, .unset] [(.int rr)])) _
    refine X9.ldcInt hx hown (mvT hZ (hw _ (List.mem_of_getElem? (i := 5) rfl))) (g := (mkF m 39 #[.val (.int p0), .val (.int p1), .val (.int p2), .val (.int p3), .val (.int rr), .val (.ref o), .unset, .unset, .unset, .unset, .unset, .unset, .unset, .unset] [(.int rr)])) rfl (hb hby at_39) _ ?_
    show Steps p.tables e below (T9.setTop (mkF m 41 #[.val (.int p0), .val (.int p1), .val (.int p2), .val (.int p3), .val (.int rr), .val (.ref o), .unset, .unset, .unset, .unset, .unset, .unset, .unset, .unset] [(.int (2147483647 : Int32)), (.int rr)])) _
    refine XS.iand X9.here hx rfl (hb hby at_41) rfl ?_
    show Steps p.tables e below (T9.setTop (mkF m 42 #[.val (.int p0), .val (.int p1), .val (.int p2), .val (.int p3), .val (.int rr), .val (.ref o), .unset, .unset, .unset, .unset, .unset, .unset, .unset, .unset] [(.int (rr &&& (2147483647 : Int32)))])) _
    refine XS.iconst X9.here hx rfl (hb hby at_42) ?_
    show Steps p.tables e below (T9.setTop (mkF m 43 #[.val (.int p0), .val (.int p1), .val (.int p2), .val (.int p3), .val (.int rr), .val (.ref o), .unset, .unset, .unset, .unset, .unset, .unset, .unset, .unset] [(.int (5 : Int32)), (.int (rr &&& (2147483647 : Int32)))])) _
    refine iremM X9 hx rfl (hb hby at_43) rfl (by decide) ?_
    show Steps p.tables e below (T9.setTop (mkF m 44 #[.val (.int p0), .val (.int p1), .val (.int p2), .val (.int p3), .val (.int rr), .val (.ref o), .unset, .unset, .unset, .unset, .unset, .unset, .unset, .unset] [(.int ((rr &&& (2147483647 : Int32)) % (5 : Int32)))])) _
    refine XS.istore X9.here hx rfl (hb hby at_44) rfl (l' := #[.val (.int p0), .val (.int p1), .val (.int p2), .val (.int p3), .val (.int rr), .val (.ref o), .val (.int ((rr &&& (2147483647 : Int32)) % (5 : Int32))), .unset, .unset, .unset, .unset, .unset, .unset, .unset]) rfl ?_
    show Steps p.tables e below (T9.setTop (mkF m 46 #[.val (.int p0), .val (.int p1), .val (.int p2), .val (.int p3), .val (.int rr), .val (.ref o), .val (.int ((rr &&& (2147483647 : Int32)) % (5 : Int32))), .unset, .unset, .unset, .unset, .unset, .unset, .unset] [])) _
    refine XS.iload X9.here hx rfl (hb hby at_46) rfl ?_
    show Steps p.tables e below (T9.setTop (mkF m 48 #[.val (.int p0), .val (.int p1), .val (.int p2), .val (.int p3), .val (.int rr), .val (.ref o), .val (.int ((rr &&& (2147483647 : Int32)) % (5 : Int32))), .unset, .unset, .unset, .unset, .unset, .unset, .unset] [(.int rr)])) _
    refine XS.bipush X9.here hx rfl (hb hby at_48) ?_
    show Steps p.tables e below (T9.setTop (mkF m 50 #[.val (.int p0), .val (.int p1), .val (.int p2), .val (.int p3), .val (.int rr), .val (.ref o), .val (.int ((rr &&& (2147483647 : Int32)) % (5 : Int32))), .unset, .unset, .unset, .unset, .unset, .unset, .unset] [(.int (8 : Int32)), (.int rr)])) _
    refine XS.iushr X9.here hx rfl (hb hby at_50) rfl ?_
    show Steps p.tables e below (T9.setTop (mkF m 51 #[.val (.int p0), .val (.int p1), .val (.int p2), .val (.int p3), .val (.int rr), .val (.ref o), .val (.int ((rr &&& (2147483647 : Int32)) % (5 : Int32))), .unset, .unset, .unset, .unset, .unset, .unset, .unset] [(.int ((rr.toUInt32 >>> ((8 : Int32) &&& 31).toUInt32).toInt32))])) _
    refine X9.ldcInt hx hown (mvT hZ (hw _ (List.mem_of_getElem? (i := 5) rfl))) (g := (mkF m 51 #[.val (.int p0), .val (.int p1), .val (.int p2), .val (.int p3), .val (.int rr), .val (.ref o), .val (.int ((rr &&& (2147483647 : Int32)) % (5 : Int32))), .unset, .unset, .unset, .unset, .unset, .unset, .unset] [(.int ((rr.toUInt32 >>> ((8 : Int32) &&& 31).toUInt32).toInt32))])) rfl (hb hby at_51) _ ?_
    show Steps p.tables e below (T9.setTop (mkF m 53 #[.val (.int p0), .val (.int p1), .val (.int p2), .val (.int p3), .val (.int rr), .val (.ref o), .val (.int ((rr &&& (2147483647 : Int32)) % (5 : Int32))), .unset, .unset, .unset, .unset, .unset, .unset, .unset] [(.int (2147483647 : Int32)), (.int ((rr.toUInt32 >>> ((8 : Int32) &&& 31).toUInt32).toInt32))])) _
    refine XS.iand X9.here hx rfl (hb hby at_53) rfl ?_
    show Steps p.tables e below (T9.setTop (mkF m 54 #[.val (.int p0), .val (.int p1), .val (.int p2), .val (.int p3), .val (.int rr), .val (.ref o), .val (.int ((rr &&& (2147483647 : Int32)) % (5 : Int32))), .unset, .unset, .unset, .unset, .unset, .unset, .unset] [(.int (((rr.toUInt32 >>> ((8 : Int32) &&& 31).toUInt32).toInt32) &&& (2147483647 : Int32)))])) _
    refine XS.iconst X9.here hx rfl (hb hby at_54) ?_
    show Steps p.tables e below (T9.setTop (mkF m 55 #[.val (.int p0), .val (.int p1), .val (.int p2), .val (.int p3), .val (.int rr), .val (.ref o), .val (.int ((rr &&& (2147483647 : Int32)) % (5 : Int32))), .unset, .unset, .unset, .unset, .unset, .unset, .unset] [(.int (5 : Int32)), (.int (((rr.toUInt32 >>> ((8 : Int32) &&& 31).toUInt32).toInt32) &&& (2147483647 : Int32)))])) _
    refine iremM X9 hx rfl (hb hby at_55) rfl (by decide) ?_
    show Steps p.tables e below (T9.setTop (mkF m 56 #[.val (.int p0), .val (.int p1), .val (.int p2), .val (.int p3), .val (.int rr), .val (.ref o), .val (.int ((rr &&& (2147483647 : Int32)) % (5 : Int32))), .unset, .unset, .unset, .unset, .unset, .unset, .unset] [(.int ((((rr.toUInt32 >>> ((8 : Int32) &&& 31).toUInt32).toInt32) &&& (2147483647 : Int32)) % (5 : Int32)))])) _
    refine XS.istore X9.here hx rfl (hb hby at_56) rfl (l' := #[.val (.int p0), .val (.int p1), .val (.int p2), .val (.int p3), .val (.int rr), .val (.ref o), .val (.int ((rr &&& (2147483647 : Int32)) % (5 : Int32))), .val (.int ((((rr.toUInt32 >>> ((8 : Int32) &&& 31).toUInt32).toInt32) &&& (2147483647 : Int32)) % (5 : Int32))), .unset, .unset, .unset, .unset, .unset, .unset]) rfl ?_
    exact k
  generalize hfr : ((rr &&& (2147483647 : Int32)) % (5 : Int32)) = fr
  generalize hto : ((((rr.toUInt32 >>> ((8 : Int32) &&& 31).toUInt32).toInt32) &&& (2147483647 : Int32)) % (5 : Int32)) = to
  have hf : own_in fr := by rw [← hfr]; exact own_mod5 _
  have ht : own_in to := by rw [← hto]; exact own_mod5 _
  refine own_st (B := T9.setTop (mkF m 61 #[.val (.int p0), .val (.int p1), .val (.int p2), .val (.int p3), .val (.int rr), .val (.ref o), .val (.int fr), .val (.int to), .unset, .unset, .unset, .unset, .unset, .unset] [(.int (0 : Int32)), (.ref o)])) (fun t k => ?_) ?_
  · show Steps p.tables e below (T9.setTop (mkF m 58 #[.val (.int p0), .val (.int p1), .val (.int p2), .val (.int p3), .val (.int rr), .val (.ref o), .val (.int fr), .val (.int to), .unset, .unset, .unset, .unset, .unset, .unset] [])) _
    refine XS.aload X9.here hx rfl (hb hby at_58) rfl rfl ?_
    show Steps p.tables e below (T9.setTop (mkF m 60 #[.val (.int p0), .val (.int p1), .val (.int p2), .val (.int p3), .val (.int rr), .val (.ref o), .val (.int fr), .val (.int to), .unset, .unset, .unset, .unset, .unset, .unset] [(.ref o)])) _
    refine XS.iconst X9.here hx rfl (hb hby at_60) ?_
    exact k
  have Vc0 := V9
  obtain ⟨cl10, Ar10, q10, S10, M10, H10, G10⟩ := Vc0
  have hin10 : ¬ ((0 : Int32) < 0 ∨ cl10.slots.size ≤ ((0 : Int32)).toNatClampNeg) := inb_of S10 ⟨by decide, by decide⟩
  have hat10 : cl10.slots[((0 : Int32)).toNatClampNeg]? = some (.int b0) := H10.at hin10 rfl
  refine own_st (B := T9.setTop (mkF m 62 #[.val (.int p0), .val (.int p1), .val (.int p2), .val (.int p3), .val (.int rr), .val (.ref o), .val (.int fr), .val (.int to), .unset, .unset, .unset, .unset, .unset, .unset] [(.int b0)])) (fun t k => ?_) ?_
  · show Steps p.tables e below (T9.setTop (mkF m 61 #[.val (.int p0), .val (.int p1), .val (.int p2), .val (.int p3), .val (.int rr), .val (.ref o), .val (.int fr), .val (.int to), .unset, .unset, .unset, .unset, .unset, .unset] [(.int (0 : Int32)), (.ref o)])) _
    refine X9.baloadBytes hx (j := (0 : Int32)) (v := (.int b0)) (by rw [e9]; exact Ar10.1) (State.isArrayOf_alike hZ.alike Ar10.2.1) Ar10.2.2 hin10 hat10 (g := (mkF m 61 #[.val (.int p0), .val (.int p1), .val (.int p2), .val (.int p3), .val (.int rr), .val (.ref o), .val (.int fr), .val (.int to), .unset, .unset, .unset, .unset, .unset, .unset] [(.int (0 : Int32)), (.ref o)])) rfl rfl (hb hby at_61) _ ?_
    exact k
  obtain ⟨_, _, ⟨T11, L11, k11, n11⟩, -, X11, ⟨Lc11, hQ11, l11, y11, z11⟩, st11⟩ := Jvm.LawKit.callS X9 hx (y := (⟨"com/example/hour_ending/hourending/prices/PriceLayoutDigitsPinLaw", "dig", "(B)I"⟩ : MethodName)) hown (mvT hZ (hw _ (List.mem_of_getElem? (i := 6) rfl))) (mvT hZ (hw _ (List.mem_of_getElem? (i := 7) rfl))) (mvT hZ (hw _ (List.mem_of_getElem? (i := 3) rfl))) (mvT hZ (hw _ (List.mem_of_getElem? (i := 8) rfl))) (by decide) (backOf (W := 0) (rm2 l Z a0 hw [] b0 h9 n0 Zk) hZ (hw _ (List.mem_of_getElem? (i := 8) rfl)) (hw _ (List.mem_of_getElem? (i := 3) rfl)) (by decide) (by decide)) (g := (mkF m 62 #[.val (.int p0), .val (.int p1), .val (.int p2), .val (.int p3), .val (.int rr), .val (.ref o), .val (.int fr), .val (.int to), .unset, .unset, .unset, .unset, .unset, .unset] [(.int b0)])) rfl (by rw [hml]; rfl) (argsL := [(.int b0)]) (rest := []) (lenOf pd_2 rfl) rfl (by show 2 * 0 + _ ≤ _; exact Nat.le_of_eq rfl) (hb hby at_62) (fun _ _ => ⟨rfl, e9, (by decide : 1 + 0 ≤ _), (by decide : 4 + 0 ≤ _)⟩)
  dsimp only [Pt.U, Pt.locs, Pt.cells, Pt.slots] at X11 l11 y11 z11 st11 hQ11
  subst l11 y11 z11
  obtain ⟨rfl, N11q, e11⟩ := hQ11
  have N11 := Fr.app N9 N11q
  refine own_st (B := T11.setTop (mkF m 65 #[.val (.int p0), .val (.int p1), .val (.int p2), .val (.int p3), .val (.int rr), .val (.ref o), .val (.int fr), .val (.int to), .unset, .unset, .unset, .unset, .unset, .unset] [(.int (own_dig b0))])) (fun t k => st11 _ k) ?_
  refine own_st (B := T11.setTop (mkF m 70 #[.val (.int p0), .val (.int p1), .val (.int p2), .val (.int p3), .val (.int rr), .val (.ref o), .val (.int fr), .val (.int to), .val (.int (own_dig b0)), .unset, .unset, .unset, .unset, .unset] [(.int (1 : Int32)), (.ref o)])) (fun t k => ?_) ?_
  · show Steps p.tables e below (T11.setTop (mkF m 65 #[.val (.int p0), .val (.int p1), .val (.int p2), .val (.int p3), .val (.int rr), .val (.ref o), .val (.int fr), .val (.int to), .unset, .unset, .unset, .unset, .unset, .unset] [(.int (own_dig b0))])) _
    refine XS.istore X11.here hx rfl (hb hby at_65) rfl (l' := #[.val (.int p0), .val (.int p1), .val (.int p2), .val (.int p3), .val (.int rr), .val (.ref o), .val (.int fr), .val (.int to), .val (.int (own_dig b0)), .unset, .unset, .unset, .unset, .unset]) rfl ?_
    show Steps p.tables e below (T11.setTop (mkF m 67 #[.val (.int p0), .val (.int p1), .val (.int p2), .val (.int p3), .val (.int rr), .val (.ref o), .val (.int fr), .val (.int to), .val (.int (own_dig b0)), .unset, .unset, .unset, .unset, .unset] [])) _
    refine XS.aload X11.here hx rfl (hb hby at_67) rfl rfl ?_
    show Steps p.tables e below (T11.setTop (mkF m 69 #[.val (.int p0), .val (.int p1), .val (.int p2), .val (.int p3), .val (.int rr), .val (.ref o), .val (.int fr), .val (.int to), .val (.int (own_dig b0)), .unset, .unset, .unset, .unset, .unset] [(.ref o)])) _
    refine XS.iconst X11.here hx rfl (hb hby at_69) ?_
    exact k
  have Vc1 := V9
  obtain ⟨cl12, Ar12, q12, S12, M12, H12, G12⟩ := Vc1
  have hin12 : ¬ ((1 : Int32) < 0 ∨ cl12.slots.size ≤ ((1 : Int32)).toNatClampNeg) := inb_of S12 ⟨by decide, by decide⟩
  have hat12 : cl12.slots[((1 : Int32)).toNatClampNeg]? = some (.int b1) := H12.at hin12 rfl
  refine own_st (B := T11.setTop (mkF m 71 #[.val (.int p0), .val (.int p1), .val (.int p2), .val (.int p3), .val (.int rr), .val (.ref o), .val (.int fr), .val (.int to), .val (.int (own_dig b0)), .unset, .unset, .unset, .unset, .unset] [(.int b1)])) (fun t k => ?_) ?_
  · show Steps p.tables e below (T11.setTop (mkF m 70 #[.val (.int p0), .val (.int p1), .val (.int p2), .val (.int p3), .val (.int rr), .val (.ref o), .val (.int fr), .val (.int to), .val (.int (own_dig b0)), .unset, .unset, .unset, .unset, .unset] [(.int (1 : Int32)), (.ref o)])) _
    refine X11.baloadBytes hx (j := (1 : Int32)) (v := (.int b1)) (by rw [e11]; exact Ar12.1) (State.isArrayOf_alike hZ.alike Ar12.2.1) Ar12.2.2 hin12 hat12 (g := (mkF m 70 #[.val (.int p0), .val (.int p1), .val (.int p2), .val (.int p3), .val (.int rr), .val (.ref o), .val (.int fr), .val (.int to), .val (.int (own_dig b0)), .unset, .unset, .unset, .unset, .unset] [(.int (1 : Int32)), (.ref o)])) rfl rfl (hb hby at_70) _ ?_
    exact k
  obtain ⟨_, _, ⟨T13, L13, k13, n13⟩, -, X13, ⟨Lc13, hQ13, l13, y13, z13⟩, st13⟩ := Jvm.LawKit.callS X11 hx (y := (⟨"com/example/hour_ending/hourending/prices/PriceLayoutDigitsPinLaw", "dig", "(B)I"⟩ : MethodName)) hown (mvT hZ (hw _ (List.mem_of_getElem? (i := 6) rfl))) (mvT hZ (hw _ (List.mem_of_getElem? (i := 7) rfl))) (mvT hZ (hw _ (List.mem_of_getElem? (i := 3) rfl))) (mvT hZ (hw _ (List.mem_of_getElem? (i := 8) rfl))) (by decide) (backOf (W := 0) (rm2 l Z a0 hw [] b1 h9 n0 Zk) hZ (hw _ (List.mem_of_getElem? (i := 8) rfl)) (hw _ (List.mem_of_getElem? (i := 3) rfl)) (by decide) (by decide)) (g := (mkF m 71 #[.val (.int p0), .val (.int p1), .val (.int p2), .val (.int p3), .val (.int rr), .val (.ref o), .val (.int fr), .val (.int to), .val (.int (own_dig b0)), .unset, .unset, .unset, .unset, .unset] [(.int b1)])) rfl (by rw [hml]; rfl) (argsL := [(.int b1)]) (rest := []) (lenOf pd_2 rfl) rfl (by show 2 * 0 + _ ≤ _; exact Nat.le_of_eq rfl) (hb hby at_71) (fun _ _ => ⟨rfl, e11, (by decide : 1 + 0 ≤ _), (by decide : 4 + 0 ≤ _)⟩)
  dsimp only [Pt.U, Pt.locs, Pt.cells, Pt.slots] at X13 l13 y13 z13 st13 hQ13
  subst l13 y13 z13
  obtain ⟨rfl, N13q, e13⟩ := hQ13
  have N13 := Fr.app N11 N13q
  refine own_st (B := T13.setTop (mkF m 74 #[.val (.int p0), .val (.int p1), .val (.int p2), .val (.int p3), .val (.int rr), .val (.ref o), .val (.int fr), .val (.int to), .val (.int (own_dig b0)), .unset, .unset, .unset, .unset, .unset] [(.int (own_dig b1))])) (fun t k => st13 _ k) ?_
  refine own_st (B := T13.setTop (mkF m 79 #[.val (.int p0), .val (.int p1), .val (.int p2), .val (.int p3), .val (.int rr), .val (.ref o), .val (.int fr), .val (.int to), .val (.int (own_dig b0)), .val (.int (own_dig b1)), .unset, .unset, .unset, .unset] [(.int (2 : Int32)), (.ref o)])) (fun t k => ?_) ?_
  · show Steps p.tables e below (T13.setTop (mkF m 74 #[.val (.int p0), .val (.int p1), .val (.int p2), .val (.int p3), .val (.int rr), .val (.ref o), .val (.int fr), .val (.int to), .val (.int (own_dig b0)), .unset, .unset, .unset, .unset, .unset] [(.int (own_dig b1))])) _
    refine XS.istore X13.here hx rfl (hb hby at_74) rfl (l' := #[.val (.int p0), .val (.int p1), .val (.int p2), .val (.int p3), .val (.int rr), .val (.ref o), .val (.int fr), .val (.int to), .val (.int (own_dig b0)), .val (.int (own_dig b1)), .unset, .unset, .unset, .unset]) rfl ?_
    show Steps p.tables e below (T13.setTop (mkF m 76 #[.val (.int p0), .val (.int p1), .val (.int p2), .val (.int p3), .val (.int rr), .val (.ref o), .val (.int fr), .val (.int to), .val (.int (own_dig b0)), .val (.int (own_dig b1)), .unset, .unset, .unset, .unset] [])) _
    refine XS.aload X13.here hx rfl (hb hby at_76) rfl rfl ?_
    show Steps p.tables e below (T13.setTop (mkF m 78 #[.val (.int p0), .val (.int p1), .val (.int p2), .val (.int p3), .val (.int rr), .val (.ref o), .val (.int fr), .val (.int to), .val (.int (own_dig b0)), .val (.int (own_dig b1)), .unset, .unset, .unset, .unset] [(.ref o)])) _
    refine XS.iconst X13.here hx rfl (hb hby at_78) ?_
    exact k
  have Vc2 := V9
  obtain ⟨cl14, Ar14, q14, S14, M14, H14, G14⟩ := Vc2
  have hin14 : ¬ ((2 : Int32) < 0 ∨ cl14.slots.size ≤ ((2 : Int32)).toNatClampNeg) := inb_of S14 ⟨by decide, by decide⟩
  have hat14 : cl14.slots[((2 : Int32)).toNatClampNeg]? = some (.int b2) := H14.at hin14 rfl
  refine own_st (B := T13.setTop (mkF m 80 #[.val (.int p0), .val (.int p1), .val (.int p2), .val (.int p3), .val (.int rr), .val (.ref o), .val (.int fr), .val (.int to), .val (.int (own_dig b0)), .val (.int (own_dig b1)), .unset, .unset, .unset, .unset] [(.int b2)])) (fun t k => ?_) ?_
  · show Steps p.tables e below (T13.setTop (mkF m 79 #[.val (.int p0), .val (.int p1), .val (.int p2), .val (.int p3), .val (.int rr), .val (.ref o), .val (.int fr), .val (.int to), .val (.int (own_dig b0)), .val (.int (own_dig b1)), .unset, .unset, .unset, .unset] [(.int (2 : Int32)), (.ref o)])) _
    refine X13.baloadBytes hx (j := (2 : Int32)) (v := (.int b2)) (by rw [e13]; exact Ar14.1) (State.isArrayOf_alike hZ.alike Ar14.2.1) Ar14.2.2 hin14 hat14 (g := (mkF m 79 #[.val (.int p0), .val (.int p1), .val (.int p2), .val (.int p3), .val (.int rr), .val (.ref o), .val (.int fr), .val (.int to), .val (.int (own_dig b0)), .val (.int (own_dig b1)), .unset, .unset, .unset, .unset] [(.int (2 : Int32)), (.ref o)])) rfl rfl (hb hby at_79) _ ?_
    exact k
  obtain ⟨_, _, ⟨T15, L15, k15, n15⟩, -, X15, ⟨Lc15, hQ15, l15, y15, z15⟩, st15⟩ := Jvm.LawKit.callS X13 hx (y := (⟨"com/example/hour_ending/hourending/prices/PriceLayoutDigitsPinLaw", "dig", "(B)I"⟩ : MethodName)) hown (mvT hZ (hw _ (List.mem_of_getElem? (i := 6) rfl))) (mvT hZ (hw _ (List.mem_of_getElem? (i := 7) rfl))) (mvT hZ (hw _ (List.mem_of_getElem? (i := 3) rfl))) (mvT hZ (hw _ (List.mem_of_getElem? (i := 8) rfl))) (by decide) (backOf (W := 0) (rm2 l Z a0 hw [] b2 h9 n0 Zk) hZ (hw _ (List.mem_of_getElem? (i := 8) rfl)) (hw _ (List.mem_of_getElem? (i := 3) rfl)) (by decide) (by decide)) (g := (mkF m 80 #[.val (.int p0), .val (.int p1), .val (.int p2), .val (.int p3), .val (.int rr), .val (.ref o), .val (.int fr), .val (.int to), .val (.int (own_dig b0)), .val (.int (own_dig b1)), .unset, .unset, .unset, .unset] [(.int b2)])) rfl (by rw [hml]; rfl) (argsL := [(.int b2)]) (rest := []) (lenOf pd_2 rfl) rfl (by show 2 * 0 + _ ≤ _; exact Nat.le_of_eq rfl) (hb hby at_80) (fun _ _ => ⟨rfl, e13, (by decide : 1 + 0 ≤ _), (by decide : 4 + 0 ≤ _)⟩)
  dsimp only [Pt.U, Pt.locs, Pt.cells, Pt.slots] at X15 l15 y15 z15 st15 hQ15
  subst l15 y15 z15
  obtain ⟨rfl, N15q, e15⟩ := hQ15
  have N15 := Fr.app N13 N15q
  refine own_st (B := T15.setTop (mkF m 83 #[.val (.int p0), .val (.int p1), .val (.int p2), .val (.int p3), .val (.int rr), .val (.ref o), .val (.int fr), .val (.int to), .val (.int (own_dig b0)), .val (.int (own_dig b1)), .unset, .unset, .unset, .unset] [(.int (own_dig b2))])) (fun t k => st15 _ k) ?_
  refine own_st (B := T15.setTop (mkF m 88 #[.val (.int p0), .val (.int p1), .val (.int p2), .val (.int p3), .val (.int rr), .val (.ref o), .val (.int fr), .val (.int to), .val (.int (own_dig b0)), .val (.int (own_dig b1)), .val (.int (own_dig b2)), .unset, .unset, .unset] [(.int (3 : Int32)), (.ref o)])) (fun t k => ?_) ?_
  · show Steps p.tables e below (T15.setTop (mkF m 83 #[.val (.int p0), .val (.int p1), .val (.int p2), .val (.int p3), .val (.int rr), .val (.ref o), .val (.int fr), .val (.int to), .val (.int (own_dig b0)), .val (.int (own_dig b1)), .unset, .unset, .unset, .unset] [(.int (own_dig b2))])) _
    refine XS.istore X15.here hx rfl (hb hby at_83) rfl (l' := #[.val (.int p0), .val (.int p1), .val (.int p2), .val (.int p3), .val (.int rr), .val (.ref o), .val (.int fr), .val (.int to), .val (.int (own_dig b0)), .val (.int (own_dig b1)), .val (.int (own_dig b2)), .unset, .unset, .unset]) rfl ?_
    show Steps p.tables e below (T15.setTop (mkF m 85 #[.val (.int p0), .val (.int p1), .val (.int p2), .val (.int p3), .val (.int rr), .val (.ref o), .val (.int fr), .val (.int to), .val (.int (own_dig b0)), .val (.int (own_dig b1)), .val (.int (own_dig b2)), .unset, .unset, .unset] [])) _
    refine XS.aload X15.here hx rfl (hb hby at_85) rfl rfl ?_
    show Steps p.tables e below (T15.setTop (mkF m 87 #[.val (.int p0), .val (.int p1), .val (.int p2), .val (.int p3), .val (.int rr), .val (.ref o), .val (.int fr), .val (.int to), .val (.int (own_dig b0)), .val (.int (own_dig b1)), .val (.int (own_dig b2)), .unset, .unset, .unset] [(.ref o)])) _
    refine XS.iconst X15.here hx rfl (hb hby at_87) ?_
    exact k
  have Vc3 := V9
  obtain ⟨cl16, Ar16, q16, S16, M16, H16, G16⟩ := Vc3
  have hin16 : ¬ ((3 : Int32) < 0 ∨ cl16.slots.size ≤ ((3 : Int32)).toNatClampNeg) := inb_of S16 ⟨by decide, by decide⟩
  have hat16 : cl16.slots[((3 : Int32)).toNatClampNeg]? = some (.int b3) := H16.at hin16 rfl
  refine own_st (B := T15.setTop (mkF m 89 #[.val (.int p0), .val (.int p1), .val (.int p2), .val (.int p3), .val (.int rr), .val (.ref o), .val (.int fr), .val (.int to), .val (.int (own_dig b0)), .val (.int (own_dig b1)), .val (.int (own_dig b2)), .unset, .unset, .unset] [(.int b3)])) (fun t k => ?_) ?_
  · show Steps p.tables e below (T15.setTop (mkF m 88 #[.val (.int p0), .val (.int p1), .val (.int p2), .val (.int p3), .val (.int rr), .val (.ref o), .val (.int fr), .val (.int to), .val (.int (own_dig b0)), .val (.int (own_dig b1)), .val (.int (own_dig b2)), .unset, .unset, .unset] [(.int (3 : Int32)), (.ref o)])) _
    refine X15.baloadBytes hx (j := (3 : Int32)) (v := (.int b3)) (by rw [e15]; exact Ar16.1) (State.isArrayOf_alike hZ.alike Ar16.2.1) Ar16.2.2 hin16 hat16 (g := (mkF m 88 #[.val (.int p0), .val (.int p1), .val (.int p2), .val (.int p3), .val (.int rr), .val (.ref o), .val (.int fr), .val (.int to), .val (.int (own_dig b0)), .val (.int (own_dig b1)), .val (.int (own_dig b2)), .unset, .unset, .unset] [(.int (3 : Int32)), (.ref o)])) rfl rfl (hb hby at_88) _ ?_
    exact k
  obtain ⟨_, _, ⟨T17, L17, k17, n17⟩, -, X17, ⟨Lc17, hQ17, l17, y17, z17⟩, st17⟩ := Jvm.LawKit.callS X15 hx (y := (⟨"com/example/hour_ending/hourending/prices/PriceLayoutDigitsPinLaw", "dig", "(B)I"⟩ : MethodName)) hown (mvT hZ (hw _ (List.mem_of_getElem? (i := 6) rfl))) (mvT hZ (hw _ (List.mem_of_getElem? (i := 7) rfl))) (mvT hZ (hw _ (List.mem_of_getElem? (i := 3) rfl))) (mvT hZ (hw _ (List.mem_of_getElem? (i := 8) rfl))) (by decide) (backOf (W := 0) (rm2 l Z a0 hw [] b3 h9 n0 Zk) hZ (hw _ (List.mem_of_getElem? (i := 8) rfl)) (hw _ (List.mem_of_getElem? (i := 3) rfl)) (by decide) (by decide)) (g := (mkF m 89 #[.val (.int p0), .val (.int p1), .val (.int p2), .val (.int p3), .val (.int rr), .val (.ref o), .val (.int fr), .val (.int to), .val (.int (own_dig b0)), .val (.int (own_dig b1)), .val (.int (own_dig b2)), .unset, .unset, .unset] [(.int b3)])) rfl (by rw [hml]; rfl) (argsL := [(.int b3)]) (rest := []) (lenOf pd_2 rfl) rfl (by show 2 * 0 + _ ≤ _; exact Nat.le_of_eq rfl) (hb hby at_89) (fun _ _ => ⟨rfl, e15, (by decide : 1 + 0 ≤ _), (by decide : 4 + 0 ≤ _)⟩)
  dsimp only [Pt.U, Pt.locs, Pt.cells, Pt.slots] at X17 l17 y17 z17 st17 hQ17
  subst l17 y17 z17
  obtain ⟨rfl, N17q, e17⟩ := hQ17
  have N17 := Fr.app N15 N17q
  refine own_st (B := T17.setTop (mkF m 92 #[.val (.int p0), .val (.int p1), .val (.int p2), .val (.int p3), .val (.int rr), .val (.ref o), .val (.int fr), .val (.int to), .val (.int (own_dig b0)), .val (.int (own_dig b1)), .val (.int (own_dig b2)), .unset, .unset, .unset] [(.int (own_dig b3))])) (fun t k => st17 _ k) ?_
  refine own_st (B := T17.setTop (mkF m 101 #[.val (.int p0), .val (.int p1), .val (.int p2), .val (.int p3), .val (.int rr), .val (.ref o), .val (.int fr), .val (.int to), .val (.int (own_dig b0)), .val (.int (own_dig b1)), .val (.int (own_dig b2)), .val (.int (own_dig b3)), .unset, .unset] [(.int (own_dig b0)), (.int to), (.int fr), (.int (0 : Int32))])) (fun t k => ?_) ?_
  · show Steps p.tables e below (T17.setTop (mkF m 92 #[.val (.int p0), .val (.int p1), .val (.int p2), .val (.int p3), .val (.int rr), .val (.ref o), .val (.int fr), .val (.int to), .val (.int (own_dig b0)), .val (.int (own_dig b1)), .val (.int (own_dig b2)), .unset, .unset, .unset] [(.int (own_dig b3))])) _
    refine XS.istore X17.here hx rfl (hb hby at_92) rfl (l' := #[.val (.int p0), .val (.int p1), .val (.int p2), .val (.int p3), .val (.int rr), .val (.ref o), .val (.int fr), .val (.int to), .val (.int (own_dig b0)), .val (.int (own_dig b1)), .val (.int (own_dig b2)), .val (.int (own_dig b3)), .unset, .unset]) rfl ?_
    show Steps p.tables e below (T17.setTop (mkF m 94 #[.val (.int p0), .val (.int p1), .val (.int p2), .val (.int p3), .val (.int rr), .val (.ref o), .val (.int fr), .val (.int to), .val (.int (own_dig b0)), .val (.int (own_dig b1)), .val (.int (own_dig b2)), .val (.int (own_dig b3)), .unset, .unset] [])) _
    refine XS.iconst X17.here hx rfl (hb hby at_94) ?_
    show Steps p.tables e below (T17.setTop (mkF m 95 #[.val (.int p0), .val (.int p1), .val (.int p2), .val (.int p3), .val (.int rr), .val (.ref o), .val (.int fr), .val (.int to), .val (.int (own_dig b0)), .val (.int (own_dig b1)), .val (.int (own_dig b2)), .val (.int (own_dig b3)), .unset, .unset] [(.int (0 : Int32))])) _
    refine XS.iload X17.here hx rfl (hb hby at_95) rfl ?_
    show Steps p.tables e below (T17.setTop (mkF m 97 #[.val (.int p0), .val (.int p1), .val (.int p2), .val (.int p3), .val (.int rr), .val (.ref o), .val (.int fr), .val (.int to), .val (.int (own_dig b0)), .val (.int (own_dig b1)), .val (.int (own_dig b2)), .val (.int (own_dig b3)), .unset, .unset] [(.int fr), (.int (0 : Int32))])) _
    refine XS.iload X17.here hx rfl (hb hby at_97) rfl ?_
    show Steps p.tables e below (T17.setTop (mkF m 99 #[.val (.int p0), .val (.int p1), .val (.int p2), .val (.int p3), .val (.int rr), .val (.ref o), .val (.int fr), .val (.int to), .val (.int (own_dig b0)), .val (.int (own_dig b1)), .val (.int (own_dig b2)), .val (.int (own_dig b3)), .unset, .unset] [(.int to), (.int fr), (.int (0 : Int32))])) _
    refine XS.iload X17.here hx rfl (hb hby at_99) rfl ?_
    exact k
  have k216 : ∀ (T18 : State) (lc18 : List Loc) (X18 : Stand p l e room_1 s m #[(.int p0), (.int p1), (.int p2), (.int p3), (.int rr)] below meth c T18 lc18 1 4) (N18 : Fr n0 lc18) (Z18 : n0 ≤ T18.heap.size) (eT : T18.heap = h9) (bd ex : Int32) (hv : own_D b0 b1 b2 b3 fr to = ex), own_G p e below (fun (t : State) (o : Outcome) => t.status = .running ∧ Ended t below o ∧ ∃ v L, o = .returned v ∧ Q0 Z p0 p1 p2 p3 rr h0 n0 v t.heap L ∧ FrameEnd s o t L room_1.cells room_1.slots) (T18.setTop (mkF m 216 #[.val (.int p0), .val (.int p1), .val (.int p2), .val (.int p3), .val (.int rr), .val (.ref o), .val (.int fr), .val (.int to), .val (.int (own_dig b0)), .val (.int (own_dig b1)), .val (.int (own_dig b2)), .val (.int (own_dig b3)), .val (.int bd), .val (.int ex)] [])) := by
    intro T18 lc18 X18 N18 Z18 eT bd ex hv
    refine own_st (B := T18.setTop (mkF m 222 #[.val (.int p0), .val (.int p1), .val (.int p2), .val (.int p3), .val (.int rr), .val (.ref o), .val (.int fr), .val (.int to), .val (.int (own_dig b0)), .val (.int (own_dig b1)), .val (.int (own_dig b2)), .val (.int (own_dig b3)), .val (.int bd), .val (.int ex)] [(.int to), (.int fr), (.ref o)])) (fun t k => ?_) ?_
    · show Steps p.tables e below (T18.setTop (mkF m 216 #[.val (.int p0), .val (.int p1), .val (.int p2), .val (.int p3), .val (.int rr), .val (.ref o), .val (.int fr), .val (.int to), .val (.int (own_dig b0)), .val (.int (own_dig b1)), .val (.int (own_dig b2)), .val (.int (own_dig b3)), .val (.int bd), .val (.int ex)] [])) _
      refine XS.aload X18.here hx rfl (hb hby at_216) rfl rfl ?_
      show Steps p.tables e below (T18.setTop (mkF m 218 #[.val (.int p0), .val (.int p1), .val (.int p2), .val (.int p3), .val (.int rr), .val (.ref o), .val (.int fr), .val (.int to), .val (.int (own_dig b0)), .val (.int (own_dig b1)), .val (.int (own_dig b2)), .val (.int (own_dig b3)), .val (.int bd), .val (.int ex)] [(.ref o)])) _
      refine XS.iload X18.here hx rfl (hb hby at_218) rfl ?_
      show Steps p.tables e below (T18.setTop (mkF m 220 #[.val (.int p0), .val (.int p1), .val (.int p2), .val (.int p3), .val (.int rr), .val (.ref o), .val (.int fr), .val (.int to), .val (.int (own_dig b0)), .val (.int (own_dig b1)), .val (.int (own_dig b2)), .val (.int (own_dig b3)), .val (.int bd), .val (.int ex)] [(.int fr), (.ref o)])) _
      refine XS.iload X18.here hx rfl (hb hby at_220) rfl ?_
      exact k
    obtain ⟨_, _, ⟨T19, L19, k19, n19⟩, -, X19, ⟨Lc19, hQ19, l19, y19, z19⟩, st19⟩ := Jvm.LawKit.callS X18 hx (y := (⟨"com/example/hour_ending/hourending/prices/PriceLayout", "digits", "([BII)I"⟩ : MethodName)) hown (mvT hZ (hw _ (List.mem_of_getElem? (i := 12) rfl))) (mvT hZ (hw _ (List.mem_of_getElem? (i := 13) rfl))) (mvT hZ (hw _ (List.mem_of_getElem? (i := 14) rfl))) (mvT hZ (hw _ (List.mem_of_getElem? (i := 15) rfl))) (by decide) (backOf (W := 0) (rm4 l Z a0 hw [] o fr to k1 b0 b1 b2 b3 h9 n0 Zk V9 hf ht) hZ (hw _ (List.mem_of_getElem? (i := 15) rfl)) (hw _ (List.mem_of_getElem? (i := 14) rfl)) (by decide) (by decide)) (g := (mkF m 222 #[.val (.int p0), .val (.int p1), .val (.int p2), .val (.int p3), .val (.int rr), .val (.ref o), .val (.int fr), .val (.int to), .val (.int (own_dig b0)), .val (.int (own_dig b1)), .val (.int (own_dig b2)), .val (.int (own_dig b3)), .val (.int bd), .val (.int ex)] [(.int to), (.int fr), (.ref o)])) rfl (by rw [hml]; rfl) (argsL := [(.ref o), (.int fr), (.int to)]) (rest := []) (lenOf pd_3 rfl) rfl (by show 2 * 0 + _ ≤ _; exact Nat.le_of_eq rfl) (hb hby at_222) (fun _ _ => ⟨rfl, eT, (by decide : 1 + 0 ≤ _), (by decide : 4 + 0 ≤ _)⟩)
    dsimp only [Pt.U, Pt.locs, Pt.cells, Pt.slots] at X19 l19 y19 z19 st19 hQ19
    subst l19 y19 z19
    obtain ⟨rfl, N19q, e19⟩ := hQ19
    have N19 := Fr.app N18 N19q
    refine own_st (B := T19.setTop (mkF m 225 #[.val (.int p0), .val (.int p1), .val (.int p2), .val (.int p3), .val (.int rr), .val (.ref o), .val (.int fr), .val (.int to), .val (.int (own_dig b0)), .val (.int (own_dig b1)), .val (.int (own_dig b2)), .val (.int (own_dig b3)), .val (.int bd), .val (.int ex)] [(.int (own_D b0 b1 b2 b3 fr to))])) (fun t k => st19 _ k) ?_
    refine own_st (B := T19.setTop (mkF m 227 #[.val (.int p0), .val (.int p1), .val (.int p2), .val (.int p3), .val (.int rr), .val (.ref o), .val (.int fr), .val (.int to), .val (.int (own_dig b0)), .val (.int (own_dig b1)), .val (.int (own_dig b2)), .val (.int (own_dig b3)), .val (.int bd), .val (.int ex)] [(.int ex), (.int (own_D b0 b1 b2 b3 fr to))])) (fun t k => ?_) ?_
    · show Steps p.tables e below (T19.setTop (mkF m 225 #[.val (.int p0), .val (.int p1), .val (.int p2), .val (.int p3), .val (.int rr), .val (.ref o), .val (.int fr), .val (.int to), .val (.int (own_dig b0)), .val (.int (own_dig b1)), .val (.int (own_dig b2)), .val (.int (own_dig b3)), .val (.int bd), .val (.int ex)] [(.int (own_D b0 b1 b2 b3 fr to))])) _
      refine XS.iload X19.here hx rfl (hb hby at_225) rfl ?_
      exact k
    refine own_st (B := T19.setTop (mkF m 235 #[.val (.int p0), .val (.int p1), .val (.int p2), .val (.int p3), .val (.int rr), .val (.ref o), .val (.int fr), .val (.int to), .val (.int (own_dig b0)), .val (.int (own_dig b1)), .val (.int (own_dig b2)), .val (.int (own_dig b3)), .val (.int bd), .val (.int ex)] [(.int (1 : Int32))])) (fun t k => ?_) ?_
    · show Steps p.tables e below (T19.setTop (mkF m 227 #[.val (.int p0), .val (.int p1), .val (.int p2), .val (.int p3), .val (.int rr), .val (.ref o), .val (.int fr), .val (.int to), .val (.int (own_dig b0)), .val (.int (own_dig b1)), .val (.int (own_dig b2)), .val (.int (own_dig b3)), .val (.int bd), .val (.int ex)] [(.int ex), (.int (own_D b0 b1 b2 b3 fr to))])) _
      refine XS.icmpNo X19.here hx rfl (hb hby at_227) rfl (teq hv).2 ?_
      show Steps p.tables e below (T19.setTop (mkF m 230 #[.val (.int p0), .val (.int p1), .val (.int p2), .val (.int p3), .val (.int rr), .val (.ref o), .val (.int fr), .val (.int to), .val (.int (own_dig b0)), .val (.int (own_dig b1)), .val (.int (own_dig b2)), .val (.int (own_dig b3)), .val (.int bd), .val (.int ex)] [])) _
      refine XS.iconst X19.here hx rfl (hb hby at_230) ?_
      show Steps p.tables e below (T19.setTop (mkF m 231 #[.val (.int p0), .val (.int p1), .val (.int p2), .val (.int p3), .val (.int rr), .val (.ref o), .val (.int fr), .val (.int to), .val (.int (own_dig b0)), .val (.int (own_dig b1)), .val (.int (own_dig b2)), .val (.int (own_dig b3)), .val (.int bd), .val (.int ex)] [(.int (1 : Int32))])) _
      refine XS.goto X19.here hx rfl (pc0 := 231) (pc' := 235) rfl (hb hby at_231) (by decide) (by decide) ?_
      exact k
    obtain ⟨fs, hr, hrun, hended, hW, hsame⟩ := X19.leave (v := some (.int (1 : Int32))) (fun h => by rw [Bd.returns] at h; cases h)
    refine ⟨_, _, ?_, hrun, hended, _, _, rfl, ?_, ⟨_, rfl⟩, hW, hsame.mono (by decide) (by decide)⟩
    · exact retOut X19 hx Bd.returns rfl (Or.inl ⟨rfl, by simp, _, rfl⟩) (hb hby at_235) hr
    · show Q0 Z p0 p1 p2 p3 rr h0 n0 _ T19.heap _
      rw [e19]
      exact ⟨rfl, N19⟩
  have k151 : ∀ (T20 : State) (lc20 : List Loc) (X20 : Stand p l e room_1 s m #[(.int p0), (.int p1), (.int p2), (.int p3), (.int rr)] below meth c T20 lc20 1 4) (N20 : Fr n0 lc20) (Z20 : n0 ≤ T20.heap.size) (eT : T20.heap = h9), own_G p e below (fun (t : State) (o : Outcome) => t.status = .running ∧ Ended t below o ∧ ∃ v L, o = .returned v ∧ Q0 Z p0 p1 p2 p3 rr h0 n0 v t.heap L ∧ FrameEnd s o t L room_1.cells room_1.slots) (T20.setTop (mkF m 151 #[.val (.int p0), .val (.int p1), .val (.int p2), .val (.int p3), .val (.int rr), .val (.ref o), .val (.int fr), .val (.int to), .val (.int (own_dig b0)), .val (.int (own_dig b1)), .val (.int (own_dig b2)), .val (.int (own_dig b3)), .unset, .unset] [(.int (own_b (own_B b0 b1 b2 b3 fr to)))])) := by
    intro T20 lc20 X20 N20 Z20 eT
    refine own_st (B := T20.setTop (mkF m 157 #[.val (.int p0), .val (.int p1), .val (.int p2), .val (.int p3), .val (.int rr), .val (.ref o), .val (.int fr), .val (.int to), .val (.int (own_dig b0)), .val (.int (own_dig b1)), .val (.int (own_dig b2)), .val (.int (own_dig b3)), .val (.int (own_b (own_B b0 b1 b2 b3 fr to))), .unset] [(.int fr), (.int to)])) (fun t k => ?_) ?_
    · show Steps p.tables e below (T20.setTop (mkF m 151 #[.val (.int p0), .val (.int p1), .val (.int p2), .val (.int p3), .val (.int rr), .val (.ref o), .val (.int fr), .val (.int to), .val (.int (own_dig b0)), .val (.int (own_dig b1)), .val (.int (own_dig b2)), .val (.int (own_dig b3)), .unset, .unset] [(.int (own_b (own_B b0 b1 b2 b3 fr to)))])) _
      refine XS.istore X20.here hx rfl (hb hby at_151) rfl (l' := #[.val (.int p0), .val (.int p1), .val (.int p2), .val (.int p3), .val (.int rr), .val (.ref o), .val (.int fr), .val (.int to), .val (.int (own_dig b0)), .val (.int (own_dig b1)), .val (.int (own_dig b2)), .val (.int (own_dig b3)), .val (.int (own_b (own_B b0 b1 b2 b3 fr to))), .unset]) rfl ?_
      show Steps p.tables e below (T20.setTop (mkF m 153 #[.val (.int p0), .val (.int p1), .val (.int p2), .val (.int p3), .val (.int rr), .val (.ref o), .val (.int fr), .val (.int to), .val (.int (own_dig b0)), .val (.int (own_dig b1)), .val (.int (own_dig b2)), .val (.int (own_dig b3)), .val (.int (own_b (own_B b0 b1 b2 b3 fr to))), .unset] [])) _
      refine XS.iload X20.here hx rfl (hb hby at_153) rfl ?_
      show Steps p.tables e below (T20.setTop (mkF m 155 #[.val (.int p0), .val (.int p1), .val (.int p2), .val (.int p3), .val (.int rr), .val (.ref o), .val (.int fr), .val (.int to), .val (.int (own_dig b0)), .val (.int (own_dig b1)), .val (.int (own_dig b2)), .val (.int (own_dig b3)), .val (.int (own_b (own_B b0 b1 b2 b3 fr to))), .unset] [(.int to)])) _
      refine XS.iload X20.here hx rfl (hb hby at_155) rfl ?_
      exact k
    by_cases h157 : fr < to
    · refine own_st (B := T20.setTop (mkF m 162 #[.val (.int p0), .val (.int p1), .val (.int p2), .val (.int p3), .val (.int rr), .val (.ref o), .val (.int fr), .val (.int to), .val (.int (own_dig b0)), .val (.int (own_dig b1)), .val (.int (own_dig b2)), .val (.int (own_dig b3)), .val (.int (own_b (own_B b0 b1 b2 b3 fr to))), .unset] [(.int (own_b (own_B b0 b1 b2 b3 fr to)))])) (fun t k => ?_) ?_
      · show Steps p.tables e below (T20.setTop (mkF m 157 #[.val (.int p0), .val (.int p1), .val (.int p2), .val (.int p3), .val (.int rr), .val (.ref o), .val (.int fr), .val (.int to), .val (.int (own_dig b0)), .val (.int (own_dig b1)), .val (.int (own_dig b2)), .val (.int (own_dig b3)), .val (.int (own_b (own_B b0 b1 b2 b3 fr to))), .unset] [(.int fr), (.int to)])) _
        refine XS.icmpNo X20.here hx rfl (hb hby at_157) rfl (tlt h157).2.2.2 ?_
        show Steps p.tables e below (T20.setTop (mkF m 160 #[.val (.int p0), .val (.int p1), .val (.int p2), .val (.int p3), .val (.int rr), .val (.ref o), .val (.int fr), .val (.int to), .val (.int (own_dig b0)), .val (.int (own_dig b1)), .val (.int (own_dig b2)), .val (.int (own_dig b3)), .val (.int (own_b (own_B b0 b1 b2 b3 fr to))), .unset] [])) _
        refine XS.iload X20.here hx rfl (hb hby at_160) rfl ?_
        exact k
      by_cases h162 : own_B b0 b1 b2 b3 fr to = false
      · refine own_st (B := T20.setTop (mkF m 178 #[.val (.int p0), .val (.int p1), .val (.int p2), .val (.int p3), .val (.int rr), .val (.ref o), .val (.int fr), .val (.int to), .val (.int (own_dig b0)), .val (.int (own_dig b1)), .val (.int (own_dig b2)), .val (.int (own_dig b3)), .val (.int (own_b (own_B b0 b1 b2 b3 fr to))), .unset] [(.int (own_dig b0)), (.int to), (.int fr), (.int (0 : Int32))])) (fun t k => ?_) ?_
        · show Steps p.tables e below (T20.setTop (mkF m 162 #[.val (.int p0), .val (.int p1), .val (.int p2), .val (.int p3), .val (.int rr), .val (.ref o), .val (.int fr), .val (.int to), .val (.int (own_dig b0)), .val (.int (own_dig b1)), .val (.int (own_dig b2)), .val (.int (own_dig b3)), .val (.int (own_b (own_B b0 b1 b2 b3 fr to))), .unset] [(.int (own_b (own_B b0 b1 b2 b3 fr to)))])) _
          refine XS.ifYes X20.here hx rfl (pc0 := 162) (pc' := 171) rfl (hb hby at_162) rfl ((if0 _ _).trans (teq (own_b_ne.mpr h162)).1) (by decide) (by decide) ?_
          show Steps p.tables e below (T20.setTop (mkF m 171 #[.val (.int p0), .val (.int p1), .val (.int p2), .val (.int p3), .val (.int rr), .val (.ref o), .val (.int fr), .val (.int to), .val (.int (own_dig b0)), .val (.int (own_dig b1)), .val (.int (own_dig b2)), .val (.int (own_dig b3)), .val (.int (own_b (own_B b0 b1 b2 b3 fr to))), .unset] [])) _
          refine XS.iconst X20.here hx rfl (hb hby at_171) ?_
          show Steps p.tables e below (T20.setTop (mkF m 172 #[.val (.int p0), .val (.int p1), .val (.int p2), .val (.int p3), .val (.int rr), .val (.ref o), .val (.int fr), .val (.int to), .val (.int (own_dig b0)), .val (.int (own_dig b1)), .val (.int (own_dig b2)), .val (.int (own_dig b3)), .val (.int (own_b (own_B b0 b1 b2 b3 fr to))), .unset] [(.int (0 : Int32))])) _
          refine XS.iload X20.here hx rfl (hb hby at_172) rfl ?_
          show Steps p.tables e below (T20.setTop (mkF m 174 #[.val (.int p0), .val (.int p1), .val (.int p2), .val (.int p3), .val (.int rr), .val (.ref o), .val (.int fr), .val (.int to), .val (.int (own_dig b0)), .val (.int (own_dig b1)), .val (.int (own_dig b2)), .val (.int (own_dig b3)), .val (.int (own_b (own_B b0 b1 b2 b3 fr to))), .unset] [(.int fr), (.int (0 : Int32))])) _
          refine XS.iload X20.here hx rfl (hb hby at_174) rfl ?_
          show Steps p.tables e below (T20.setTop (mkF m 176 #[.val (.int p0), .val (.int p1), .val (.int p2), .val (.int p3), .val (.int rr), .val (.ref o), .val (.int fr), .val (.int to), .val (.int (own_dig b0)), .val (.int (own_dig b1)), .val (.int (own_dig b2)), .val (.int (own_dig b3)), .val (.int (own_b (own_B b0 b1 b2 b3 fr to))), .unset] [(.int to), (.int fr), (.int (0 : Int32))])) _
          refine XS.iload X20.here hx rfl (hb hby at_176) rfl ?_
          exact k
        obtain ⟨_, _, ⟨T21, L21, k21, n21⟩, -, X21, ⟨Lc21, hQ21, l21, y21, z21⟩, st21⟩ := Jvm.LawKit.callS X20 hx (y := (⟨"com/example/hour_ending/hourending/prices/PriceLayoutDigitsPinLaw", "term", "(IIII)I"⟩ : MethodName)) hown (mvT hZ (hw _ (List.mem_of_getElem? (i := 16) rfl))) (mvT hZ (hw _ (List.mem_of_getElem? (i := 17) rfl))) (mvT hZ (hw _ (List.mem_of_getElem? (i := 3) rfl))) (mvT hZ (hw _ (List.mem_of_getElem? (i := 18) rfl))) (by decide) (backOf (W := 0) (rm5 l Z a0 hw [] (0 : Int32) fr to (own_dig b0) h9 n0 Zk) hZ (hw _ (List.mem_of_getElem? (i := 18) rfl)) (hw _ (List.mem_of_getElem? (i := 3) rfl)) (by decide) (by decide)) (g := (mkF m 178 #[.val (.int p0), .val (.int p1), .val (.int p2), .val (.int p3), .val (.int rr), .val (.ref o), .val (.int fr), .val (.int to), .val (.int (own_dig b0)), .val (.int (own_dig b1)), .val (.int (own_dig b2)), .val (.int (own_dig b3)), .val (.int (own_b (own_B b0 b1 b2 b3 fr to))), .unset] [(.int (own_dig b0)), (.int to), (.int fr), (.int (0 : Int32))])) rfl (by rw [hml]; rfl) (argsL := [(.int (0 : Int32)), (.int fr), (.int to), (.int (own_dig b0))]) (rest := []) (lenOf pd_4 rfl) rfl (by show 2 * 0 + _ ≤ _; exact Nat.le_of_eq rfl) (hb hby at_178) (fun _ _ => ⟨rfl, eT, (by decide : 1 + 0 ≤ _), (by decide : 4 + 0 ≤ _)⟩)
        dsimp only [Pt.U, Pt.locs, Pt.cells, Pt.slots] at X21 l21 y21 z21 st21 hQ21
        subst l21 y21 z21
        obtain ⟨rfl, N21q, e21⟩ := hQ21
        have N21 := Fr.app N20 N21q
        refine own_st (B := T21.setTop (mkF m 181 #[.val (.int p0), .val (.int p1), .val (.int p2), .val (.int p3), .val (.int rr), .val (.ref o), .val (.int fr), .val (.int to), .val (.int (own_dig b0)), .val (.int (own_dig b1)), .val (.int (own_dig b2)), .val (.int (own_dig b3)), .val (.int (own_b (own_B b0 b1 b2 b3 fr to))), .unset] [(.int (own_term (0 : Int32) fr to (own_dig b0)))])) (fun t k => st21 _ k) ?_
        refine own_st (B := T21.setTop (mkF m 188 #[.val (.int p0), .val (.int p1), .val (.int p2), .val (.int p3), .val (.int rr), .val (.ref o), .val (.int fr), .val (.int to), .val (.int (own_dig b0)), .val (.int (own_dig b1)), .val (.int (own_dig b2)), .val (.int (own_dig b3)), .val (.int (own_b (own_B b0 b1 b2 b3 fr to))), .unset] [(.int (own_dig b1)), (.int to), (.int fr), (.int (1 : Int32)), (.int (own_term (0 : Int32) fr to (own_dig b0)))])) (fun t k => ?_) ?_
        · show Steps p.tables e below (T21.setTop (mkF m 181 #[.val (.int p0), .val (.int p1), .val (.int p2), .val (.int p3), .val (.int rr), .val (.ref o), .val (.int fr), .val (.int to), .val (.int (own_dig b0)), .val (.int (own_dig b1)), .val (.int (own_dig b2)), .val (.int (own_dig b3)), .val (.int (own_b (own_B b0 b1 b2 b3 fr to))), .unset] [(.int (own_term (0 : Int32) fr to (own_dig b0)))])) _
          refine XS.iconst X21.here hx rfl (hb hby at_181) ?_
          show Steps p.tables e below (T21.setTop (mkF m 182 #[.val (.int p0), .val (.int p1), .val (.int p2), .val (.int p3), .val (.int rr), .val (.ref o), .val (.int fr), .val (.int to), .val (.int (own_dig b0)), .val (.int (own_dig b1)), .val (.int (own_dig b2)), .val (.int (own_dig b3)), .val (.int (own_b (own_B b0 b1 b2 b3 fr to))), .unset] [(.int (1 : Int32)), (.int (own_term (0 : Int32) fr to (own_dig b0)))])) _
          refine XS.iload X21.here hx rfl (hb hby at_182) rfl ?_
          show Steps p.tables e below (T21.setTop (mkF m 184 #[.val (.int p0), .val (.int p1), .val (.int p2), .val (.int p3), .val (.int rr), .val (.ref o), .val (.int fr), .val (.int to), .val (.int (own_dig b0)), .val (.int (own_dig b1)), .val (.int (own_dig b2)), .val (.int (own_dig b3)), .val (.int (own_b (own_B b0 b1 b2 b3 fr to))), .unset] [(.int fr), (.int (1 : Int32)), (.int (own_term (0 : Int32) fr to (own_dig b0)))])) _
          refine XS.iload X21.here hx rfl (hb hby at_184) rfl ?_
          show Steps p.tables e below (T21.setTop (mkF m 186 #[.val (.int p0), .val (.int p1), .val (.int p2), .val (.int p3), .val (.int rr), .val (.ref o), .val (.int fr), .val (.int to), .val (.int (own_dig b0)), .val (.int (own_dig b1)), .val (.int (own_dig b2)), .val (.int (own_dig b3)), .val (.int (own_b (own_B b0 b1 b2 b3 fr to))), .unset] [(.int to), (.int fr), (.int (1 : Int32)), (.int (own_term (0 : Int32) fr to (own_dig b0)))])) _
          refine XS.iload X21.here hx rfl (hb hby at_186) rfl ?_
          exact k
        obtain ⟨_, _, ⟨T22, L22, k22, n22⟩, -, X22, ⟨Lc22, hQ22, l22, y22, z22⟩, st22⟩ := Jvm.LawKit.callS X21 hx (y := (⟨"com/example/hour_ending/hourending/prices/PriceLayoutDigitsPinLaw", "term", "(IIII)I"⟩ : MethodName)) hown (mvT hZ (hw _ (List.mem_of_getElem? (i := 16) rfl))) (mvT hZ (hw _ (List.mem_of_getElem? (i := 17) rfl))) (mvT hZ (hw _ (List.mem_of_getElem? (i := 3) rfl))) (mvT hZ (hw _ (List.mem_of_getElem? (i := 18) rfl))) (by decide) (backOf (W := 1) (rm5 l Z a0 hw [] (1 : Int32) fr to (own_dig b1) h9 n0 Zk) hZ (hw _ (List.mem_of_getElem? (i := 18) rfl)) (hw _ (List.mem_of_getElem? (i := 3) rfl)) (by decide) (by decide)) (g := (mkF m 188 #[.val (.int p0), .val (.int p1), .val (.int p2), .val (.int p3), .val (.int rr), .val (.ref o), .val (.int fr), .val (.int to), .val (.int (own_dig b0)), .val (.int (own_dig b1)), .val (.int (own_dig b2)), .val (.int (own_dig b3)), .val (.int (own_b (own_B b0 b1 b2 b3 fr to))), .unset] [(.int (own_dig b1)), (.int to), (.int fr), (.int (1 : Int32)), (.int (own_term (0 : Int32) fr to (own_dig b0)))])) rfl (by rw [hml]; rfl) (argsL := [(.int (1 : Int32)), (.int fr), (.int to), (.int (own_dig b1))]) (rest := [(.int (own_term (0 : Int32) fr to (own_dig b0)))]) (lenOf pd_4 rfl) rfl (by show 2 * 0 + _ ≤ _; exact Nat.le_of_eq rfl) (hb hby at_188) (fun _ _ => ⟨rfl, e21, (by decide : 1 + 0 ≤ _), (by decide : 4 + 0 ≤ _)⟩)
        dsimp only [Pt.U, Pt.locs, Pt.cells, Pt.slots] at X22 l22 y22 z22 st22 hQ22
        subst l22 y22 z22
        obtain ⟨rfl, N22q, e22⟩ := hQ22
        have N22 := Fr.app N21 N22q
        refine own_st (B := T22.setTop (mkF m 191 #[.val (.int p0), .val (.int p1), .val (.int p2), .val (.int p3), .val (.int rr), .val (.ref o), .val (.int fr), .val (.int to), .val (.int (own_dig b0)), .val (.int (own_dig b1)), .val (.int (own_dig b2)), .val (.int (own_dig b3)), .val (.int (own_b (own_B b0 b1 b2 b3 fr to))), .unset] [(.int (own_term (1 : Int32) fr to (own_dig b1))), (.int (own_term (0 : Int32) fr to (own_dig b0)))])) (fun t k => st22 _ k) ?_
        refine own_st (B := T22.setTop (mkF m 199 #[.val (.int p0), .val (.int p1), .val (.int p2), .val (.int p3), .val (.int rr), .val (.ref o), .val (.int fr), .val (.int to), .val (.int (own_dig b0)), .val (.int (own_dig b1)), .val (.int (own_dig b2)), .val (.int (own_dig b3)), .val (.int (own_b (own_B b0 b1 b2 b3 fr to))), .unset] [(.int (own_dig b2)), (.int to), (.int fr), (.int (2 : Int32)), (.int ((own_term (0 : Int32) fr to (own_dig b0)) + (own_term (1 : Int32) fr to (own_dig b1))))])) (fun t k => ?_) ?_
        · show Steps p.tables e below (T22.setTop (mkF m 191 #[.val (.int p0), .val (.int p1), .val (.int p2), .val (.int p3), .val (.int rr), .val (.ref o), .val (.int fr), .val (.int to), .val (.int (own_dig b0)), .val (.int (own_dig b1)), .val (.int (own_dig b2)), .val (.int (own_dig b3)), .val (.int (own_b (own_B b0 b1 b2 b3 fr to))), .unset] [(.int (own_term (1 : Int32) fr to (own_dig b1))), (.int (own_term (0 : Int32) fr to (own_dig b0)))])) _
          refine XS.iadd X22.here hx rfl (hb hby at_191) rfl ?_
          show Steps p.tables e below (T22.setTop (mkF m 192 #[.val (.int p0), .val (.int p1), .val (.int p2), .val (.int p3), .val (.int rr), .val (.ref o), .val (.int fr), .val (.int to), .val (.int (own_dig b0)), .val (.int (own_dig b1)), .val (.int (own_dig b2)), .val (.int (own_dig b3)), .val (.int (own_b (own_B b0 b1 b2 b3 fr to))), .unset] [(.int ((own_term (0 : Int32) fr to (own_dig b0)) + (own_term (1 : Int32) fr to (own_dig b1))))])) _
          refine XS.iconst X22.here hx rfl (hb hby at_192) ?_
          show Steps p.tables e below (T22.setTop (mkF m 193 #[.val (.int p0), .val (.int p1), .val (.int p2), .val (.int p3), .val (.int rr), .val (.ref o), .val (.int fr), .val (.int to), .val (.int (own_dig b0)), .val (.int (own_dig b1)), .val (.int (own_dig b2)), .val (.int (own_dig b3)), .val (.int (own_b (own_B b0 b1 b2 b3 fr to))), .unset] [(.int (2 : Int32)), (.int ((own_term (0 : Int32) fr to (own_dig b0)) + (own_term (1 : Int32) fr to (own_dig b1))))])) _
          refine XS.iload X22.here hx rfl (hb hby at_193) rfl ?_
          show Steps p.tables e below (T22.setTop (mkF m 195 #[.val (.int p0), .val (.int p1), .val (.int p2), .val (.int p3), .val (.int rr), .val (.ref o), .val (.int fr), .val (.int to), .val (.int (own_dig b0)), .val (.int (own_dig b1)), .val (.int (own_dig b2)), .val (.int (own_dig b3)), .val (.int (own_b (own_B b0 b1 b2 b3 fr to))), .unset] [(.int fr), (.int (2 : Int32)), (.int ((own_term (0 : Int32) fr to (own_dig b0)) + (own_term (1 : Int32) fr to (own_dig b1))))])) _
          refine XS.iload X22.here hx rfl (hb hby at_195) rfl ?_
          show Steps p.tables e below (T22.setTop (mkF m 197 #[.val (.int p0), .val (.int p1), .val (.int p2), .val (.int p3), .val (.int rr), .val (.ref o), .val (.int fr), .val (.int to), .val (.int (own_dig b0)), .val (.int (own_dig b1)), .val (.int (own_dig b2)), .val (.int (own_dig b3)), .val (.int (own_b (own_B b0 b1 b2 b3 fr to))), .unset] [(.int to), (.int fr), (.int (2 : Int32)), (.int ((own_term (0 : Int32) fr to (own_dig b0)) + (own_term (1 : Int32) fr to (own_dig b1))))])) _
          refine XS.iload X22.here hx rfl (hb hby at_197) rfl ?_
          exact k
        obtain ⟨_, _, ⟨T23, L23, k23, n23⟩, -, X23, ⟨Lc23, hQ23, l23, y23, z23⟩, st23⟩ := Jvm.LawKit.callS X22 hx (y := (⟨"com/example/hour_ending/hourending/prices/PriceLayoutDigitsPinLaw", "term", "(IIII)I"⟩ : MethodName)) hown (mvT hZ (hw _ (List.mem_of_getElem? (i := 16) rfl))) (mvT hZ (hw _ (List.mem_of_getElem? (i := 17) rfl))) (mvT hZ (hw _ (List.mem_of_getElem? (i := 3) rfl))) (mvT hZ (hw _ (List.mem_of_getElem? (i := 18) rfl))) (by decide) (backOf (W := 1) (rm5 l Z a0 hw [] (2 : Int32) fr to (own_dig b2) h9 n0 Zk) hZ (hw _ (List.mem_of_getElem? (i := 18) rfl)) (hw _ (List.mem_of_getElem? (i := 3) rfl)) (by decide) (by decide)) (g := (mkF m 199 #[.val (.int p0), .val (.int p1), .val (.int p2), .val (.int p3), .val (.int rr), .val (.ref o), .val (.int fr), .val (.int to), .val (.int (own_dig b0)), .val (.int (own_dig b1)), .val (.int (own_dig b2)), .val (.int (own_dig b3)), .val (.int (own_b (own_B b0 b1 b2 b3 fr to))), .unset] [(.int (own_dig b2)), (.int to), (.int fr), (.int (2 : Int32)), (.int ((own_term (0 : Int32) fr to (own_dig b0)) + (own_term (1 : Int32) fr to (own_dig b1))))])) rfl (by rw [hml]; rfl) (argsL := [(.int (2 : Int32)), (.int fr), (.int to), (.int (own_dig b2))]) (rest := [(.int ((own_term (0 : Int32) fr to (own_dig b0)) + (own_term (1 : Int32) fr to (own_dig b1))))]) (lenOf pd_4 rfl) rfl (by show 2 * 0 + _ ≤ _; exact Nat.le_of_eq rfl) (hb hby at_199) (fun _ _ => ⟨rfl, e22, (by decide : 1 + 0 ≤ _), (by decide : 4 + 0 ≤ _)⟩)
        dsimp only [Pt.U, Pt.locs, Pt.cells, Pt.slots] at X23 l23 y23 z23 st23 hQ23
        subst l23 y23 z23
        obtain ⟨rfl, N23q, e23⟩ := hQ23
        have N23 := Fr.app N22 N23q
        refine own_st (B := T23.setTop (mkF m 202 #[.val (.int p0), .val (.int p1), .val (.int p2), .val (.int p3), .val (.int rr), .val (.ref o), .val (.int fr), .val (.int to), .val (.int (own_dig b0)), .val (.int (own_dig b1)), .val (.int (own_dig b2)), .val (.int (own_dig b3)), .val (.int (own_b (own_B b0 b1 b2 b3 fr to))), .unset] [(.int (own_term (2 : Int32) fr to (own_dig b2))), (.int ((own_term (0 : Int32) fr to (own_dig b0)) + (own_term (1 : Int32) fr to (own_dig b1))))])) (fun t k => st23 _ k) ?_
        refine own_st (B := T23.setTop (mkF m 210 #[.val (.int p0), .val (.int p1), .val (.int p2), .val (.int p3), .val (.int rr), .val (.ref o), .val (.int fr), .val (.int to), .val (.int (own_dig b0)), .val (.int (own_dig b1)), .val (.int (own_dig b2)), .val (.int (own_dig b3)), .val (.int (own_b (own_B b0 b1 b2 b3 fr to))), .unset] [(.int (own_dig b3)), (.int to), (.int fr), (.int (3 : Int32)), (.int (((own_term (0 : Int32) fr to (own_dig b0)) + (own_term (1 : Int32) fr to (own_dig b1))) + (own_term (2 : Int32) fr to (own_dig b2))))])) (fun t k => ?_) ?_
        · show Steps p.tables e below (T23.setTop (mkF m 202 #[.val (.int p0), .val (.int p1), .val (.int p2), .val (.int p3), .val (.int rr), .val (.ref o), .val (.int fr), .val (.int to), .val (.int (own_dig b0)), .val (.int (own_dig b1)), .val (.int (own_dig b2)), .val (.int (own_dig b3)), .val (.int (own_b (own_B b0 b1 b2 b3 fr to))), .unset] [(.int (own_term (2 : Int32) fr to (own_dig b2))), (.int ((own_term (0 : Int32) fr to (own_dig b0)) + (own_term (1 : Int32) fr to (own_dig b1))))])) _
          refine XS.iadd X23.here hx rfl (hb hby at_202) rfl ?_
          show Steps p.tables e below (T23.setTop (mkF m 203 #[.val (.int p0), .val (.int p1), .val (.int p2), .val (.int p3), .val (.int rr), .val (.ref o), .val (.int fr), .val (.int to), .val (.int (own_dig b0)), .val (.int (own_dig b1)), .val (.int (own_dig b2)), .val (.int (own_dig b3)), .val (.int (own_b (own_B b0 b1 b2 b3 fr to))), .unset] [(.int (((own_term (0 : Int32) fr to (own_dig b0)) + (own_term (1 : Int32) fr to (own_dig b1))) + (own_term (2 : Int32) fr to (own_dig b2))))])) _
          refine XS.iconst X23.here hx rfl (hb hby at_203) ?_
          show Steps p.tables e below (T23.setTop (mkF m 204 #[.val (.int p0), .val (.int p1), .val (.int p2), .val (.int p3), .val (.int rr), .val (.ref o), .val (.int fr), .val (.int to), .val (.int (own_dig b0)), .val (.int (own_dig b1)), .val (.int (own_dig b2)), .val (.int (own_dig b3)), .val (.int (own_b (own_B b0 b1 b2 b3 fr to))), .unset] [(.int (3 : Int32)), (.int (((own_term (0 : Int32) fr to (own_dig b0)) + (own_term (1 : Int32) fr to (own_dig b1))) + (own_term (2 : Int32) fr to (own_dig b2))))])) _
          refine XS.iload X23.here hx rfl (hb hby at_204) rfl ?_
          show Steps p.tables e below (T23.setTop (mkF m 206 #[.val (.int p0), .val (.int p1), .val (.int p2), .val (.int p3), .val (.int rr), .val (.ref o), .val (.int fr), .val (.int to), .val (.int (own_dig b0)), .val (.int (own_dig b1)), .val (.int (own_dig b2)), .val (.int (own_dig b3)), .val (.int (own_b (own_B b0 b1 b2 b3 fr to))), .unset] [(.int fr), (.int (3 : Int32)), (.int (((own_term (0 : Int32) fr to (own_dig b0)) + (own_term (1 : Int32) fr to (own_dig b1))) + (own_term (2 : Int32) fr to (own_dig b2))))])) _
          refine XS.iload X23.here hx rfl (hb hby at_206) rfl ?_
          show Steps p.tables e below (T23.setTop (mkF m 208 #[.val (.int p0), .val (.int p1), .val (.int p2), .val (.int p3), .val (.int rr), .val (.ref o), .val (.int fr), .val (.int to), .val (.int (own_dig b0)), .val (.int (own_dig b1)), .val (.int (own_dig b2)), .val (.int (own_dig b3)), .val (.int (own_b (own_B b0 b1 b2 b3 fr to))), .unset] [(.int to), (.int fr), (.int (3 : Int32)), (.int (((own_term (0 : Int32) fr to (own_dig b0)) + (own_term (1 : Int32) fr to (own_dig b1))) + (own_term (2 : Int32) fr to (own_dig b2))))])) _
          refine XS.iload X23.here hx rfl (hb hby at_208) rfl ?_
          exact k
        obtain ⟨_, _, ⟨T24, L24, k24, n24⟩, -, X24, ⟨Lc24, hQ24, l24, y24, z24⟩, st24⟩ := Jvm.LawKit.callS X23 hx (y := (⟨"com/example/hour_ending/hourending/prices/PriceLayoutDigitsPinLaw", "term", "(IIII)I"⟩ : MethodName)) hown (mvT hZ (hw _ (List.mem_of_getElem? (i := 16) rfl))) (mvT hZ (hw _ (List.mem_of_getElem? (i := 17) rfl))) (mvT hZ (hw _ (List.mem_of_getElem? (i := 3) rfl))) (mvT hZ (hw _ (List.mem_of_getElem? (i := 18) rfl))) (by decide) (backOf (W := 1) (rm5 l Z a0 hw [] (3 : Int32) fr to (own_dig b3) h9 n0 Zk) hZ (hw _ (List.mem_of_getElem? (i := 18) rfl)) (hw _ (List.mem_of_getElem? (i := 3) rfl)) (by decide) (by decide)) (g := (mkF m 210 #[.val (.int p0), .val (.int p1), .val (.int p2), .val (.int p3), .val (.int rr), .val (.ref o), .val (.int fr), .val (.int to), .val (.int (own_dig b0)), .val (.int (own_dig b1)), .val (.int (own_dig b2)), .val (.int (own_dig b3)), .val (.int (own_b (own_B b0 b1 b2 b3 fr to))), .unset] [(.int (own_dig b3)), (.int to), (.int fr), (.int (3 : Int32)), (.int (((own_term (0 : Int32) fr to (own_dig b0)) + (own_term (1 : Int32) fr to (own_dig b1))) + (own_term (2 : Int32) fr to (own_dig b2))))])) rfl (by rw [hml]; rfl) (argsL := [(.int (3 : Int32)), (.int fr), (.int to), (.int (own_dig b3))]) (rest := [(.int (((own_term (0 : Int32) fr to (own_dig b0)) + (own_term (1 : Int32) fr to (own_dig b1))) + (own_term (2 : Int32) fr to (own_dig b2))))]) (lenOf pd_4 rfl) rfl (by show 2 * 0 + _ ≤ _; exact Nat.le_of_eq rfl) (hb hby at_210) (fun _ _ => ⟨rfl, e23, (by decide : 1 + 0 ≤ _), (by decide : 4 + 0 ≤ _)⟩)
        dsimp only [Pt.U, Pt.locs, Pt.cells, Pt.slots] at X24 l24 y24 z24 st24 hQ24
        subst l24 y24 z24
        obtain ⟨rfl, N24q, e24⟩ := hQ24
        have N24 := Fr.app N23 N24q
        refine own_st (B := T24.setTop (mkF m 213 #[.val (.int p0), .val (.int p1), .val (.int p2), .val (.int p3), .val (.int rr), .val (.ref o), .val (.int fr), .val (.int to), .val (.int (own_dig b0)), .val (.int (own_dig b1)), .val (.int (own_dig b2)), .val (.int (own_dig b3)), .val (.int (own_b (own_B b0 b1 b2 b3 fr to))), .unset] [(.int (own_term (3 : Int32) fr to (own_dig b3))), (.int (((own_term (0 : Int32) fr to (own_dig b0)) + (own_term (1 : Int32) fr to (own_dig b1))) + (own_term (2 : Int32) fr to (own_dig b2))))])) (fun t k => st24 _ k) ?_
        refine own_st (B := T24.setTop (mkF m 216 #[.val (.int p0), .val (.int p1), .val (.int p2), .val (.int p3), .val (.int rr), .val (.ref o), .val (.int fr), .val (.int to), .val (.int (own_dig b0)), .val (.int (own_dig b1)), .val (.int (own_dig b2)), .val (.int (own_dig b3)), .val (.int (own_b (own_B b0 b1 b2 b3 fr to))), .val (.int ((((own_term (0 : Int32) fr to (own_dig b0)) + (own_term (1 : Int32) fr to (own_dig b1))) + (own_term (2 : Int32) fr to (own_dig b2))) + (own_term (3 : Int32) fr to (own_dig b3))))] [])) (fun t k => ?_) ?_
        · show Steps p.tables e below (T24.setTop (mkF m 213 #[.val (.int p0), .val (.int p1), .val (.int p2), .val (.int p3), .val (.int rr), .val (.ref o), .val (.int fr), .val (.int to), .val (.int (own_dig b0)), .val (.int (own_dig b1)), .val (.int (own_dig b2)), .val (.int (own_dig b3)), .val (.int (own_b (own_B b0 b1 b2 b3 fr to))), .unset] [(.int (own_term (3 : Int32) fr to (own_dig b3))), (.int (((own_term (0 : Int32) fr to (own_dig b0)) + (own_term (1 : Int32) fr to (own_dig b1))) + (own_term (2 : Int32) fr to (own_dig b2))))])) _
          refine XS.iadd X24.here hx rfl (hb hby at_213) rfl ?_
          show Steps p.tables e below (T24.setTop (mkF m 214 #[.val (.int p0), .val (.int p1), .val (.int p2), .val (.int p3), .val (.int rr), .val (.ref o), .val (.int fr), .val (.int to), .val (.int (own_dig b0)), .val (.int (own_dig b1)), .val (.int (own_dig b2)), .val (.int (own_dig b3)), .val (.int (own_b (own_B b0 b1 b2 b3 fr to))), .unset] [(.int ((((own_term (0 : Int32) fr to (own_dig b0)) + (own_term (1 : Int32) fr to (own_dig b1))) + (own_term (2 : Int32) fr to (own_dig b2))) + (own_term (3 : Int32) fr to (own_dig b3))))])) _
          refine XS.istore X24.here hx rfl (hb hby at_214) rfl (l' := #[.val (.int p0), .val (.int p1), .val (.int p2), .val (.int p3), .val (.int rr), .val (.ref o), .val (.int fr), .val (.int to), .val (.int (own_dig b0)), .val (.int (own_dig b1)), .val (.int (own_dig b2)), .val (.int (own_dig b3)), .val (.int (own_b (own_B b0 b1 b2 b3 fr to))), .val (.int ((((own_term (0 : Int32) fr to (own_dig b0)) + (own_term (1 : Int32) fr to (own_dig b1))) + (own_term (2 : Int32) fr to (own_dig b2))) + (own_term (3 : Int32) fr to (own_dig b3))))]) rfl ?_
          exact k
        exact k216 _ _ X24 N24 (by rw [e24]; exact Zk) e24 _ _ (own_pos _ _ _ _ _ _ hf ht h157 h162)
      · refine own_st (B := T20.setTop (mkF m 216 #[.val (.int p0), .val (.int p1), .val (.int p2), .val (.int p3), .val (.int rr), .val (.ref o), .val (.int fr), .val (.int to), .val (.int (own_dig b0)), .val (.int (own_dig b1)), .val (.int (own_dig b2)), .val (.int (own_dig b3)), .val (.int (own_b (own_B b0 b1 b2 b3 fr to))), .val (.int (-1 : Int32))] [])) (fun t k => ?_) ?_
        · show Steps p.tables e below (T20.setTop (mkF m 162 #[.val (.int p0), .val (.int p1), .val (.int p2), .val (.int p3), .val (.int rr), .val (.ref o), .val (.int fr), .val (.int to), .val (.int (own_dig b0)), .val (.int (own_dig b1)), .val (.int (own_dig b2)), .val (.int (own_dig b3)), .val (.int (own_b (own_B b0 b1 b2 b3 fr to))), .unset] [(.int (own_b (own_B b0 b1 b2 b3 fr to)))])) _
          refine XS.ifNo X20.here hx rfl (hb hby at_162) rfl ((if0 _ _).trans (feq (fun q => h162 (own_b_ne.mp q))).1) ?_
          show Steps p.tables e below (T20.setTop (mkF m 165 #[.val (.int p0), .val (.int p1), .val (.int p2), .val (.int p3), .val (.int rr), .val (.ref o), .val (.int fr), .val (.int to), .val (.int (own_dig b0)), .val (.int (own_dig b1)), .val (.int (own_dig b2)), .val (.int (own_dig b3)), .val (.int (own_b (own_B b0 b1 b2 b3 fr to))), .unset] [])) _
          refine XS.iconst X20.here hx rfl (hb hby at_165) ?_
          show Steps p.tables e below (T20.setTop (mkF m 166 #[.val (.int p0), .val (.int p1), .val (.int p2), .val (.int p3), .val (.int rr), .val (.ref o), .val (.int fr), .val (.int to), .val (.int (own_dig b0)), .val (.int (own_dig b1)), .val (.int (own_dig b2)), .val (.int (own_dig b3)), .val (.int (own_b (own_B b0 b1 b2 b3 fr to))), .unset] [(.int (-1 : Int32))])) _
          refine XS.istore X20.here hx rfl (hb hby at_166) rfl (l' := #[.val (.int p0), .val (.int p1), .val (.int p2), .val (.int p3), .val (.int rr), .val (.ref o), .val (.int fr), .val (.int to), .val (.int (own_dig b0)), .val (.int (own_dig b1)), .val (.int (own_dig b2)), .val (.int (own_dig b3)), .val (.int (own_b (own_B b0 b1 b2 b3 fr to))), .val (.int (-1 : Int32))]) rfl ?_
          show Steps p.tables e below (T20.setTop (mkF m 168 #[.val (.int p0), .val (.int p1), .val (.int p2), .val (.int p3), .val (.int rr), .val (.ref o), .val (.int fr), .val (.int to), .val (.int (own_dig b0)), .val (.int (own_dig b1)), .val (.int (own_dig b2)), .val (.int (own_dig b3)), .val (.int (own_b (own_B b0 b1 b2 b3 fr to))), .val (.int (-1 : Int32))] [])) _
          refine XS.goto X20.here hx rfl (pc0 := 168) (pc' := 216) rfl (hb hby at_168) (by decide) (by decide) ?_
          exact k
        exact k216 _ _ X20 N20 (by rw [eT]; exact Zk) eT _ _ (own_neg _ _ _ _ _ _ hf ht (Or.inr (by simpa using h162)))
    · refine own_st (B := T20.setTop (mkF m 216 #[.val (.int p0), .val (.int p1), .val (.int p2), .val (.int p3), .val (.int rr), .val (.ref o), .val (.int fr), .val (.int to), .val (.int (own_dig b0)), .val (.int (own_dig b1)), .val (.int (own_dig b2)), .val (.int (own_dig b3)), .val (.int (own_b (own_B b0 b1 b2 b3 fr to))), .val (.int (-1 : Int32))] [])) (fun t k => ?_) ?_
      · show Steps p.tables e below (T20.setTop (mkF m 157 #[.val (.int p0), .val (.int p1), .val (.int p2), .val (.int p3), .val (.int rr), .val (.ref o), .val (.int fr), .val (.int to), .val (.int (own_dig b0)), .val (.int (own_dig b1)), .val (.int (own_dig b2)), .val (.int (own_dig b3)), .val (.int (own_b (own_B b0 b1 b2 b3 fr to))), .unset] [(.int fr), (.int to)])) _
        refine XS.icmpYes X20.here hx rfl (pc0 := 157) (pc' := 165) rfl (hb hby at_157) rfl (flt h157).2.2.2 (by decide) (by decide) ?_
        show Steps p.tables e below (T20.setTop (mkF m 165 #[.val (.int p0), .val (.int p1), .val (.int p2), .val (.int p3), .val (.int rr), .val (.ref o), .val (.int fr), .val (.int to), .val (.int (own_dig b0)), .val (.int (own_dig b1)), .val (.int (own_dig b2)), .val (.int (own_dig b3)), .val (.int (own_b (own_B b0 b1 b2 b3 fr to))), .unset] [])) _
        refine XS.iconst X20.here hx rfl (hb hby at_165) ?_
        show Steps p.tables e below (T20.setTop (mkF m 166 #[.val (.int p0), .val (.int p1), .val (.int p2), .val (.int p3), .val (.int rr), .val (.ref o), .val (.int fr), .val (.int to), .val (.int (own_dig b0)), .val (.int (own_dig b1)), .val (.int (own_dig b2)), .val (.int (own_dig b3)), .val (.int (own_b (own_B b0 b1 b2 b3 fr to))), .unset] [(.int (-1 : Int32))])) _
        refine XS.istore X20.here hx rfl (hb hby at_166) rfl (l' := #[.val (.int p0), .val (.int p1), .val (.int p2), .val (.int p3), .val (.int rr), .val (.ref o), .val (.int fr), .val (.int to), .val (.int (own_dig b0)), .val (.int (own_dig b1)), .val (.int (own_dig b2)), .val (.int (own_dig b3)), .val (.int (own_b (own_B b0 b1 b2 b3 fr to))), .val (.int (-1 : Int32))]) rfl ?_
        show Steps p.tables e below (T20.setTop (mkF m 168 #[.val (.int p0), .val (.int p1), .val (.int p2), .val (.int p3), .val (.int rr), .val (.ref o), .val (.int fr), .val (.int to), .val (.int (own_dig b0)), .val (.int (own_dig b1)), .val (.int (own_dig b2)), .val (.int (own_dig b3)), .val (.int (own_b (own_B b0 b1 b2 b3 fr to))), .val (.int (-1 : Int32))] [])) _
        refine XS.goto X20.here hx rfl (pc0 := 168) (pc' := 216) rfl (hb hby at_168) (by decide) (by decide) ?_
        exact k
      exact k216 _ _ X20 N20 (by rw [eT]; exact Zk) eT _ _ (own_neg _ _ _ _ _ _ hf ht (Or.inl h157))
  obtain ⟨_, _, ⟨T25, L25, k25, n25⟩, -, X25, ⟨Lc25, hQ25, l25, y25, z25⟩, st25⟩ := Jvm.LawKit.callS X17 hx (y := (⟨"com/example/hour_ending/hourending/prices/PriceLayoutDigitsPinLaw", "badAt", "(IIII)Z"⟩ : MethodName)) hown (mvT hZ (hw _ (List.mem_of_getElem? (i := 9) rfl))) (mvT hZ (hw _ (List.mem_of_getElem? (i := 10) rfl))) (mvT hZ (hw _ (List.mem_of_getElem? (i := 3) rfl))) (mvT hZ (hw _ (List.mem_of_getElem? (i := 11) rfl))) (by decide) (backOf (W := 0) (rm3 l Z a0 hw [] (0 : Int32) fr to (own_dig b0) h9 n0 Zk) hZ (hw _ (List.mem_of_getElem? (i := 11) rfl)) (hw _ (List.mem_of_getElem? (i := 3) rfl)) (by decide) (by decide)) (g := (mkF m 101 #[.val (.int p0), .val (.int p1), .val (.int p2), .val (.int p3), .val (.int rr), .val (.ref o), .val (.int fr), .val (.int to), .val (.int (own_dig b0)), .val (.int (own_dig b1)), .val (.int (own_dig b2)), .val (.int (own_dig b3)), .unset, .unset] [(.int (own_dig b0)), (.int to), (.int fr), (.int (0 : Int32))])) rfl (by rw [hml]; rfl) (argsL := [(.int (0 : Int32)), (.int fr), (.int to), (.int (own_dig b0))]) (rest := []) (lenOf pd_5 rfl) rfl (by show 2 * 0 + _ ≤ _; exact Nat.le_of_eq rfl) (hb hby at_101) (fun _ _ => ⟨rfl, e17, (by decide : 1 + 0 ≤ _), (by decide : 4 + 0 ≤ _)⟩)
  dsimp only [Pt.U, Pt.locs, Pt.cells, Pt.slots] at X25 l25 y25 z25 st25 hQ25
  subst l25 y25 z25
  obtain ⟨rfl, N25q, e25⟩ := hQ25
  have N25 := Fr.app N17 N25q
  refine own_st (B := T25.setTop (mkF m 104 #[.val (.int p0), .val (.int p1), .val (.int p2), .val (.int p3), .val (.int rr), .val (.ref o), .val (.int fr), .val (.int to), .val (.int (own_dig b0)), .val (.int (own_dig b1)), .val (.int (own_dig b2)), .val (.int (own_dig b3)), .unset, .unset] [(.int (own_b (own_ba (0 : Int32) fr to (own_dig b0))))])) (fun t k => st25 _ k) ?_
  by_cases hb_0 : own_ba (0 : Int32) fr to (own_dig b0) = false
  · refine own_st (B := T25.setTop (mkF m 114 #[.val (.int p0), .val (.int p1), .val (.int p2), .val (.int p3), .val (.int rr), .val (.ref o), .val (.int fr), .val (.int to), .val (.int (own_dig b0)), .val (.int (own_dig b1)), .val (.int (own_dig b2)), .val (.int (own_dig b3)), .unset, .unset] [(.int (own_dig b1)), (.int to), (.int fr), (.int (1 : Int32))])) (fun t k => ?_) ?_
    · show Steps p.tables e below (T25.setTop (mkF m 104 #[.val (.int p0), .val (.int p1), .val (.int p2), .val (.int p3), .val (.int rr), .val (.ref o), .val (.int fr), .val (.int to), .val (.int (own_dig b0)), .val (.int (own_dig b1)), .val (.int (own_dig b2)), .val (.int (own_dig b3)), .unset, .unset] [(.int (own_b (own_ba (0 : Int32) fr to (own_dig b0))))])) _
      refine XS.ifNo X25.here hx rfl (hb hby at_104) rfl ((if0 _ _).trans (teq (own_b_ne.mpr hb_0)).2) ?_
      show Steps p.tables e below (T25.setTop (mkF m 107 #[.val (.int p0), .val (.int p1), .val (.int p2), .val (.int p3), .val (.int rr), .val (.ref o), .val (.int fr), .val (.int to), .val (.int (own_dig b0)), .val (.int (own_dig b1)), .val (.int (own_dig b2)), .val (.int (own_dig b3)), .unset, .unset] [])) _
      refine XS.iconst X25.here hx rfl (hb hby at_107) ?_
      show Steps p.tables e below (T25.setTop (mkF m 108 #[.val (.int p0), .val (.int p1), .val (.int p2), .val (.int p3), .val (.int rr), .val (.ref o), .val (.int fr), .val (.int to), .val (.int (own_dig b0)), .val (.int (own_dig b1)), .val (.int (own_dig b2)), .val (.int (own_dig b3)), .unset, .unset] [(.int (1 : Int32))])) _
      refine XS.iload X25.here hx rfl (hb hby at_108) rfl ?_
      show Steps p.tables e below (T25.setTop (mkF m 110 #[.val (.int p0), .val (.int p1), .val (.int p2), .val (.int p3), .val (.int rr), .val (.ref o), .val (.int fr), .val (.int to), .val (.int (own_dig b0)), .val (.int (own_dig b1)), .val (.int (own_dig b2)), .val (.int (own_dig b3)), .unset, .unset] [(.int fr), (.int (1 : Int32))])) _
      refine XS.iload X25.here hx rfl (hb hby at_110) rfl ?_
      show Steps p.tables e below (T25.setTop (mkF m 112 #[.val (.int p0), .val (.int p1), .val (.int p2), .val (.int p3), .val (.int rr), .val (.ref o), .val (.int fr), .val (.int to), .val (.int (own_dig b0)), .val (.int (own_dig b1)), .val (.int (own_dig b2)), .val (.int (own_dig b3)), .unset, .unset] [(.int to), (.int fr), (.int (1 : Int32))])) _
      refine XS.iload X25.here hx rfl (hb hby at_112) rfl ?_
      exact k
    obtain ⟨_, _, ⟨T26, L26, k26, n26⟩, -, X26, ⟨Lc26, hQ26, l26, y26, z26⟩, st26⟩ := Jvm.LawKit.callS X25 hx (y := (⟨"com/example/hour_ending/hourending/prices/PriceLayoutDigitsPinLaw", "badAt", "(IIII)Z"⟩ : MethodName)) hown (mvT hZ (hw _ (List.mem_of_getElem? (i := 9) rfl))) (mvT hZ (hw _ (List.mem_of_getElem? (i := 10) rfl))) (mvT hZ (hw _ (List.mem_of_getElem? (i := 3) rfl))) (mvT hZ (hw _ (List.mem_of_getElem? (i := 11) rfl))) (by decide) (backOf (W := 0) (rm3 l Z a0 hw [] (1 : Int32) fr to (own_dig b1) h9 n0 Zk) hZ (hw _ (List.mem_of_getElem? (i := 11) rfl)) (hw _ (List.mem_of_getElem? (i := 3) rfl)) (by decide) (by decide)) (g := (mkF m 114 #[.val (.int p0), .val (.int p1), .val (.int p2), .val (.int p3), .val (.int rr), .val (.ref o), .val (.int fr), .val (.int to), .val (.int (own_dig b0)), .val (.int (own_dig b1)), .val (.int (own_dig b2)), .val (.int (own_dig b3)), .unset, .unset] [(.int (own_dig b1)), (.int to), (.int fr), (.int (1 : Int32))])) rfl (by rw [hml]; rfl) (argsL := [(.int (1 : Int32)), (.int fr), (.int to), (.int (own_dig b1))]) (rest := []) (lenOf pd_5 rfl) rfl (by show 2 * 0 + _ ≤ _; exact Nat.le_of_eq rfl) (hb hby at_114) (fun _ _ => ⟨rfl, e25, (by decide : 1 + 0 ≤ _), (by decide : 4 + 0 ≤ _)⟩)
    dsimp only [Pt.U, Pt.locs, Pt.cells, Pt.slots] at X26 l26 y26 z26 st26 hQ26
    subst l26 y26 z26
    obtain ⟨rfl, N26q, e26⟩ := hQ26
    have N26 := Fr.app N25 N26q
    refine own_st (B := T26.setTop (mkF m 117 #[.val (.int p0), .val (.int p1), .val (.int p2), .val (.int p3), .val (.int rr), .val (.ref o), .val (.int fr), .val (.int to), .val (.int (own_dig b0)), .val (.int (own_dig b1)), .val (.int (own_dig b2)), .val (.int (own_dig b3)), .unset, .unset] [(.int (own_b (own_ba (1 : Int32) fr to (own_dig b1))))])) (fun t k => st26 _ k) ?_
    by_cases hb_1 : own_ba (1 : Int32) fr to (own_dig b1) = false
    · refine own_st (B := T26.setTop (mkF m 127 #[.val (.int p0), .val (.int p1), .val (.int p2), .val (.int p3), .val (.int rr), .val (.ref o), .val (.int fr), .val (.int to), .val (.int (own_dig b0)), .val (.int (own_dig b1)), .val (.int (own_dig b2)), .val (.int (own_dig b3)), .unset, .unset] [(.int (own_dig b2)), (.int to), (.int fr), (.int (2 : Int32))])) (fun t k => ?_) ?_
      · show Steps p.tables e below (T26.setTop (mkF m 117 #[.val (.int p0), .val (.int p1), .val (.int p2), .val (.int p3), .val (.int rr), .val (.ref o), .val (.int fr), .val (.int to), .val (.int (own_dig b0)), .val (.int (own_dig b1)), .val (.int (own_dig b2)), .val (.int (own_dig b3)), .unset, .unset] [(.int (own_b (own_ba (1 : Int32) fr to (own_dig b1))))])) _
        refine XS.ifNo X26.here hx rfl (hb hby at_117) rfl ((if0 _ _).trans (teq (own_b_ne.mpr hb_1)).2) ?_
        show Steps p.tables e below (T26.setTop (mkF m 120 #[.val (.int p0), .val (.int p1), .val (.int p2), .val (.int p3), .val (.int rr), .val (.ref o), .val (.int fr), .val (.int to), .val (.int (own_dig b0)), .val (.int (own_dig b1)), .val (.int (own_dig b2)), .val (.int (own_dig b3)), .unset, .unset] [])) _
        refine XS.iconst X26.here hx rfl (hb hby at_120) ?_
        show Steps p.tables e below (T26.setTop (mkF m 121 #[.val (.int p0), .val (.int p1), .val (.int p2), .val (.int p3), .val (.int rr), .val (.ref o), .val (.int fr), .val (.int to), .val (.int (own_dig b0)), .val (.int (own_dig b1)), .val (.int (own_dig b2)), .val (.int (own_dig b3)), .unset, .unset] [(.int (2 : Int32))])) _
        refine XS.iload X26.here hx rfl (hb hby at_121) rfl ?_
        show Steps p.tables e below (T26.setTop (mkF m 123 #[.val (.int p0), .val (.int p1), .val (.int p2), .val (.int p3), .val (.int rr), .val (.ref o), .val (.int fr), .val (.int to), .val (.int (own_dig b0)), .val (.int (own_dig b1)), .val (.int (own_dig b2)), .val (.int (own_dig b3)), .unset, .unset] [(.int fr), (.int (2 : Int32))])) _
        refine XS.iload X26.here hx rfl (hb hby at_123) rfl ?_
        show Steps p.tables e below (T26.setTop (mkF m 125 #[.val (.int p0), .val (.int p1), .val (.int p2), .val (.int p3), .val (.int rr), .val (.ref o), .val (.int fr), .val (.int to), .val (.int (own_dig b0)), .val (.int (own_dig b1)), .val (.int (own_dig b2)), .val (.int (own_dig b3)), .unset, .unset] [(.int to), (.int fr), (.int (2 : Int32))])) _
        refine XS.iload X26.here hx rfl (hb hby at_125) rfl ?_
        exact k
      obtain ⟨_, _, ⟨T27, L27, k27, n27⟩, -, X27, ⟨Lc27, hQ27, l27, y27, z27⟩, st27⟩ := Jvm.LawKit.callS X26 hx (y := (⟨"com/example/hour_ending/hourending/prices/PriceLayoutDigitsPinLaw", "badAt", "(IIII)Z"⟩ : MethodName)) hown (mvT hZ (hw _ (List.mem_of_getElem? (i := 9) rfl))) (mvT hZ (hw _ (List.mem_of_getElem? (i := 10) rfl))) (mvT hZ (hw _ (List.mem_of_getElem? (i := 3) rfl))) (mvT hZ (hw _ (List.mem_of_getElem? (i := 11) rfl))) (by decide) (backOf (W := 0) (rm3 l Z a0 hw [] (2 : Int32) fr to (own_dig b2) h9 n0 Zk) hZ (hw _ (List.mem_of_getElem? (i := 11) rfl)) (hw _ (List.mem_of_getElem? (i := 3) rfl)) (by decide) (by decide)) (g := (mkF m 127 #[.val (.int p0), .val (.int p1), .val (.int p2), .val (.int p3), .val (.int rr), .val (.ref o), .val (.int fr), .val (.int to), .val (.int (own_dig b0)), .val (.int (own_dig b1)), .val (.int (own_dig b2)), .val (.int (own_dig b3)), .unset, .unset] [(.int (own_dig b2)), (.int to), (.int fr), (.int (2 : Int32))])) rfl (by rw [hml]; rfl) (argsL := [(.int (2 : Int32)), (.int fr), (.int to), (.int (own_dig b2))]) (rest := []) (lenOf pd_5 rfl) rfl (by show 2 * 0 + _ ≤ _; exact Nat.le_of_eq rfl) (hb hby at_127) (fun _ _ => ⟨rfl, e26, (by decide : 1 + 0 ≤ _), (by decide : 4 + 0 ≤ _)⟩)
      dsimp only [Pt.U, Pt.locs, Pt.cells, Pt.slots] at X27 l27 y27 z27 st27 hQ27
      subst l27 y27 z27
      obtain ⟨rfl, N27q, e27⟩ := hQ27
      have N27 := Fr.app N26 N27q
      refine own_st (B := T27.setTop (mkF m 130 #[.val (.int p0), .val (.int p1), .val (.int p2), .val (.int p3), .val (.int rr), .val (.ref o), .val (.int fr), .val (.int to), .val (.int (own_dig b0)), .val (.int (own_dig b1)), .val (.int (own_dig b2)), .val (.int (own_dig b3)), .unset, .unset] [(.int (own_b (own_ba (2 : Int32) fr to (own_dig b2))))])) (fun t k => st27 _ k) ?_
      by_cases hb_2 : own_ba (2 : Int32) fr to (own_dig b2) = false
      · refine own_st (B := T27.setTop (mkF m 140 #[.val (.int p0), .val (.int p1), .val (.int p2), .val (.int p3), .val (.int rr), .val (.ref o), .val (.int fr), .val (.int to), .val (.int (own_dig b0)), .val (.int (own_dig b1)), .val (.int (own_dig b2)), .val (.int (own_dig b3)), .unset, .unset] [(.int (own_dig b3)), (.int to), (.int fr), (.int (3 : Int32))])) (fun t k => ?_) ?_
        · show Steps p.tables e below (T27.setTop (mkF m 130 #[.val (.int p0), .val (.int p1), .val (.int p2), .val (.int p3), .val (.int rr), .val (.ref o), .val (.int fr), .val (.int to), .val (.int (own_dig b0)), .val (.int (own_dig b1)), .val (.int (own_dig b2)), .val (.int (own_dig b3)), .unset, .unset] [(.int (own_b (own_ba (2 : Int32) fr to (own_dig b2))))])) _
          refine XS.ifNo X27.here hx rfl (hb hby at_130) rfl ((if0 _ _).trans (teq (own_b_ne.mpr hb_2)).2) ?_
          show Steps p.tables e below (T27.setTop (mkF m 133 #[.val (.int p0), .val (.int p1), .val (.int p2), .val (.int p3), .val (.int rr), .val (.ref o), .val (.int fr), .val (.int to), .val (.int (own_dig b0)), .val (.int (own_dig b1)), .val (.int (own_dig b2)), .val (.int (own_dig b3)), .unset, .unset] [])) _
          refine XS.iconst X27.here hx rfl (hb hby at_133) ?_
          show Steps p.tables e below (T27.setTop (mkF m 134 #[.val (.int p0), .val (.int p1), .val (.int p2), .val (.int p3), .val (.int rr), .val (.ref o), .val (.int fr), .val (.int to), .val (.int (own_dig b0)), .val (.int (own_dig b1)), .val (.int (own_dig b2)), .val (.int (own_dig b3)), .unset, .unset] [(.int (3 : Int32))])) _
          refine XS.iload X27.here hx rfl (hb hby at_134) rfl ?_
          show Steps p.tables e below (T27.setTop (mkF m 136 #[.val (.int p0), .val (.int p1), .val (.int p2), .val (.int p3), .val (.int rr), .val (.ref o), .val (.int fr), .val (.int to), .val (.int (own_dig b0)), .val (.int (own_dig b1)), .val (.int (own_dig b2)), .val (.int (own_dig b3)), .unset, .unset] [(.int fr), (.int (3 : Int32))])) _
          refine XS.iload X27.here hx rfl (hb hby at_136) rfl ?_
          show Steps p.tables e below (T27.setTop (mkF m 138 #[.val (.int p0), .val (.int p1), .val (.int p2), .val (.int p3), .val (.int rr), .val (.ref o), .val (.int fr), .val (.int to), .val (.int (own_dig b0)), .val (.int (own_dig b1)), .val (.int (own_dig b2)), .val (.int (own_dig b3)), .unset, .unset] [(.int to), (.int fr), (.int (3 : Int32))])) _
          refine XS.iload X27.here hx rfl (hb hby at_138) rfl ?_
          exact k
        obtain ⟨_, _, ⟨T28, L28, k28, n28⟩, -, X28, ⟨Lc28, hQ28, l28, y28, z28⟩, st28⟩ := Jvm.LawKit.callS X27 hx (y := (⟨"com/example/hour_ending/hourending/prices/PriceLayoutDigitsPinLaw", "badAt", "(IIII)Z"⟩ : MethodName)) hown (mvT hZ (hw _ (List.mem_of_getElem? (i := 9) rfl))) (mvT hZ (hw _ (List.mem_of_getElem? (i := 10) rfl))) (mvT hZ (hw _ (List.mem_of_getElem? (i := 3) rfl))) (mvT hZ (hw _ (List.mem_of_getElem? (i := 11) rfl))) (by decide) (backOf (W := 0) (rm3 l Z a0 hw [] (3 : Int32) fr to (own_dig b3) h9 n0 Zk) hZ (hw _ (List.mem_of_getElem? (i := 11) rfl)) (hw _ (List.mem_of_getElem? (i := 3) rfl)) (by decide) (by decide)) (g := (mkF m 140 #[.val (.int p0), .val (.int p1), .val (.int p2), .val (.int p3), .val (.int rr), .val (.ref o), .val (.int fr), .val (.int to), .val (.int (own_dig b0)), .val (.int (own_dig b1)), .val (.int (own_dig b2)), .val (.int (own_dig b3)), .unset, .unset] [(.int (own_dig b3)), (.int to), (.int fr), (.int (3 : Int32))])) rfl (by rw [hml]; rfl) (argsL := [(.int (3 : Int32)), (.int fr), (.int to), (.int (own_dig b3))]) (rest := []) (lenOf pd_5 rfl) rfl (by show 2 * 0 + _ ≤ _; exact Nat.le_of_eq rfl) (hb hby at_140) (fun _ _ => ⟨rfl, e27, (by decide : 1 + 0 ≤ _), (by decide : 4 + 0 ≤ _)⟩)
        dsimp only [Pt.U, Pt.locs, Pt.cells, Pt.slots] at X28 l28 y28 z28 st28 hQ28
        subst l28 y28 z28
        obtain ⟨rfl, N28q, e28⟩ := hQ28
        have N28 := Fr.app N27 N28q
        refine own_st (B := T28.setTop (mkF m 143 #[.val (.int p0), .val (.int p1), .val (.int p2), .val (.int p3), .val (.int rr), .val (.ref o), .val (.int fr), .val (.int to), .val (.int (own_dig b0)), .val (.int (own_dig b1)), .val (.int (own_dig b2)), .val (.int (own_dig b3)), .unset, .unset] [(.int (own_b (own_ba (3 : Int32) fr to (own_dig b3))))])) (fun t k => st28 _ k) ?_
        by_cases hb_3 : own_ba (3 : Int32) fr to (own_dig b3) = false
        · refine own_st (B := T28.setTop (mkF m 151 #[.val (.int p0), .val (.int p1), .val (.int p2), .val (.int p3), .val (.int rr), .val (.ref o), .val (.int fr), .val (.int to), .val (.int (own_dig b0)), .val (.int (own_dig b1)), .val (.int (own_dig b2)), .val (.int (own_dig b3)), .unset, .unset] [(.int (0 : Int32))])) (fun t k => ?_) ?_
          · show Steps p.tables e below (T28.setTop (mkF m 143 #[.val (.int p0), .val (.int p1), .val (.int p2), .val (.int p3), .val (.int rr), .val (.ref o), .val (.int fr), .val (.int to), .val (.int (own_dig b0)), .val (.int (own_dig b1)), .val (.int (own_dig b2)), .val (.int (own_dig b3)), .unset, .unset] [(.int (own_b (own_ba (3 : Int32) fr to (own_dig b3))))])) _
            refine XS.ifYes X28.here hx rfl (pc0 := 143) (pc' := 150) rfl (hb hby at_143) rfl ((if0 _ _).trans (teq (own_b_ne.mpr hb_3)).1) (by decide) (by decide) ?_
            show Steps p.tables e below (T28.setTop (mkF m 150 #[.val (.int p0), .val (.int p1), .val (.int p2), .val (.int p3), .val (.int rr), .val (.ref o), .val (.int fr), .val (.int to), .val (.int (own_dig b0)), .val (.int (own_dig b1)), .val (.int (own_dig b2)), .val (.int (own_dig b3)), .unset, .unset] [])) _
            refine XS.iconst X28.here hx rfl (hb hby at_150) ?_
            exact k
          have hv : own_B b0 b1 b2 b3 fr to = false := by simp [own_B, hb_0, hb_1, hb_2, hb_3]
          rw [hv] at k151
          exact k151 _ _ X28 N28 (by rw [e28]; exact Zk) e28
        · refine own_st (B := T28.setTop (mkF m 151 #[.val (.int p0), .val (.int p1), .val (.int p2), .val (.int p3), .val (.int rr), .val (.ref o), .val (.int fr), .val (.int to), .val (.int (own_dig b0)), .val (.int (own_dig b1)), .val (.int (own_dig b2)), .val (.int (own_dig b3)), .unset, .unset] [(.int (1 : Int32))])) (fun t k => ?_) ?_
          · show Steps p.tables e below (T28.setTop (mkF m 143 #[.val (.int p0), .val (.int p1), .val (.int p2), .val (.int p3), .val (.int rr), .val (.ref o), .val (.int fr), .val (.int to), .val (.int (own_dig b0)), .val (.int (own_dig b1)), .val (.int (own_dig b2)), .val (.int (own_dig b3)), .unset, .unset] [(.int (own_b (own_ba (3 : Int32) fr to (own_dig b3))))])) _
            refine XS.ifNo X28.here hx rfl (hb hby at_143) rfl ((if0 _ _).trans (feq (fun q => hb_3 (own_b_ne.mp q))).1) ?_
            show Steps p.tables e below (T28.setTop (mkF m 146 #[.val (.int p0), .val (.int p1), .val (.int p2), .val (.int p3), .val (.int rr), .val (.ref o), .val (.int fr), .val (.int to), .val (.int (own_dig b0)), .val (.int (own_dig b1)), .val (.int (own_dig b2)), .val (.int (own_dig b3)), .unset, .unset] [])) _
            refine XS.iconst X28.here hx rfl (hb hby at_146) ?_
            show Steps p.tables e below (T28.setTop (mkF m 147 #[.val (.int p0), .val (.int p1), .val (.int p2), .val (.int p3), .val (.int rr), .val (.ref o), .val (.int fr), .val (.int to), .val (.int (own_dig b0)), .val (.int (own_dig b1)), .val (.int (own_dig b2)), .val (.int (own_dig b3)), .unset, .unset] [(.int (1 : Int32))])) _
            refine XS.goto X28.here hx rfl (pc0 := 147) (pc' := 151) rfl (hb hby at_147) (by decide) (by decide) ?_
            exact k
          have hv : own_B b0 b1 b2 b3 fr to = true := by simp [own_B, hb_0, hb_1, hb_2, hb_3]
          rw [hv] at k151
          exact k151 _ _ X28 N28 (by rw [e28]; exact Zk) e28
      · refine own_st (B := T27.setTop (mkF m 151 #[.val (.int p0), .val (.int p1), .val (.int p2), .val (.int p3), .val (.int rr), .val (.ref o), .val (.int fr), .val (.int to), .val (.int (own_dig b0)), .val (.int (own_dig b1)), .val (.int (own_dig b2)), .val (.int (own_dig b3)), .unset, .unset] [(.int (1 : Int32))])) (fun t k => ?_) ?_
        · show Steps p.tables e below (T27.setTop (mkF m 130 #[.val (.int p0), .val (.int p1), .val (.int p2), .val (.int p3), .val (.int rr), .val (.ref o), .val (.int fr), .val (.int to), .val (.int (own_dig b0)), .val (.int (own_dig b1)), .val (.int (own_dig b2)), .val (.int (own_dig b3)), .unset, .unset] [(.int (own_b (own_ba (2 : Int32) fr to (own_dig b2))))])) _
          refine XS.ifYes X27.here hx rfl (pc0 := 130) (pc' := 146) rfl (hb hby at_130) rfl ((if0 _ _).trans (feq (fun q => hb_2 (own_b_ne.mp q))).2) (by decide) (by decide) ?_
          show Steps p.tables e below (T27.setTop (mkF m 146 #[.val (.int p0), .val (.int p1), .val (.int p2), .val (.int p3), .val (.int rr), .val (.ref o), .val (.int fr), .val (.int to), .val (.int (own_dig b0)), .val (.int (own_dig b1)), .val (.int (own_dig b2)), .val (.int (own_dig b3)), .unset, .unset] [])) _
          refine XS.iconst X27.here hx rfl (hb hby at_146) ?_
          show Steps p.tables e below (T27.setTop (mkF m 147 #[.val (.int p0), .val (.int p1), .val (.int p2), .val (.int p3), .val (.int rr), .val (.ref o), .val (.int fr), .val (.int to), .val (.int (own_dig b0)), .val (.int (own_dig b1)), .val (.int (own_dig b2)), .val (.int (own_dig b3)), .unset, .unset] [(.int (1 : Int32))])) _
          refine XS.goto X27.here hx rfl (pc0 := 147) (pc' := 151) rfl (hb hby at_147) (by decide) (by decide) ?_
          exact k
        have hv : own_B b0 b1 b2 b3 fr to = true := by simp [own_B, hb_0, hb_1, hb_2]
        rw [hv] at k151
        exact k151 _ _ X27 N27 (by rw [e27]; exact Zk) e27
    · refine own_st (B := T26.setTop (mkF m 151 #[.val (.int p0), .val (.int p1), .val (.int p2), .val (.int p3), .val (.int rr), .val (.ref o), .val (.int fr), .val (.int to), .val (.int (own_dig b0)), .val (.int (own_dig b1)), .val (.int (own_dig b2)), .val (.int (own_dig b3)), .unset, .unset] [(.int (1 : Int32))])) (fun t k => ?_) ?_
      · show Steps p.tables e below (T26.setTop (mkF m 117 #[.val (.int p0), .val (.int p1), .val (.int p2), .val (.int p3), .val (.int rr), .val (.ref o), .val (.int fr), .val (.int to), .val (.int (own_dig b0)), .val (.int (own_dig b1)), .val (.int (own_dig b2)), .val (.int (own_dig b3)), .unset, .unset] [(.int (own_b (own_ba (1 : Int32) fr to (own_dig b1))))])) _
        refine XS.ifYes X26.here hx rfl (pc0 := 117) (pc' := 146) rfl (hb hby at_117) rfl ((if0 _ _).trans (feq (fun q => hb_1 (own_b_ne.mp q))).2) (by decide) (by decide) ?_
        show Steps p.tables e below (T26.setTop (mkF m 146 #[.val (.int p0), .val (.int p1), .val (.int p2), .val (.int p3), .val (.int rr), .val (.ref o), .val (.int fr), .val (.int to), .val (.int (own_dig b0)), .val (.int (own_dig b1)), .val (.int (own_dig b2)), .val (.int (own_dig b3)), .unset, .unset] [])) _
        refine XS.iconst X26.here hx rfl (hb hby at_146) ?_
        show Steps p.tables e below (T26.setTop (mkF m 147 #[.val (.int p0), .val (.int p1), .val (.int p2), .val (.int p3), .val (.int rr), .val (.ref o), .val (.int fr), .val (.int to), .val (.int (own_dig b0)), .val (.int (own_dig b1)), .val (.int (own_dig b2)), .val (.int (own_dig b3)), .unset, .unset] [(.int (1 : Int32))])) _
        refine XS.goto X26.here hx rfl (pc0 := 147) (pc' := 151) rfl (hb hby at_147) (by decide) (by decide) ?_
        exact k
      have hv : own_B b0 b1 b2 b3 fr to = true := by simp [own_B, hb_0, hb_1]
      rw [hv] at k151
      exact k151 _ _ X26 N26 (by rw [e26]; exact Zk) e26
  · refine own_st (B := T25.setTop (mkF m 151 #[.val (.int p0), .val (.int p1), .val (.int p2), .val (.int p3), .val (.int rr), .val (.ref o), .val (.int fr), .val (.int to), .val (.int (own_dig b0)), .val (.int (own_dig b1)), .val (.int (own_dig b2)), .val (.int (own_dig b3)), .unset, .unset] [(.int (1 : Int32))])) (fun t k => ?_) ?_
    · show Steps p.tables e below (T25.setTop (mkF m 104 #[.val (.int p0), .val (.int p1), .val (.int p2), .val (.int p3), .val (.int rr), .val (.ref o), .val (.int fr), .val (.int to), .val (.int (own_dig b0)), .val (.int (own_dig b1)), .val (.int (own_dig b2)), .val (.int (own_dig b3)), .unset, .unset] [(.int (own_b (own_ba (0 : Int32) fr to (own_dig b0))))])) _
      refine XS.ifYes X25.here hx rfl (pc0 := 104) (pc' := 146) rfl (hb hby at_104) rfl ((if0 _ _).trans (feq (fun q => hb_0 (own_b_ne.mp q))).2) (by decide) (by decide) ?_
      show Steps p.tables e below (T25.setTop (mkF m 146 #[.val (.int p0), .val (.int p1), .val (.int p2), .val (.int p3), .val (.int rr), .val (.ref o), .val (.int fr), .val (.int to), .val (.int (own_dig b0)), .val (.int (own_dig b1)), .val (.int (own_dig b2)), .val (.int (own_dig b3)), .unset, .unset] [])) _
      refine XS.iconst X25.here hx rfl (hb hby at_146) ?_
      show Steps p.tables e below (T25.setTop (mkF m 147 #[.val (.int p0), .val (.int p1), .val (.int p2), .val (.int p3), .val (.int rr), .val (.ref o), .val (.int fr), .val (.int to), .val (.int (own_dig b0)), .val (.int (own_dig b1)), .val (.int (own_dig b2)), .val (.int (own_dig b3)), .unset, .unset] [(.int (1 : Int32))])) _
      refine XS.goto X25.here hx rfl (pc0 := 147) (pc' := 151) rfl (hb hby at_147) (by decide) (by decide) ?_
      exact k
    have hv : own_B b0 b1 b2 b3 fr to = true := by simp [own_B, hb_0]
    rw [hv] at k151
    exact k151 _ _ X25 N25 (by rw [e25]; exact Zk) e25
set_option maxRecDepth 65536 in
set_option maxHeartbeats 40000000 in
theorem comes_1 {Post : Tables → Env → Array Value → State → Outcome → State → Prop} (hpost : ∀ tb e args s v u, (limb_1_1.after args s (.returned v) u = true ∧ limb_1_2.after args s (.returned v) u = true) → FrameEnd s (.returned v) u (Jvm.fieldLocs frame_1_writes args s ++ Jvm.arrayLocs frame_1_arrays args s ++ Jvm.staticLocs frame_1_statics s) 16 128 → Post tb e args s (.returned v) u) :
    ArmFor flags0 classFile x code maxLocals ret World_1 tables_1 room_1 Calls_1 rest_1 Pre_1 Post := by
  intro l hfl _ _ p e ha hc hk s m args below hf hA hF happ hP
  obtain ⟨hcalls, hrest, hpre⟩ := hP
  obtain ⟨-, -, -, hnamed, -, -, -, hat⟩ := (Spec.applies_iff hf).mp happ
  obtain ⟨hg, hn⟩ := and_e (Cond.before_iff.mp (show (Jvm.Cond.and given_1 narrow_1).before args s = true from hpre))
  obtain ⟨gc, g0⟩ := and_e hg
  obtain ⟨ga0, g1⟩ := and_e g0
  obtain ⟨ga1, g2⟩ := and_e g1
  obtain ⟨ga2, g3⟩ := and_e g2
  obtain ⟨ga3, g4⟩ := and_e g3
  have ga4 := g4
  obtain ⟨w0, w1, w2, w3, w4, rfl⟩ : ∃ w0 w1 w2 w3 w4 : Value, args = #[w0, w1, w2, w3, w4] := by
    have hs : args.size = 5 := by simpa [Cond.value, given_1] using gc
    obtain ⟨L⟩ := args
    match L, hs with
    | [w0, w1, w2, w3, w4], _ => exact ⟨w0, w1, w2, w3, w4, rfl⟩
  have hw := fun d (hd : d ∈ tables_1) => atoms_spec (ws := Jvm.Cond.code x code maxLocals ret :: tables_1) hat d (List.mem_cons_of_mem _ hd)
  obtain ⟨i0, ei0⟩ := is_v ga0
  obtain rfl : w0 = (.int i0) := Option.some.inj ei0
  obtain ⟨i1, ei1⟩ := is_v ga1
  obtain rfl : w1 = (.int i1) := Option.some.inj ei1
  obtain ⟨i2, ei2⟩ := is_v ga2
  obtain rfl : w2 = (.int i2) := Option.some.inj ei2
  obtain ⟨i3, ei3⟩ := is_v ga3
  obtain rfl : w3 = (.int i3) := Option.some.inj ei3
  obtain ⟨i4, ei4⟩ := is_v ga4
  obtain rfl : w4 = (.int i4) := Option.some.inj ei4
  obtain ⟨n, o, h1, h2, h3, _, L, rfl, ⟨rfl, N⟩, hq⟩ := rm0 l s _ hw tables_1 i0 i1 i2 i3 i4 s.heap s.heap.size (Nat.le_refl _) p e ha hc hk s m _ below hf ((Spec.applies_iff_loose hf).mp happ).1 ⟨rfl, State.Warmed39.refl s, rfl⟩ trivial
  refine ⟨n, _, h1, h2, h3, hpost _ _ _ _ _ _ ⟨Cond.after_iff.mpr rfl, Cond.after_iff.mpr (eq_i res_at (Term.int_eval (1)) rfl)⟩ ⟨hq.1, hq.2.1, (hq.2.2.sift fun y hy => Or.inr (N y hy)).mono (by decide) (by decide)⟩⟩
theorem main_1_1 : Claimed_1_1 := comes_1 fun _ _ _ _ _ _ h hF => ⟨h.1, hF⟩
theorem main_1_2 : Claimed_1_2 := comes_1 fun _ _ _ _ _ _ h hF => ⟨h.2, hF⟩
end Jvm.Pilot.@@N@@
namespace Jvm.Pilot.@@N@@
open Jvm Jvm.ClassFile Sem Op Lib Jvm.Free Jvm.Stand Jvm.Pilot.@@N@@.Jvm.D
/-! MADE BY PROGRAM (witnessworld.py) out of the Statement's table words and the real class files: 9 classes; the members and pool entries that the words name. The judged class is class 1, her method 6. -/
namespace start1
open Jvm.ClassFile
def u (s : String) : CpInfo := .utf8 (stringToUtf16 s)
/-- a pool by its gaps: so many unusable entries, then the entry; so many at the end -/
def gap : Nat → List CpInfo → List CpInfo
  | 0, r => r
  | n + 1, r => .unusable :: gap n r
def poolList (es : List (Nat × CpInfo)) (last : Nat) : List CpInfo := es.foldr (fun e r => gap e.1 (e.2 :: r)) (gap last [])
def pool (es : List (Nat × CpInfo)) (last : Nat) : Array CpInfo := ⟨poolList es last⟩
def fileOf (pool : Array CpInfo) (this : Nat) (attrs : Array Attribute := #[]) (ms : Array MethodInfo := #[]) (fl : Nat := 33) (sup : Nat := 0) (ifs : Array Nat := #[]) (fds : Array FieldInfo := #[]) : ClassFile where
  minorVersion := 0
  majorVersion := 65
  constantPool := pool
  accessFlags := fl
  thisClass := this
  superClass := sup
  interfaces := ifs
  fields := fds
  methods := ms
  attributes := attrs
def plain (name : String) (sup : Option ClassId) : Class where
  name := name
  kind := .ordinary
  loader := none
  accessFlags := 33
  super := sup
  interfaces := #[]
  cf := none
  fields := #[]
  methods := #[]
  instanceTypes := #[]
  staticTypes := #[]
  resolved := #[]
  callSites := []
  init := .initialized
  statics := none
  mirror := none

def pool0 : Array CpInfo := pool [(5, u "<init>"), (0, u "()V"), (1, .class_ 10), (1, u "java/lang/Object")] 113

def k0m0 : Method := { name := "<init>", desc := "()V", sig := { parameters := [], returnType := none }, accessFlags := 1, code := none }
/-- java/lang/Object -/
def k0 : Class := { plain "java/lang/Object" none with
  accessFlags := 33
  interfaces := #[]
  cf := some (fileOf pool0 8 #[] #[{ accessFlags := 1, nameIndex := 5, descriptorIndex := 6, attributes := #[] }] 33 0 #[] #[])
  fields := #[]
  methods := #[k0m0]
  instanceTypes := #[]
  staticTypes := #[]
  resolved := Array.replicate 124 none
  statics := none }

def pool1 : Array CpInfo := pool [(2, .class_ 4), (1, u "java/lang/Object"), (0, u "<init>"), (0, u "()V"), (0, .methodref 8 9), (0, .class_ 10), (0, .nameAndType 11 12), (0, u "com/example/hour_ending/hourending/prices/PriceLayoutDigitsPinLaw"), (0, u "pow10"), (0, u "(I)I"), (0, .methodref 8 14), (0, .nameAndType 15 16), (0, u "draw"), (0, u "(I)B"), (0, .integer 2147483647), (0, .methodref 8 19), (0, .nameAndType 20 21), (0, u "dig"), (0, u "(B)I"), (0, .methodref 8 23), (0, .nameAndType 24 25), (0, u "badAt"), (0, u "(IIII)Z"), (0, .methodref 8 27), (0, .nameAndType 28 29), (0, u "term"), (0, u "(IIII)I"), (0, .methodref 31 32), (0, .class_ 33), (0, .nameAndType 34 35), (0, u "com/example/hour_ending/hourending/prices/PriceLayout"), (0, u "digits"), (0, u "([BII)I"), (3, u "law"), (0, u "(IIIII)Z")] 4

def k1m0 : Method := { name := "<init>", desc := "()V", sig := { parameters := [], returnType := none }, accessFlags := 1, code := none }
def k1c1 : Code := { maxStack := 3, maxLocals := 1, code := method_2_code, exceptionTable := #[], attributes := #[] }
def k1m1 : Method := { name := "draw", desc := "(I)B", sig := { parameters := [.int], returnType := some .byte }, accessFlags := 10, code := some k1c1 }
def k1c2 : Code := { maxStack := 2, maxLocals := 1, code := method_3_code, exceptionTable := #[], attributes := #[] }
def k1m2 : Method := { name := "dig", desc := "(B)I", sig := { parameters := [.byte], returnType := some .int }, accessFlags := 10, code := some k1c2 }
def k1c3 : Code := { maxStack := 2, maxLocals := 1, code := method_4_code, exceptionTable := #[], attributes := #[] }
def k1m3 : Method := { name := "pow10", desc := "(I)I", sig := { parameters := [.int], returnType := some .int }, accessFlags := 10, code := some k1c3 }
def k1c4 : Code := { maxStack := 3, maxLocals := 4, code := method_5_code, exceptionTable := #[], attributes := #[] }
def k1m4 : Method := { name := "term", desc := "(IIII)I", sig := { parameters := [.int, .int, .int, .int], returnType := some .int }, accessFlags := 10, code := some k1c4 }
def k1c5 : Code := { maxStack := 2, maxLocals := 4, code := method_6_code, exceptionTable := #[], attributes := #[] }
def k1m5 : Method := { name := "badAt", desc := "(IIII)Z", sig := { parameters := [.int, .int, .int, .int], returnType := some .boolean }, accessFlags := 10, code := some k1c5 }
def k1c6 : Code := { maxStack := 5, maxLocals := 14, code := code, exceptionTable := #[], attributes := #[] }
def k1m6 : Method := { name := "law", desc := "(IIIII)Z", sig := { parameters := [.int, .int, .int, .int, .int], returnType := some .boolean }, accessFlags := 9, code := some k1c6 }
/-- com/example/hour_ending/hourending/prices/PriceLayoutDigitsPinLaw -/
def k1 : Class := { plain "com/example/hour_ending/hourending/prices/PriceLayoutDigitsPinLaw" (some 0) with
  accessFlags := 49
  interfaces := #[]
  cf := some (fileOf pool1 8 #[] #[{ accessFlags := 1, nameIndex := 5, descriptorIndex := 6, attributes := #[] }, { accessFlags := 10, nameIndex := 15, descriptorIndex := 16, attributes := #[] }, { accessFlags := 10, nameIndex := 20, descriptorIndex := 21, attributes := #[] }, { accessFlags := 10, nameIndex := 11, descriptorIndex := 12, attributes := #[] }, { accessFlags := 10, nameIndex := 28, descriptorIndex := 29, attributes := #[] }, { accessFlags := 10, nameIndex := 24, descriptorIndex := 25, attributes := #[] }, { accessFlags := 9, nameIndex := 39, descriptorIndex := 40, attributes := #[] }] 49 2 #[] #[])
  fields := #[]
  methods := #[k1m0, k1m1, k1m2, k1m3, k1m4, k1m5, k1m6]
  instanceTypes := #[]
  staticTypes := #[]
  resolved := Array.replicate 45 none
  statics := none }

def pool2 : Array CpInfo := pool [(2, .class_ 4), (1, u "java/lang/Object"), (9, .class_ 16), (1, u "com/example/hour_ending/hourending/prices/PriceLayout"), (0, u "fieldOfColumn"), (0, u "[I"), (2, u "lines"), (0, u "Lcom/example/hour_ending/hourending/io/LineReader;"), (2, u "month"), (0, u "Ljava/time/YearMonth;"), (2, u "atLine"), (0, u "Ljava/util/function/Function;"), (38, u "fields"), (0, u "I"), (0, u "marketDayField"), (0, u "hourEndingField"), (0, u "repeatField"), (0, u "locationField"), (14, u "([BII)I"), (4, u "digits"), (3, .class_ 99), (0, u "com/example/hour_ending/hourending/prices/PriceLayout$Line")] 2

def k2c0 : Code := { maxStack := 2, maxLocals := 6, code := prog_33_method_9_code, exceptionTable := #[], attributes := #[] }
def k2m0 : Method := { name := "digits", desc := "([BII)I", sig := { parameters := [(.array .byte), .int, .int], returnType := some .int }, accessFlags := 8, code := some k2c0 }
/-- com/example/hour_ending/hourending/prices/PriceLayout -/
def k2 : Class := { plain "com/example/hour_ending/hourending/prices/PriceLayout" (some 0) with
  accessFlags := 1056
  interfaces := #[]
  cf := some (fileOf pool2 14 #[.nestMembers #[98]] #[{ accessFlags := 8, nameIndex := 94, descriptorIndex := 89, attributes := #[] }] 1056 2 #[] #[{ accessFlags := 16, nameIndex := 21, descriptorIndex := 22, attributes := #[] }, { accessFlags := 16, nameIndex := 25, descriptorIndex := 26, attributes := #[] }, { accessFlags := 16, nameIndex := 29, descriptorIndex := 30, attributes := #[] }, { accessFlags := 0, nameIndex := 69, descriptorIndex := 70, attributes := #[] }, { accessFlags := 0, nameIndex := 71, descriptorIndex := 70, attributes := #[] }, { accessFlags := 0, nameIndex := 72, descriptorIndex := 70, attributes := #[] }, { accessFlags := 0, nameIndex := 73, descriptorIndex := 70, attributes := #[] }, { accessFlags := 0, nameIndex := 74, descriptorIndex := 70, attributes := #[] }, { accessFlags := 16, nameIndex := 17, descriptorIndex := 18, attributes := #[] }])
  fields := #[{ name := "lines", type := (.object "com/example/hour_ending/hourending/io/LineReader"), accessFlags := 16, slot := 0, constantValue := 0 }, { name := "month", type := (.object "java/time/YearMonth"), accessFlags := 16, slot := 1, constantValue := 0 }, { name := "atLine", type := (.object "java/util/function/Function"), accessFlags := 16, slot := 2, constantValue := 0 }, { name := "fields", type := .int, accessFlags := 0, slot := 3, constantValue := 0 }, { name := "marketDayField", type := .int, accessFlags := 0, slot := 4, constantValue := 0 }, { name := "hourEndingField", type := .int, accessFlags := 0, slot := 5, constantValue := 0 }, { name := "repeatField", type := .int, accessFlags := 0, slot := 6, constantValue := 0 }, { name := "locationField", type := .int, accessFlags := 0, slot := 7, constantValue := 0 }, { name := "fieldOfColumn", type := (.array .int), accessFlags := 16, slot := 8, constantValue := 0 }]
  methods := #[k2m0]
  instanceTypes := #[(.object "com/example/hour_ending/hourending/io/LineReader"), (.object "java/time/YearMonth"), (.object "java/util/function/Function"), .int, .int, .int, .int, .int, (.array .int)]
  staticTypes := #[]
  resolved := Array.replicate 102 none
  statics := none }

def pool3 : Array CpInfo := pool [(1, u "java/lang/Cloneable"), (0, .class_ 1), (0, u "java/lang/Object"), (0, .class_ 3)] 3

/-- java/lang/Cloneable -/
def k3 : Class := { plain "java/lang/Cloneable" (some 0) with
  accessFlags := 1537
  interfaces := #[]
  cf := some (fileOf pool3 2 #[] #[] 1537 4 #[] #[])
  fields := #[]
  methods := #[]
  instanceTypes := #[]
  staticTypes := #[]
  resolved := Array.replicate 8 none
  statics := none }

def pool4 : Array CpInfo := pool [(1, u "java/io/Serializable"), (0, .class_ 1), (0, u "java/lang/Object"), (0, .class_ 3)] 3

/-- java/io/Serializable -/
def k4 : Class := { plain "java/io/Serializable" (some 0) with
  accessFlags := 1537
  interfaces := #[]
  cf := some (fileOf pool4 2 #[] #[] 1537 4 #[] #[])
  fields := #[]
  methods := #[]
  instanceTypes := #[]
  staticTypes := #[]
  resolved := Array.replicate 8 none
  statics := none }

/-- the primitive byte -/
def k5 : Class := { plain "byte" none with kind := .primitive 'B', accessFlags := 0x411 }
/-- [B -/
def k6 : Class := { plain "[B" (some 0) with kind := .array 5 .byte, interfaces := #[3, 4], accessFlags := 1041 }

/-- the primitive int -/
def k7 : Class := { plain "int" none with kind := .primitive 'I', accessFlags := 0x411 }
/-- [I -/
def k8 : Class := { plain "[I" (some 0) with kind := .array 7 .int, interfaces := #[3, 4], accessFlags := 1041 }

def heap : Heap := #[]
def classes : Array Class := #[k0, k1, k2, k3, k4, k5, k6, k7, k8]
def interned : List (Array UInt16 × Addr) := []
def slotsUsed : Nat := 0
def theMethod : MethodId := ⟨1, 6⟩
def args0 : Array Value := #[.int 256, .int 257, .int 258, .int 259, .int 1024]
def aboutOver (below : List Frame) : State where
  vm := { classes := classes, interned := interned.toArray }
  heap := heap
  slotsUsed := slotsUsed
  threads := #[{ frames := .invoking theMethod args0 :: below }]
def below0 : List Frame := [.native { method := ⟨0, 0⟩, args := #[] }]
def about1 : State := aboutOver below0
def p0 : Program := .bare "" "" ""
def e0 : Env := launch0.env 0 0 0
theorem w_frames : about1.frames = Frame.invoking theMethod args0 :: below0 := rfl
set_option maxRecDepth 65536 in
theorem w_args : argsFit about1.vm theMethod args0 = true := by decide +kernel
set_option maxRecDepth 65536 in
theorem w_heap : heapFits about1 = true := by decide +kernel
set_option maxRecDepth 65536 in
theorem w_runnable : about1.curStatus? = some .runnable := by decide +kernel
set_option maxRecDepth 65536 in
theorem w_alone : about1.alone = true := by decide +kernel
set_option maxRecDepth 65536 in
theorem w_named : about1.methodNamed? x = some theMethod := by decide +kernel
set_option maxRecDepth 65536 in
theorem w_hears : about1.hears theMethod below0 = true := by decide +kernel
set_option maxRecDepth 65536 in
theorem w_ripe : about1.ripe theMethod args0 below0 = true := by decide +kernel
theorem w_running : about1.status = .running := rfl
set_option maxRecDepth 65536 in
theorem w_room : about1.hasRoom e0.platform room_1 = true :=
  launch0.hasRoom_least _ room_1 (by decide +kernel) (by decide +kernel) (by decide +kernel) (by decide +kernel) (by decide +kernel) (by decide +kernel)
theorem allAtoms_all (ts : List Jvm.Cond) (a : Array Jvm.Value) (st : Jvm.State) : (allAtoms ts).before a st = ts.all (fun c => c.before a st) := by
  induction ts with
  | nil => rfl
  | cons c t ih =>
    show (Jvm.Cond.and c (allAtoms t)).before a st = _
    rw [Jvm.Cond.before_and, ih, List.all_cons]
def words1 : List Jvm.Cond := Jvm.Cond.code x code maxLocals ret :: tables_1
/-- a 'code' word, met by the world's own term for the bytes: nothing is compared byte by byte -/
theorem code_word {y : MethodName} {bytes : ByteArray} {mx : Nat} {rt : Option FieldType} {a : Array Value} {s : State} {m : MethodId} {meth : Method} {c : Code} (h1 : s.methodNamed? y = some m) (h2 : s.vm.method? m = some meth) (h3 : meth.code = some c) (h4 : c.code = bytes)
    (h5 : (c.maxLocals == mx && c.exceptionTable.isEmpty && decide (c.maxStack ≤ mostOperands) && decide (meth.sig.returnType = rt) && !meth.locks && decide (parseMethodDescriptor y.desc = some meth.sig)) = true) : (Jvm.Cond.code y bytes mx rt).before a s = true := by
  simp only [Bool.and_eq_true, beq_iff_eq, Bool.not_eq_true', decide_eq_true_eq] at h5
  obtain ⟨⟨⟨⟨⟨g1, g2⟩, g3⟩, g4⟩, g5⟩, g6⟩ := h5
  simp [Cond.before, Cond.holds, Cond.value, h1, h2, h3, h4, g1, g2, g3, g4, g5, g6]
def isCode : Jvm.Cond → Bool
  | .code _ _ _ _ => true
  | _ => false
theorem all_split {L : List Jvm.Cond} {P : Jvm.Cond → Bool} (h1 : L.all (fun c => isCode c || P c) = true) (h2 : ∀ c ∈ L.filter isCode, P c = true) : L.all P = true := by
  refine List.all_eq_true.mpr fun c hc => ?_
  have h := List.all_eq_true.mp h1 c hc
  rcases Bool.eq_false_or_eq_true (isCode c) with hi | hi
  · exact h2 c (List.mem_filter.mpr ⟨hc, hi⟩)
  · simpa [hi] using h
set_option maxRecDepth 65536 in
theorem w_c0 : (Jvm.Cond.code x code maxLocals ret).before args0 about1 = true := code_word (m := ⟨1, 6⟩) (meth := k1m6) (c := k1c6) (by decide +kernel) rfl rfl rfl (by decide +kernel)
set_option maxRecDepth 65536 in
theorem w_c1 : (Jvm.Cond.code ({ cls := "com/example/hour_ending/hourending/prices/PriceLayoutDigitsPinLaw", name := "draw", desc := "(I)B" } : Jvm.MethodName) method_2_code (1 : Nat) (Option.some Jvm.ClassFile.FieldType.byte)).before args0 about1 = true := code_word (m := ⟨1, 1⟩) (meth := k1m1) (c := k1c1) (by decide +kernel) rfl rfl rfl (by decide +kernel)
set_option maxRecDepth 65536 in
theorem w_c2 : (Jvm.Cond.code ({ cls := "com/example/hour_ending/hourending/prices/PriceLayoutDigitsPinLaw", name := "dig", desc := "(B)I" } : Jvm.MethodName) method_3_code (1 : Nat) (Option.some Jvm.ClassFile.FieldType.int)).before args0 about1 = true := code_word (m := ⟨1, 2⟩) (meth := k1m2) (c := k1c2) (by decide +kernel) rfl rfl rfl (by decide +kernel)
set_option maxRecDepth 65536 in
theorem w_c3 : (Jvm.Cond.code ({ cls := "com/example/hour_ending/hourending/prices/PriceLayoutDigitsPinLaw", name := "badAt", desc := "(IIII)Z" } : Jvm.MethodName) method_6_code (4 : Nat) (Option.some Jvm.ClassFile.FieldType.boolean)).before args0 about1 = true := code_word (m := ⟨1, 5⟩) (meth := k1m5) (c := k1c5) (by decide +kernel) rfl rfl rfl (by decide +kernel)
set_option maxRecDepth 65536 in
theorem w_c4 : (Jvm.Cond.code ({ cls := "com/example/hour_ending/hourending/prices/PriceLayout", name := "digits", desc := "([BII)I" } : Jvm.MethodName) prog_33_method_9_code (6 : Nat) (Option.some Jvm.ClassFile.FieldType.int)).before args0 about1 = true := code_word (m := ⟨2, 0⟩) (meth := k2m0) (c := k2c0) (by decide +kernel) rfl rfl rfl (by decide +kernel)
set_option maxRecDepth 65536 in
theorem w_c5 : (Jvm.Cond.code ({ cls := "com/example/hour_ending/hourending/prices/PriceLayoutDigitsPinLaw", name := "term", desc := "(IIII)I" } : Jvm.MethodName) method_5_code (4 : Nat) (Option.some Jvm.ClassFile.FieldType.int)).before args0 about1 = true := code_word (m := ⟨1, 4⟩) (meth := k1m4) (c := k1c4) (by decide +kernel) rfl rfl rfl (by decide +kernel)
set_option maxRecDepth 65536 in
theorem w_c6 : (Jvm.Cond.code ({ cls := "com/example/hour_ending/hourending/prices/PriceLayoutDigitsPinLaw", name := "pow10", desc := "(I)I" } : Jvm.MethodName) method_4_code (1 : Nat) (Option.some Jvm.ClassFile.FieldType.int)).before args0 about1 = true := code_word (m := ⟨1, 3⟩) (meth := k1m3) (c := k1c3) (by decide +kernel) rfl rfl rfl (by decide +kernel)
def codes1 : List Jvm.Cond := [Jvm.Cond.code x code maxLocals ret, Jvm.Cond.code ({ cls := "com/example/hour_ending/hourending/prices/PriceLayoutDigitsPinLaw", name := "draw", desc := "(I)B" } : Jvm.MethodName) method_2_code (1 : Nat) (Option.some Jvm.ClassFile.FieldType.byte), Jvm.Cond.code ({ cls := "com/example/hour_ending/hourending/prices/PriceLayoutDigitsPinLaw", name := "dig", desc := "(B)I" } : Jvm.MethodName) method_3_code (1 : Nat) (Option.some Jvm.ClassFile.FieldType.int), Jvm.Cond.code ({ cls := "com/example/hour_ending/hourending/prices/PriceLayoutDigitsPinLaw", name := "badAt", desc := "(IIII)Z" } : Jvm.MethodName) method_6_code (4 : Nat) (Option.some Jvm.ClassFile.FieldType.boolean), Jvm.Cond.code ({ cls := "com/example/hour_ending/hourending/prices/PriceLayout", name := "digits", desc := "([BII)I" } : Jvm.MethodName) prog_33_method_9_code (6 : Nat) (Option.some Jvm.ClassFile.FieldType.int), Jvm.Cond.code ({ cls := "com/example/hour_ending/hourending/prices/PriceLayoutDigitsPinLaw", name := "term", desc := "(IIII)I" } : Jvm.MethodName) method_5_code (4 : Nat) (Option.some Jvm.ClassFile.FieldType.int), Jvm.Cond.code ({ cls := "com/example/hour_ending/hourending/prices/PriceLayoutDigitsPinLaw", name := "pow10", desc := "(I)I" } : Jvm.MethodName) method_4_code (1 : Nat) (Option.some Jvm.ClassFile.FieldType.int)]
set_option maxRecDepth 65536 in
theorem codes_eq : words1.filter isCode = codes1 := rfl
theorem w_codes : ∀ c ∈ words1.filter isCode, c.before args0 about1 = true := by
  rw [codes_eq]
  intro c hc
  simp only [codes1, List.mem_cons, List.not_mem_nil, or_false] at hc
  rcases hc with rfl | rfl | rfl | rfl | rfl | rfl | rfl
  · exact w_c0
  · exact w_c1
  · exact w_c2
  · exact w_c3
  · exact w_c4
  · exact w_c5
  · exact w_c6
set_option maxRecDepth 65536 in
theorem w_t1 : words1.all (fun c => isCode c || c.before args0 about1) = true := by decide +kernel
theorem w_tables : (allAtoms (Jvm.Cond.code x code maxLocals ret :: tables_1)).before args0 about1 = true := by
  rw [allAtoms_all]
  show words1.all (fun c => c.before args0 about1) = true
  refine all_split ?_ w_codes
  rw [w_t1]
set_option maxRecDepth 65536 in
theorem w_case : (Jvm.Cond.and given_1 narrow_1).before args0 about1 = true := by decide +kernel
theorem w_applies : (headSpec (Jvm.Cond.code x code maxLocals ret :: tables_1) room_1).applies x e0.platform about1 = true :=
  (Spec.applies_iff w_frames).mpr ⟨w_running, w_runnable, w_alone, w_named, w_hears, w_ripe, w_room, w_tables⟩
theorem atStart : AtStart classFile x code maxLocals ret World_1 tables_1 room_1 Calls_1 rest_1 Pre_1 launch0 p0 e0 about1 theMethod args0 below0 :=
  ⟨lists_1, trivial, launch0.admits_env _ _ _, launch0.least_env, fairChoices_fair.cas, fairChoices_fair.clock, w_frames, w_args, w_heap, w_applies, trivial, trivial, w_case⟩
end start1
theorem witness_1 : WitnessClaimed_1 := ⟨start1.p0, start1.e0, start1.about1, start1.theMethod, start1.args0, start1.below0, start1.atStart⟩
end Jvm.Pilot.@@N@@
