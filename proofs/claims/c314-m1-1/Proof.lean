import JvmDerived
import JvmDerived.Pilot.@@N@@Statement
import JvmDerived.Pilot.@@N@@Code
set_option linter.unusedVariables false
set_option linter.unusedSimpArgs false
namespace Jvm.Pilot.@@N@@
open Jvm Jvm.ClassFile Sem Op Lib Jvm.Free Jvm.Stand Jvm.LawKit Jvm.RoadKit Bundle Jvm.Pilot.@@N@@.Jvm.D
def own_G (p : Program) (e : Env) (below : List Frame) (C : State → Outcome → Prop) (A : State) : Prop := ∃ (t : State) (o : Outcome), Steps p.tables e below A t ∧ C t o
theorem own_st {p : Program} {e : Env} {below : List Frame} {C : State → Outcome → Prop} {A B : State} (k : ∀ t, Steps p.tables e below B t → Steps p.tables e below A t) (h : own_G p e below C B) : own_G p e below C A := by
  obtain ⟨t, o, h1, h2⟩ := h
  exact ⟨t, o, k t h1, h2⟩
abbrev own_b (c : Bool) : Int32 := bif c then 1 else 0
theorem own_nb (c : Bool) : narrow .boolean (.int (own_b c)) = .int (own_b c) := by cases c <;> rfl
theorem own_b_ne {c : Bool} : (own_b c = 0) ↔ c = false := by cases c <;> decide
def own_nm (x : Int32) : Bool := (!decide (x < 65) && !decide (90 < x)) || (!decide (x < 97) && !decide (122 < x)) || (!decide (x < 48) && !decide (57 < x)) || decide (x = 46) || decide (x = 95) || decide (x = 126) || decide (x = 45)
def own_letter (x : Int32) : Bool := !decide ((x ||| 32) < 97) && !decide (122 < (x ||| 32))
def own_digit (x : Int32) : Bool := !decide ((x.toInt64 - 48) < 0) && decide ((x.toInt64 - 48) < 10)
def own_punct (x : Int32) : Bool := decide (x = 45) || decide (x = 46) || decide (x = 95) || decide (x = 126)
theorem own_small (x : Int32) (h : x.toBitVec.toNat < 128) : (own_letter x || own_digit x || own_punct x) = own_nm x := by
  have key : ∀ n, n < 128 → (own_letter (Int32.ofBitVec (BitVec.ofNat 32 n)) || own_digit (Int32.ofBitVec (BitVec.ofNat 32 n)) || own_punct (Int32.ofBitVec (BitVec.ofNat 32 n))) = own_nm (Int32.ofBitVec (BitVec.ofNat 32 n)) := by decide +kernel
  have hx : Int32.ofBitVec (BitVec.ofNat 32 x.toBitVec.toNat) = x := by simp
  have := key _ h
  rwa [hx] at this
theorem own_letter_lt (x : Int32) (h : own_letter x = true) : x.toBitVec.toNat < 128 := by
  simp only [own_letter, Bool.and_eq_true, Bool.not_eq_true', decide_eq_false_iff_not, Int32.lt_iff_toInt_lt] at h
  have h1 : (x ||| 32).toBitVec.toNat ≤ 122 := by
    have e1 : (97 : Int32).toInt = 97 := by decide
    have e2 : (122 : Int32).toInt = 122 := by decide
    rw [e1, e2] at h
    have : (x ||| 32).toInt = (x ||| 32).toBitVec.toInt := rfl
    rw [this, BitVec.toInt_eq_toNat_cond] at h
    split at h <;> omega
  have h2 : x.toBitVec.toNat ≤ (x ||| 32).toBitVec.toNat := by
    rw [Int32.toBitVec_or, BitVec.toNat_or]; exact Nat.left_le_or
  omega
theorem own_digit_iff (x : Int32) : own_digit x = (!decide (x < 48) && !decide (57 < x)) := by
  have e : (x.toInt64 - 48).toInt = x.toInt - 48 := by
    rw [Int64.toInt_sub, Int32.toInt_toInt64]
    have h1 := x.toInt_lt; have h2 := x.le_toInt
    have e48 : (48 : Int64).toInt = 48 := by decide
    rw [e48]
    rw [Int.bmod_eq_of_le] <;> omega
  have e0 : (0 : Int64).toInt = 0 := by decide
  have e10 : (10 : Int64).toInt = 10 := by decide
  have e48 : (48 : Int32).toInt = 48 := by decide
  have e57 : (57 : Int32).toInt = 57 := by decide
  rw [Bool.eq_iff_iff]
  simp only [own_digit, Bool.and_eq_true, Bool.not_eq_true', decide_eq_false_iff_not, decide_eq_true_eq, Int32.lt_iff_toInt_lt, Int64.lt_iff_toInt_lt, e, e0, e10, e48, e57]
  omega
theorem own_all (x : Int32) : own_nm x = (own_letter x || own_digit x || own_punct x) := by
  by_cases h : x.toBitVec.toNat < 128
  · exact (own_small x h).symm
  · have hl : own_letter x = false := by
      cases hq : own_letter x
      · rfl
      · exact absurd (own_letter_lt x hq) h
    have hb : ∀ c : Int32, c.toBitVec.toNat < 128 → ¬ x = c := fun c hc he => h (he ▸ hc)
    have ht : x.toInt < 0 ∨ 128 ≤ x.toInt := by
      have : x.toInt = x.toBitVec.toInt := rfl
      rw [this, BitVec.toInt_eq_toNat_cond]
      split <;> omega
    have e1 : (65 : Int32).toInt = 65 := by decide
    have e2 : (90 : Int32).toInt = 90 := by decide
    have e3 : (97 : Int32).toInt = 97 := by decide
    have e4 : (122 : Int32).toInt = 122 := by decide
    have e5 : (48 : Int32).toInt = 48 := by decide
    have e6 : (57 : Int32).toInt = 57 := by decide
    have hA : (!decide (x < 65) && !decide (90 < x)) = false := by
      simp only [Bool.and_eq_false_iff, Bool.not_eq_false', decide_eq_true_eq, Int32.lt_iff_toInt_lt, e1, e2]; omega
    have hB : (!decide (x < 97) && !decide (122 < x)) = false := by
      simp only [Bool.and_eq_false_iff, Bool.not_eq_false', decide_eq_true_eq, Int32.lt_iff_toInt_lt, e3, e4]; omega
    have hC : (!decide (x < 48) && !decide (57 < x)) = false := by
      simp only [Bool.and_eq_false_iff, Bool.not_eq_false', decide_eq_true_eq, Int32.lt_iff_toInt_lt, e5, e6]; omega
    rw [own_nm, hl, own_digit_iff, hA, hB, hC, own_punct]
    simp [hb 46 (by decide), hb 95 (by decide), hb 126 (by decide), hb 45 (by decide)]
def own_ref (x : Int32) : Bool := own_letter x || own_digit x || own_punct x
theorem d1_0 : decode prog_35_method_6_code 0 = .ok (.iload_n 0, 1) := by decide +kernel
theorem d1_1 : decode prog_35_method_6_code 1 = .ok (.bipush 65, 2) := by decide +kernel
theorem d1_3 : decode prog_35_method_6_code 3 = .ok (.if_icmp .lt 9, 3) := by decide +kernel
theorem d1_6 : decode prog_35_method_6_code 6 = .ok (.iload_n 0, 1) := by decide +kernel
theorem d1_7 : decode prog_35_method_6_code 7 = .ok (.bipush 90, 2) := by decide +kernel
theorem d1_9 : decode prog_35_method_6_code 9 = .ok (.if_icmp .le 51, 3) := by decide +kernel
theorem d1_12 : decode prog_35_method_6_code 12 = .ok (.iload_n 0, 1) := by decide +kernel
theorem d1_13 : decode prog_35_method_6_code 13 = .ok (.bipush 97, 2) := by decide +kernel
theorem d1_15 : decode prog_35_method_6_code 15 = .ok (.if_icmp .lt 9, 3) := by decide +kernel
theorem d1_18 : decode prog_35_method_6_code 18 = .ok (.iload_n 0, 1) := by decide +kernel
theorem d1_19 : decode prog_35_method_6_code 19 = .ok (.bipush 122, 2) := by decide +kernel
theorem d1_21 : decode prog_35_method_6_code 21 = .ok (.if_icmp .le 39, 3) := by decide +kernel
theorem d1_24 : decode prog_35_method_6_code 24 = .ok (.iload_n 0, 1) := by decide +kernel
theorem d1_25 : decode prog_35_method_6_code 25 = .ok (.bipush 48, 2) := by decide +kernel
theorem d1_27 : decode prog_35_method_6_code 27 = .ok (.if_icmp .lt 9, 3) := by decide +kernel
theorem d1_30 : decode prog_35_method_6_code 30 = .ok (.iload_n 0, 1) := by decide +kernel
theorem d1_31 : decode prog_35_method_6_code 31 = .ok (.bipush 57, 2) := by decide +kernel
theorem d1_33 : decode prog_35_method_6_code 33 = .ok (.if_icmp .le 27, 3) := by decide +kernel
theorem d1_36 : decode prog_35_method_6_code 36 = .ok (.iload_n 0, 1) := by decide +kernel
theorem d1_37 : decode prog_35_method_6_code 37 = .ok (.bipush 46, 2) := by decide +kernel
theorem d1_39 : decode prog_35_method_6_code 39 = .ok (.if_icmp .eq 21, 3) := by decide +kernel
theorem d1_42 : decode prog_35_method_6_code 42 = .ok (.iload_n 0, 1) := by decide +kernel
theorem d1_43 : decode prog_35_method_6_code 43 = .ok (.bipush 95, 2) := by decide +kernel
theorem d1_45 : decode prog_35_method_6_code 45 = .ok (.if_icmp .eq 15, 3) := by decide +kernel
theorem d1_48 : decode prog_35_method_6_code 48 = .ok (.iload_n 0, 1) := by decide +kernel
theorem d1_49 : decode prog_35_method_6_code 49 = .ok (.bipush 126, 2) := by decide +kernel
theorem d1_51 : decode prog_35_method_6_code 51 = .ok (.if_icmp .eq 9, 3) := by decide +kernel
theorem d1_54 : decode prog_35_method_6_code 54 = .ok (.iload_n 0, 1) := by decide +kernel
theorem d1_55 : decode prog_35_method_6_code 55 = .ok (.bipush 45, 2) := by decide +kernel
theorem d1_57 : decode prog_35_method_6_code 57 = .ok (.if_icmp .ne 7, 3) := by decide +kernel
theorem d1_60 : decode prog_35_method_6_code 60 = .ok (.iconst 1, 1) := by decide +kernel
theorem d1_61 : decode prog_35_method_6_code 61 = .ok (.goto 4, 3) := by decide +kernel
theorem d1_64 : decode prog_35_method_6_code 64 = .ok (.iconst 0, 1) := by decide +kernel
theorem d1_65 : decode prog_35_method_6_code 65 = .ok (.ireturn, 1) := by decide +kernel
theorem pn_1 : plainName "com/example/synod/synod/Decrees" = true := by first | (simp [plainName, overriddenIn]; done) | decide +kernel
theorem ef_1 (m : MethodId) (x0 : Int32) : entryFrame m #[(.int x0)] 1 = mkF m 0 #[.val (.int x0)] [] := by first | (simp [entryFrame, mkF, argsToLocals, Value.category]; done) | rfl
def Q1 (Z : State) (p0 : Int32) (h0 : Heap) (n0 : Nat) (v : Option Value) (h : Heap) (L : List Loc) : Prop := v = some (.int (own_b (own_nm p0))) ∧ Fr n0 L ∧ h = h0
set_option maxRecDepth 65536 in
set_option maxHeartbeats 40000000 in
theorem rm1 (l : Launch) (Z : State) (a0 : Array Value) (hw : ∀ d ∈ tables_1, d.before a0 Z = true) (ws : List Jvm.Cond) (p0 : Int32) (h0 : Heap) (n0 : Nat) (Z0 : n0 ≤ h0.size) :
    MetFree l (⟨"com/example/synod/synod/Decrees", "isNameCharacter", "(I)Z"⟩ : MethodName) (head1 (Jvm.Cond.code (⟨"com/example/synod/synod/Decrees", "isNameCharacter", "(I)Z"⟩ : MethodName) prog_35_method_6_code 1 (some .boolean) :: ws) ({ frames := 0, cells := 0, slots := 0, locals := 0 } : Room)) (fun a U => a = #[(.int p0)] ∧ Z.Warmed39 U.vm ∧ U.heap = h0) (fun _ _ _ _ _ => True) (fun _ U o U' => ∃ v L, o = .returned v ∧ Q1 Z p0 h0 n0 v U'.heap L ∧ FrameEnd U o U' L ({ frames := 0, cells := 0, slots := 0, locals := 0 } : Room).cells ({ frames := 0, cells := 0, slots := 0, locals := 0 } : Room).slots) := by
  refine MetFree.of_bodySF (plainFor_of_name pn_1) hisR ?_
  intro p e s m args below meth c s₁ Bd hml0 hP hK
  obtain ⟨rfl, hZ, hh⟩ := hP
  have hx := Bd.exec
  have hby := Bd.bytes
  have hml : c.maxLocals = 1 := hml0
  have hown : s.vm.findClass "com/example/synod/synod/Decrees" = some m.cls := findClass_of_methodNamed Bd.named
  have hnm := (name_of_methodNamed Bd.named Bd.method).1
  have X0 : Stand p l e ({ frames := 0, cells := 0, slots := 0, locals := 0 } : Room) s m #[(.int p0)] below meth c s₁ [] 0 0 := Stand.of_body Bd
  have e0 : s₁.heap = h0 := by rw [← hh, Bd.state]; rfl
  have N0 := Fr.nil n0
  show own_G p e below (fun (t : State) (o : Outcome) => t.status = .running ∧ Ended t below o ∧ ∃ v L, o = .returned v ∧ Q1 Z p0 h0 n0 v t.heap L ∧ FrameEnd s o t L ({ frames := 0, cells := 0, slots := 0, locals := 0 } : Room).cells ({ frames := 0, cells := 0, slots := 0, locals := 0 } : Room).slots) (s₁.setTop (entryFrame m #[(.int p0)] 1))
  rw [ef_1 m p0]
  have k60 : ∀ (hv : own_nm p0 = true), own_G p e below (fun (t : State) (o : Outcome) => t.status = .running ∧ Ended t below o ∧ ∃ v L, o = .returned v ∧ Q1 Z p0 h0 n0 v t.heap L ∧ FrameEnd s o t L ({ frames := 0, cells := 0, slots := 0, locals := 0 } : Room).cells ({ frames := 0, cells := 0, slots := 0, locals := 0 } : Room).slots) (s₁.setTop (mkF m 60 #[.val (.int p0)] [])) := by
    intro hv
    refine own_st (B := s₁.setTop (mkF m 65 #[.val (.int p0)] [(.int (1 : Int32))])) (fun t k => ?_) ?_
    · show Steps p.tables e below (s₁.setTop (mkF m 60 #[.val (.int p0)] [])) _
      refine XS.iconst X0.here hx rfl (hb hby d1_60) ?_
      show Steps p.tables e below (s₁.setTop (mkF m 61 #[.val (.int p0)] [(.int (1 : Int32))])) _
      refine XS.goto X0.here hx rfl (pc0 := 61) (pc' := 65) rfl (hb hby d1_61) (by decide) (by decide) ?_
      exact k
    obtain ⟨fs, hr, hrun, hended, hW, hsame⟩ := X0.leave (v := some (.int (1 : Int32))) (fun h => by rw [Bd.returns] at h; cases h)
    refine ⟨_, _, ?_, hrun, hended, _, _, rfl, ?_, ⟨_, rfl⟩, hW, hsame.mono (by decide) (by decide)⟩
    · exact retOut X0 hx Bd.returns rfl (Or.inl ⟨rfl, by simp, _, rfl⟩) (hb hby d1_65) hr
    · show Q1 Z p0 h0 n0 _ s₁.heap _
      rw [e0]
      exact ⟨by rw [hv]; rfl, N0, rfl⟩
  have k64 : ∀ (hv : own_nm p0 = false), own_G p e below (fun (t : State) (o : Outcome) => t.status = .running ∧ Ended t below o ∧ ∃ v L, o = .returned v ∧ Q1 Z p0 h0 n0 v t.heap L ∧ FrameEnd s o t L ({ frames := 0, cells := 0, slots := 0, locals := 0 } : Room).cells ({ frames := 0, cells := 0, slots := 0, locals := 0 } : Room).slots) (s₁.setTop (mkF m 64 #[.val (.int p0)] [])) := by
    intro hv
    refine own_st (B := s₁.setTop (mkF m 65 #[.val (.int p0)] [(.int (0 : Int32))])) (fun t k => ?_) ?_
    · show Steps p.tables e below (s₁.setTop (mkF m 64 #[.val (.int p0)] [])) _
      refine XS.iconst X0.here hx rfl (hb hby d1_64) ?_
      exact k
    obtain ⟨fs, hr, hrun, hended, hW, hsame⟩ := X0.leave (v := some (.int (0 : Int32))) (fun h => by rw [Bd.returns] at h; cases h)
    refine ⟨_, _, ?_, hrun, hended, _, _, rfl, ?_, ⟨_, rfl⟩, hW, hsame.mono (by decide) (by decide)⟩
    · exact retOut X0 hx Bd.returns rfl (Or.inl ⟨rfl, by simp, _, rfl⟩) (hb hby d1_65) hr
    · show Q1 Z p0 h0 n0 _ s₁.heap _
      rw [e0]
      exact ⟨by rw [hv]; rfl, N0, rfl⟩
  refine own_st (B := s₁.setTop (mkF m 3 #[.val (.int p0)] [(.int (65 : Int32)), (.int p0)])) (fun t k => ?_) ?_
  · show Steps p.tables e below (s₁.setTop (mkF m 0 #[.val (.int p0)] [])) _
    refine XS.iloadN X0.here hx rfl (hb hby d1_0) rfl ?_
    show Steps p.tables e below (s₁.setTop (mkF m 1 #[.val (.int p0)] [(.int p0)])) _
    refine XS.bipush X0.here hx rfl (hb hby d1_1) ?_
    exact k
  by_cases h3 : p0 < (65 : Int32)
  · refine own_st (B := s₁.setTop (mkF m 15 #[.val (.int p0)] [(.int (97 : Int32)), (.int p0)])) (fun t k => ?_) ?_
    · show Steps p.tables e below (s₁.setTop (mkF m 3 #[.val (.int p0)] [(.int (65 : Int32)), (.int p0)])) _
      refine XS.icmpYes X0.here hx rfl (pc0 := 3) (pc' := 12) rfl (hb hby d1_3) rfl (tlt h3).1 (by decide) (by decide) ?_
      show Steps p.tables e below (s₁.setTop (mkF m 12 #[.val (.int p0)] [])) _
      refine XS.iloadN X0.here hx rfl (hb hby d1_12) rfl ?_
      show Steps p.tables e below (s₁.setTop (mkF m 13 #[.val (.int p0)] [(.int p0)])) _
      refine XS.bipush X0.here hx rfl (hb hby d1_13) ?_
      exact k
    by_cases h15 : p0 < (97 : Int32)
    · refine own_st (B := s₁.setTop (mkF m 27 #[.val (.int p0)] [(.int (48 : Int32)), (.int p0)])) (fun t k => ?_) ?_
      · show Steps p.tables e below (s₁.setTop (mkF m 15 #[.val (.int p0)] [(.int (97 : Int32)), (.int p0)])) _
        refine XS.icmpYes X0.here hx rfl (pc0 := 15) (pc' := 24) rfl (hb hby d1_15) rfl (tlt h15).1 (by decide) (by decide) ?_
        show Steps p.tables e below (s₁.setTop (mkF m 24 #[.val (.int p0)] [])) _
        refine XS.iloadN X0.here hx rfl (hb hby d1_24) rfl ?_
        show Steps p.tables e below (s₁.setTop (mkF m 25 #[.val (.int p0)] [(.int p0)])) _
        refine XS.bipush X0.here hx rfl (hb hby d1_25) ?_
        exact k
      by_cases h27 : p0 < (48 : Int32)
      · refine own_st (B := s₁.setTop (mkF m 39 #[.val (.int p0)] [(.int (46 : Int32)), (.int p0)])) (fun t k => ?_) ?_
        · show Steps p.tables e below (s₁.setTop (mkF m 27 #[.val (.int p0)] [(.int (48 : Int32)), (.int p0)])) _
          refine XS.icmpYes X0.here hx rfl (pc0 := 27) (pc' := 36) rfl (hb hby d1_27) rfl (tlt h27).1 (by decide) (by decide) ?_
          show Steps p.tables e below (s₁.setTop (mkF m 36 #[.val (.int p0)] [])) _
          refine XS.iloadN X0.here hx rfl (hb hby d1_36) rfl ?_
          show Steps p.tables e below (s₁.setTop (mkF m 37 #[.val (.int p0)] [(.int p0)])) _
          refine XS.bipush X0.here hx rfl (hb hby d1_37) ?_
          exact k
        by_cases h39 : p0 = (46 : Int32)
        · refine own_st (B := s₁.setTop (mkF m 60 #[.val (.int p0)] [])) (fun t k => ?_) ?_
          · show Steps p.tables e below (s₁.setTop (mkF m 39 #[.val (.int p0)] [(.int (46 : Int32)), (.int p0)])) _
            refine XS.icmpYes X0.here hx rfl (pc0 := 39) (pc' := 60) rfl (hb hby d1_39) rfl (teq h39).1 (by decide) (by decide) ?_
            exact k
          exact k60 (by simp [own_nm, h3, h15, h27, h39])
        · refine own_st (B := s₁.setTop (mkF m 45 #[.val (.int p0)] [(.int (95 : Int32)), (.int p0)])) (fun t k => ?_) ?_
          · show Steps p.tables e below (s₁.setTop (mkF m 39 #[.val (.int p0)] [(.int (46 : Int32)), (.int p0)])) _
            refine XS.icmpNo X0.here hx rfl (hb hby d1_39) rfl (feq h39).1 ?_
            show Steps p.tables e below (s₁.setTop (mkF m 42 #[.val (.int p0)] [])) _
            refine XS.iloadN X0.here hx rfl (hb hby d1_42) rfl ?_
            show Steps p.tables e below (s₁.setTop (mkF m 43 #[.val (.int p0)] [(.int p0)])) _
            refine XS.bipush X0.here hx rfl (hb hby d1_43) ?_
            exact k
          by_cases h45 : p0 = (95 : Int32)
          · refine own_st (B := s₁.setTop (mkF m 60 #[.val (.int p0)] [])) (fun t k => ?_) ?_
            · show Steps p.tables e below (s₁.setTop (mkF m 45 #[.val (.int p0)] [(.int (95 : Int32)), (.int p0)])) _
              refine XS.icmpYes X0.here hx rfl (pc0 := 45) (pc' := 60) rfl (hb hby d1_45) rfl (teq h45).1 (by decide) (by decide) ?_
              exact k
            exact k60 (by simp [own_nm, h3, h15, h27, h39, h45])
          · refine own_st (B := s₁.setTop (mkF m 51 #[.val (.int p0)] [(.int (126 : Int32)), (.int p0)])) (fun t k => ?_) ?_
            · show Steps p.tables e below (s₁.setTop (mkF m 45 #[.val (.int p0)] [(.int (95 : Int32)), (.int p0)])) _
              refine XS.icmpNo X0.here hx rfl (hb hby d1_45) rfl (feq h45).1 ?_
              show Steps p.tables e below (s₁.setTop (mkF m 48 #[.val (.int p0)] [])) _
              refine XS.iloadN X0.here hx rfl (hb hby d1_48) rfl ?_
              show Steps p.tables e below (s₁.setTop (mkF m 49 #[.val (.int p0)] [(.int p0)])) _
              refine XS.bipush X0.here hx rfl (hb hby d1_49) ?_
              exact k
            by_cases h51 : p0 = (126 : Int32)
            · refine own_st (B := s₁.setTop (mkF m 60 #[.val (.int p0)] [])) (fun t k => ?_) ?_
              · show Steps p.tables e below (s₁.setTop (mkF m 51 #[.val (.int p0)] [(.int (126 : Int32)), (.int p0)])) _
                refine XS.icmpYes X0.here hx rfl (pc0 := 51) (pc' := 60) rfl (hb hby d1_51) rfl (teq h51).1 (by decide) (by decide) ?_
                exact k
              exact k60 (by simp [own_nm, h3, h15, h27, h39, h45, h51])
            · refine own_st (B := s₁.setTop (mkF m 57 #[.val (.int p0)] [(.int (45 : Int32)), (.int p0)])) (fun t k => ?_) ?_
              · show Steps p.tables e below (s₁.setTop (mkF m 51 #[.val (.int p0)] [(.int (126 : Int32)), (.int p0)])) _
                refine XS.icmpNo X0.here hx rfl (hb hby d1_51) rfl (feq h51).1 ?_
                show Steps p.tables e below (s₁.setTop (mkF m 54 #[.val (.int p0)] [])) _
                refine XS.iloadN X0.here hx rfl (hb hby d1_54) rfl ?_
                show Steps p.tables e below (s₁.setTop (mkF m 55 #[.val (.int p0)] [(.int p0)])) _
                refine XS.bipush X0.here hx rfl (hb hby d1_55) ?_
                exact k
              by_cases h57 : p0 = (45 : Int32)
              · refine own_st (B := s₁.setTop (mkF m 60 #[.val (.int p0)] [])) (fun t k => ?_) ?_
                · show Steps p.tables e below (s₁.setTop (mkF m 57 #[.val (.int p0)] [(.int (45 : Int32)), (.int p0)])) _
                  refine XS.icmpNo X0.here hx rfl (hb hby d1_57) rfl (teq h57).2 ?_
                  exact k
                exact k60 (by simp [own_nm, h3, h15, h27, h39, h45, h51, h57])
              · refine own_st (B := s₁.setTop (mkF m 64 #[.val (.int p0)] [])) (fun t k => ?_) ?_
                · show Steps p.tables e below (s₁.setTop (mkF m 57 #[.val (.int p0)] [(.int (45 : Int32)), (.int p0)])) _
                  refine XS.icmpYes X0.here hx rfl (pc0 := 57) (pc' := 64) rfl (hb hby d1_57) rfl (feq h57).2 (by decide) (by decide) ?_
                  exact k
                exact k64 (by simp [own_nm, h3, h15, h27, h39, h45, h51, h57])
      · refine own_st (B := s₁.setTop (mkF m 33 #[.val (.int p0)] [(.int (57 : Int32)), (.int p0)])) (fun t k => ?_) ?_
        · show Steps p.tables e below (s₁.setTop (mkF m 27 #[.val (.int p0)] [(.int (48 : Int32)), (.int p0)])) _
          refine XS.icmpNo X0.here hx rfl (hb hby d1_27) rfl (flt h27).1 ?_
          show Steps p.tables e below (s₁.setTop (mkF m 30 #[.val (.int p0)] [])) _
          refine XS.iloadN X0.here hx rfl (hb hby d1_30) rfl ?_
          show Steps p.tables e below (s₁.setTop (mkF m 31 #[.val (.int p0)] [(.int p0)])) _
          refine XS.bipush X0.here hx rfl (hb hby d1_31) ?_
          exact k
        by_cases h33 : (57 : Int32) < p0
        · refine own_st (B := s₁.setTop (mkF m 39 #[.val (.int p0)] [(.int (46 : Int32)), (.int p0)])) (fun t k => ?_) ?_
          · show Steps p.tables e below (s₁.setTop (mkF m 33 #[.val (.int p0)] [(.int (57 : Int32)), (.int p0)])) _
            refine XS.icmpNo X0.here hx rfl (hb hby d1_33) rfl (tlt h33).2.2.2 ?_
            show Steps p.tables e below (s₁.setTop (mkF m 36 #[.val (.int p0)] [])) _
            refine XS.iloadN X0.here hx rfl (hb hby d1_36) rfl ?_
            show Steps p.tables e below (s₁.setTop (mkF m 37 #[.val (.int p0)] [(.int p0)])) _
            refine XS.bipush X0.here hx rfl (hb hby d1_37) ?_
            exact k
          by_cases h39 : p0 = (46 : Int32)
          · refine own_st (B := s₁.setTop (mkF m 60 #[.val (.int p0)] [])) (fun t k => ?_) ?_
            · show Steps p.tables e below (s₁.setTop (mkF m 39 #[.val (.int p0)] [(.int (46 : Int32)), (.int p0)])) _
              refine XS.icmpYes X0.here hx rfl (pc0 := 39) (pc' := 60) rfl (hb hby d1_39) rfl (teq h39).1 (by decide) (by decide) ?_
              exact k
            exact k60 (by simp [own_nm, h3, h15, h27, h33, h39])
          · refine own_st (B := s₁.setTop (mkF m 45 #[.val (.int p0)] [(.int (95 : Int32)), (.int p0)])) (fun t k => ?_) ?_
            · show Steps p.tables e below (s₁.setTop (mkF m 39 #[.val (.int p0)] [(.int (46 : Int32)), (.int p0)])) _
              refine XS.icmpNo X0.here hx rfl (hb hby d1_39) rfl (feq h39).1 ?_
              show Steps p.tables e below (s₁.setTop (mkF m 42 #[.val (.int p0)] [])) _
              refine XS.iloadN X0.here hx rfl (hb hby d1_42) rfl ?_
              show Steps p.tables e below (s₁.setTop (mkF m 43 #[.val (.int p0)] [(.int p0)])) _
              refine XS.bipush X0.here hx rfl (hb hby d1_43) ?_
              exact k
            by_cases h45 : p0 = (95 : Int32)
            · refine own_st (B := s₁.setTop (mkF m 60 #[.val (.int p0)] [])) (fun t k => ?_) ?_
              · show Steps p.tables e below (s₁.setTop (mkF m 45 #[.val (.int p0)] [(.int (95 : Int32)), (.int p0)])) _
                refine XS.icmpYes X0.here hx rfl (pc0 := 45) (pc' := 60) rfl (hb hby d1_45) rfl (teq h45).1 (by decide) (by decide) ?_
                exact k
              exact k60 (by simp [own_nm, h3, h15, h27, h33, h39, h45])
            · refine own_st (B := s₁.setTop (mkF m 51 #[.val (.int p0)] [(.int (126 : Int32)), (.int p0)])) (fun t k => ?_) ?_
              · show Steps p.tables e below (s₁.setTop (mkF m 45 #[.val (.int p0)] [(.int (95 : Int32)), (.int p0)])) _
                refine XS.icmpNo X0.here hx rfl (hb hby d1_45) rfl (feq h45).1 ?_
                show Steps p.tables e below (s₁.setTop (mkF m 48 #[.val (.int p0)] [])) _
                refine XS.iloadN X0.here hx rfl (hb hby d1_48) rfl ?_
                show Steps p.tables e below (s₁.setTop (mkF m 49 #[.val (.int p0)] [(.int p0)])) _
                refine XS.bipush X0.here hx rfl (hb hby d1_49) ?_
                exact k
              by_cases h51 : p0 = (126 : Int32)
              · refine own_st (B := s₁.setTop (mkF m 60 #[.val (.int p0)] [])) (fun t k => ?_) ?_
                · show Steps p.tables e below (s₁.setTop (mkF m 51 #[.val (.int p0)] [(.int (126 : Int32)), (.int p0)])) _
                  refine XS.icmpYes X0.here hx rfl (pc0 := 51) (pc' := 60) rfl (hb hby d1_51) rfl (teq h51).1 (by decide) (by decide) ?_
                  exact k
                exact k60 (by simp [own_nm, h3, h15, h27, h33, h39, h45, h51])
              · refine own_st (B := s₁.setTop (mkF m 57 #[.val (.int p0)] [(.int (45 : Int32)), (.int p0)])) (fun t k => ?_) ?_
                · show Steps p.tables e below (s₁.setTop (mkF m 51 #[.val (.int p0)] [(.int (126 : Int32)), (.int p0)])) _
                  refine XS.icmpNo X0.here hx rfl (hb hby d1_51) rfl (feq h51).1 ?_
                  show Steps p.tables e below (s₁.setTop (mkF m 54 #[.val (.int p0)] [])) _
                  refine XS.iloadN X0.here hx rfl (hb hby d1_54) rfl ?_
                  show Steps p.tables e below (s₁.setTop (mkF m 55 #[.val (.int p0)] [(.int p0)])) _
                  refine XS.bipush X0.here hx rfl (hb hby d1_55) ?_
                  exact k
                by_cases h57 : p0 = (45 : Int32)
                · refine own_st (B := s₁.setTop (mkF m 60 #[.val (.int p0)] [])) (fun t k => ?_) ?_
                  · show Steps p.tables e below (s₁.setTop (mkF m 57 #[.val (.int p0)] [(.int (45 : Int32)), (.int p0)])) _
                    refine XS.icmpNo X0.here hx rfl (hb hby d1_57) rfl (teq h57).2 ?_
                    exact k
                  exact k60 (by simp [own_nm, h3, h15, h27, h33, h39, h45, h51, h57])
                · refine own_st (B := s₁.setTop (mkF m 64 #[.val (.int p0)] [])) (fun t k => ?_) ?_
                  · show Steps p.tables e below (s₁.setTop (mkF m 57 #[.val (.int p0)] [(.int (45 : Int32)), (.int p0)])) _
                    refine XS.icmpYes X0.here hx rfl (pc0 := 57) (pc' := 64) rfl (hb hby d1_57) rfl (feq h57).2 (by decide) (by decide) ?_
                    exact k
                  exact k64 (by simp [own_nm, h3, h15, h27, h33, h39, h45, h51, h57])
        · refine own_st (B := s₁.setTop (mkF m 60 #[.val (.int p0)] [])) (fun t k => ?_) ?_
          · show Steps p.tables e below (s₁.setTop (mkF m 33 #[.val (.int p0)] [(.int (57 : Int32)), (.int p0)])) _
            refine XS.icmpYes X0.here hx rfl (pc0 := 33) (pc' := 60) rfl (hb hby d1_33) rfl (flt h33).2.2.2 (by decide) (by decide) ?_
            exact k
          exact k60 (by simp [own_nm, h3, h15, h27, h33])
    · refine own_st (B := s₁.setTop (mkF m 21 #[.val (.int p0)] [(.int (122 : Int32)), (.int p0)])) (fun t k => ?_) ?_
      · show Steps p.tables e below (s₁.setTop (mkF m 15 #[.val (.int p0)] [(.int (97 : Int32)), (.int p0)])) _
        refine XS.icmpNo X0.here hx rfl (hb hby d1_15) rfl (flt h15).1 ?_
        show Steps p.tables e below (s₁.setTop (mkF m 18 #[.val (.int p0)] [])) _
        refine XS.iloadN X0.here hx rfl (hb hby d1_18) rfl ?_
        show Steps p.tables e below (s₁.setTop (mkF m 19 #[.val (.int p0)] [(.int p0)])) _
        refine XS.bipush X0.here hx rfl (hb hby d1_19) ?_
        exact k
      by_cases h21 : (122 : Int32) < p0
      · refine own_st (B := s₁.setTop (mkF m 27 #[.val (.int p0)] [(.int (48 : Int32)), (.int p0)])) (fun t k => ?_) ?_
        · show Steps p.tables e below (s₁.setTop (mkF m 21 #[.val (.int p0)] [(.int (122 : Int32)), (.int p0)])) _
          refine XS.icmpNo X0.here hx rfl (hb hby d1_21) rfl (tlt h21).2.2.2 ?_
          show Steps p.tables e below (s₁.setTop (mkF m 24 #[.val (.int p0)] [])) _
          refine XS.iloadN X0.here hx rfl (hb hby d1_24) rfl ?_
          show Steps p.tables e below (s₁.setTop (mkF m 25 #[.val (.int p0)] [(.int p0)])) _
          refine XS.bipush X0.here hx rfl (hb hby d1_25) ?_
          exact k
        by_cases h27 : p0 < (48 : Int32)
        · refine own_st (B := s₁.setTop (mkF m 39 #[.val (.int p0)] [(.int (46 : Int32)), (.int p0)])) (fun t k => ?_) ?_
          · show Steps p.tables e below (s₁.setTop (mkF m 27 #[.val (.int p0)] [(.int (48 : Int32)), (.int p0)])) _
            refine XS.icmpYes X0.here hx rfl (pc0 := 27) (pc' := 36) rfl (hb hby d1_27) rfl (tlt h27).1 (by decide) (by decide) ?_
            show Steps p.tables e below (s₁.setTop (mkF m 36 #[.val (.int p0)] [])) _
            refine XS.iloadN X0.here hx rfl (hb hby d1_36) rfl ?_
            show Steps p.tables e below (s₁.setTop (mkF m 37 #[.val (.int p0)] [(.int p0)])) _
            refine XS.bipush X0.here hx rfl (hb hby d1_37) ?_
            exact k
          by_cases h39 : p0 = (46 : Int32)
          · refine own_st (B := s₁.setTop (mkF m 60 #[.val (.int p0)] [])) (fun t k => ?_) ?_
            · show Steps p.tables e below (s₁.setTop (mkF m 39 #[.val (.int p0)] [(.int (46 : Int32)), (.int p0)])) _
              refine XS.icmpYes X0.here hx rfl (pc0 := 39) (pc' := 60) rfl (hb hby d1_39) rfl (teq h39).1 (by decide) (by decide) ?_
              exact k
            exact k60 (by simp [own_nm, h3, h15, h21, h27, h39])
          · refine own_st (B := s₁.setTop (mkF m 45 #[.val (.int p0)] [(.int (95 : Int32)), (.int p0)])) (fun t k => ?_) ?_
            · show Steps p.tables e below (s₁.setTop (mkF m 39 #[.val (.int p0)] [(.int (46 : Int32)), (.int p0)])) _
              refine XS.icmpNo X0.here hx rfl (hb hby d1_39) rfl (feq h39).1 ?_
              show Steps p.tables e below (s₁.setTop (mkF m 42 #[.val (.int p0)] [])) _
              refine XS.iloadN X0.here hx rfl (hb hby d1_42) rfl ?_
              show Steps p.tables e below (s₁.setTop (mkF m 43 #[.val (.int p0)] [(.int p0)])) _
              refine XS.bipush X0.here hx rfl (hb hby d1_43) ?_
              exact k
            by_cases h45 : p0 = (95 : Int32)
            · refine own_st (B := s₁.setTop (mkF m 60 #[.val (.int p0)] [])) (fun t k => ?_) ?_
              · show Steps p.tables e below (s₁.setTop (mkF m 45 #[.val (.int p0)] [(.int (95 : Int32)), (.int p0)])) _
                refine XS.icmpYes X0.here hx rfl (pc0 := 45) (pc' := 60) rfl (hb hby d1_45) rfl (teq h45).1 (by decide) (by decide) ?_
                exact k
              exact k60 (by simp [own_nm, h3, h15, h21, h27, h39, h45])
            · refine own_st (B := s₁.setTop (mkF m 51 #[.val (.int p0)] [(.int (126 : Int32)), (.int p0)])) (fun t k => ?_) ?_
              · show Steps p.tables e below (s₁.setTop (mkF m 45 #[.val (.int p0)] [(.int (95 : Int32)), (.int p0)])) _
                refine XS.icmpNo X0.here hx rfl (hb hby d1_45) rfl (feq h45).1 ?_
                show Steps p.tables e below (s₁.setTop (mkF m 48 #[.val (.int p0)] [])) _
                refine XS.iloadN X0.here hx rfl (hb hby d1_48) rfl ?_
                show Steps p.tables e below (s₁.setTop (mkF m 49 #[.val (.int p0)] [(.int p0)])) _
                refine XS.bipush X0.here hx rfl (hb hby d1_49) ?_
                exact k
              by_cases h51 : p0 = (126 : Int32)
              · refine own_st (B := s₁.setTop (mkF m 60 #[.val (.int p0)] [])) (fun t k => ?_) ?_
                · show Steps p.tables e below (s₁.setTop (mkF m 51 #[.val (.int p0)] [(.int (126 : Int32)), (.int p0)])) _
                  refine XS.icmpYes X0.here hx rfl (pc0 := 51) (pc' := 60) rfl (hb hby d1_51) rfl (teq h51).1 (by decide) (by decide) ?_
                  exact k
                exact k60 (by simp [own_nm, h3, h15, h21, h27, h39, h45, h51])
              · refine own_st (B := s₁.setTop (mkF m 57 #[.val (.int p0)] [(.int (45 : Int32)), (.int p0)])) (fun t k => ?_) ?_
                · show Steps p.tables e below (s₁.setTop (mkF m 51 #[.val (.int p0)] [(.int (126 : Int32)), (.int p0)])) _
                  refine XS.icmpNo X0.here hx rfl (hb hby d1_51) rfl (feq h51).1 ?_
                  show Steps p.tables e below (s₁.setTop (mkF m 54 #[.val (.int p0)] [])) _
                  refine XS.iloadN X0.here hx rfl (hb hby d1_54) rfl ?_
                  show Steps p.tables e below (s₁.setTop (mkF m 55 #[.val (.int p0)] [(.int p0)])) _
                  refine XS.bipush X0.here hx rfl (hb hby d1_55) ?_
                  exact k
                by_cases h57 : p0 = (45 : Int32)
                · refine own_st (B := s₁.setTop (mkF m 60 #[.val (.int p0)] [])) (fun t k => ?_) ?_
                  · show Steps p.tables e below (s₁.setTop (mkF m 57 #[.val (.int p0)] [(.int (45 : Int32)), (.int p0)])) _
                    refine XS.icmpNo X0.here hx rfl (hb hby d1_57) rfl (teq h57).2 ?_
                    exact k
                  exact k60 (by simp [own_nm, h3, h15, h21, h27, h39, h45, h51, h57])
                · refine own_st (B := s₁.setTop (mkF m 64 #[.val (.int p0)] [])) (fun t k => ?_) ?_
                  · show Steps p.tables e below (s₁.setTop (mkF m 57 #[.val (.int p0)] [(.int (45 : Int32)), (.int p0)])) _
                    refine XS.icmpYes X0.here hx rfl (pc0 := 57) (pc' := 64) rfl (hb hby d1_57) rfl (feq h57).2 (by decide) (by decide) ?_
                    exact k
                  exact k64 (by simp [own_nm, h3, h15, h21, h27, h39, h45, h51, h57])
        · refine own_st (B := s₁.setTop (mkF m 33 #[.val (.int p0)] [(.int (57 : Int32)), (.int p0)])) (fun t k => ?_) ?_
          · show Steps p.tables e below (s₁.setTop (mkF m 27 #[.val (.int p0)] [(.int (48 : Int32)), (.int p0)])) _
            refine XS.icmpNo X0.here hx rfl (hb hby d1_27) rfl (flt h27).1 ?_
            show Steps p.tables e below (s₁.setTop (mkF m 30 #[.val (.int p0)] [])) _
            refine XS.iloadN X0.here hx rfl (hb hby d1_30) rfl ?_
            show Steps p.tables e below (s₁.setTop (mkF m 31 #[.val (.int p0)] [(.int p0)])) _
            refine XS.bipush X0.here hx rfl (hb hby d1_31) ?_
            exact k
          by_cases h33 : (57 : Int32) < p0
          · refine own_st (B := s₁.setTop (mkF m 39 #[.val (.int p0)] [(.int (46 : Int32)), (.int p0)])) (fun t k => ?_) ?_
            · show Steps p.tables e below (s₁.setTop (mkF m 33 #[.val (.int p0)] [(.int (57 : Int32)), (.int p0)])) _
              refine XS.icmpNo X0.here hx rfl (hb hby d1_33) rfl (tlt h33).2.2.2 ?_
              show Steps p.tables e below (s₁.setTop (mkF m 36 #[.val (.int p0)] [])) _
              refine XS.iloadN X0.here hx rfl (hb hby d1_36) rfl ?_
              show Steps p.tables e below (s₁.setTop (mkF m 37 #[.val (.int p0)] [(.int p0)])) _
              refine XS.bipush X0.here hx rfl (hb hby d1_37) ?_
              exact k
            by_cases h39 : p0 = (46 : Int32)
            · refine own_st (B := s₁.setTop (mkF m 60 #[.val (.int p0)] [])) (fun t k => ?_) ?_
              · show Steps p.tables e below (s₁.setTop (mkF m 39 #[.val (.int p0)] [(.int (46 : Int32)), (.int p0)])) _
                refine XS.icmpYes X0.here hx rfl (pc0 := 39) (pc' := 60) rfl (hb hby d1_39) rfl (teq h39).1 (by decide) (by decide) ?_
                exact k
              exact k60 (by simp [own_nm, h3, h15, h21, h27, h33, h39])
            · refine own_st (B := s₁.setTop (mkF m 45 #[.val (.int p0)] [(.int (95 : Int32)), (.int p0)])) (fun t k => ?_) ?_
              · show Steps p.tables e below (s₁.setTop (mkF m 39 #[.val (.int p0)] [(.int (46 : Int32)), (.int p0)])) _
                refine XS.icmpNo X0.here hx rfl (hb hby d1_39) rfl (feq h39).1 ?_
                show Steps p.tables e below (s₁.setTop (mkF m 42 #[.val (.int p0)] [])) _
                refine XS.iloadN X0.here hx rfl (hb hby d1_42) rfl ?_
                show Steps p.tables e below (s₁.setTop (mkF m 43 #[.val (.int p0)] [(.int p0)])) _
                refine XS.bipush X0.here hx rfl (hb hby d1_43) ?_
                exact k
              by_cases h45 : p0 = (95 : Int32)
              · refine own_st (B := s₁.setTop (mkF m 60 #[.val (.int p0)] [])) (fun t k => ?_) ?_
                · show Steps p.tables e below (s₁.setTop (mkF m 45 #[.val (.int p0)] [(.int (95 : Int32)), (.int p0)])) _
                  refine XS.icmpYes X0.here hx rfl (pc0 := 45) (pc' := 60) rfl (hb hby d1_45) rfl (teq h45).1 (by decide) (by decide) ?_
                  exact k
                exact k60 (by simp [own_nm, h3, h15, h21, h27, h33, h39, h45])
              · refine own_st (B := s₁.setTop (mkF m 51 #[.val (.int p0)] [(.int (126 : Int32)), (.int p0)])) (fun t k => ?_) ?_
                · show Steps p.tables e below (s₁.setTop (mkF m 45 #[.val (.int p0)] [(.int (95 : Int32)), (.int p0)])) _
                  refine XS.icmpNo X0.here hx rfl (hb hby d1_45) rfl (feq h45).1 ?_
                  show Steps p.tables e below (s₁.setTop (mkF m 48 #[.val (.int p0)] [])) _
                  refine XS.iloadN X0.here hx rfl (hb hby d1_48) rfl ?_
                  show Steps p.tables e below (s₁.setTop (mkF m 49 #[.val (.int p0)] [(.int p0)])) _
                  refine XS.bipush X0.here hx rfl (hb hby d1_49) ?_
                  exact k
                by_cases h51 : p0 = (126 : Int32)
                · refine own_st (B := s₁.setTop (mkF m 60 #[.val (.int p0)] [])) (fun t k => ?_) ?_
                  · show Steps p.tables e below (s₁.setTop (mkF m 51 #[.val (.int p0)] [(.int (126 : Int32)), (.int p0)])) _
                    refine XS.icmpYes X0.here hx rfl (pc0 := 51) (pc' := 60) rfl (hb hby d1_51) rfl (teq h51).1 (by decide) (by decide) ?_
                    exact k
                  exact k60 (by simp [own_nm, h3, h15, h21, h27, h33, h39, h45, h51])
                · refine own_st (B := s₁.setTop (mkF m 57 #[.val (.int p0)] [(.int (45 : Int32)), (.int p0)])) (fun t k => ?_) ?_
                  · show Steps p.tables e below (s₁.setTop (mkF m 51 #[.val (.int p0)] [(.int (126 : Int32)), (.int p0)])) _
                    refine XS.icmpNo X0.here hx rfl (hb hby d1_51) rfl (feq h51).1 ?_
                    show Steps p.tables e below (s₁.setTop (mkF m 54 #[.val (.int p0)] [])) _
                    refine XS.iloadN X0.here hx rfl (hb hby d1_54) rfl ?_
                    show Steps p.tables e below (s₁.setTop (mkF m 55 #[.val (.int p0)] [(.int p0)])) _
                    refine XS.bipush X0.here hx rfl (hb hby d1_55) ?_
                    exact k
                  by_cases h57 : p0 = (45 : Int32)
                  · refine own_st (B := s₁.setTop (mkF m 60 #[.val (.int p0)] [])) (fun t k => ?_) ?_
                    · show Steps p.tables e below (s₁.setTop (mkF m 57 #[.val (.int p0)] [(.int (45 : Int32)), (.int p0)])) _
                      refine XS.icmpNo X0.here hx rfl (hb hby d1_57) rfl (teq h57).2 ?_
                      exact k
                    exact k60 (by simp [own_nm, h3, h15, h21, h27, h33, h39, h45, h51, h57])
                  · refine own_st (B := s₁.setTop (mkF m 64 #[.val (.int p0)] [])) (fun t k => ?_) ?_
                    · show Steps p.tables e below (s₁.setTop (mkF m 57 #[.val (.int p0)] [(.int (45 : Int32)), (.int p0)])) _
                      refine XS.icmpYes X0.here hx rfl (pc0 := 57) (pc' := 64) rfl (hb hby d1_57) rfl (feq h57).2 (by decide) (by decide) ?_
                      exact k
                    exact k64 (by simp [own_nm, h3, h15, h21, h27, h33, h39, h45, h51, h57])
          · refine own_st (B := s₁.setTop (mkF m 60 #[.val (.int p0)] [])) (fun t k => ?_) ?_
            · show Steps p.tables e below (s₁.setTop (mkF m 33 #[.val (.int p0)] [(.int (57 : Int32)), (.int p0)])) _
              refine XS.icmpYes X0.here hx rfl (pc0 := 33) (pc' := 60) rfl (hb hby d1_33) rfl (flt h33).2.2.2 (by decide) (by decide) ?_
              exact k
            exact k60 (by simp [own_nm, h3, h15, h21, h27, h33])
      · refine own_st (B := s₁.setTop (mkF m 60 #[.val (.int p0)] [])) (fun t k => ?_) ?_
        · show Steps p.tables e below (s₁.setTop (mkF m 21 #[.val (.int p0)] [(.int (122 : Int32)), (.int p0)])) _
          refine XS.icmpYes X0.here hx rfl (pc0 := 21) (pc' := 60) rfl (hb hby d1_21) rfl (flt h21).2.2.2 (by decide) (by decide) ?_
          exact k
        exact k60 (by simp [own_nm, h3, h15, h21])
  · refine own_st (B := s₁.setTop (mkF m 9 #[.val (.int p0)] [(.int (90 : Int32)), (.int p0)])) (fun t k => ?_) ?_
    · show Steps p.tables e below (s₁.setTop (mkF m 3 #[.val (.int p0)] [(.int (65 : Int32)), (.int p0)])) _
      refine XS.icmpNo X0.here hx rfl (hb hby d1_3) rfl (flt h3).1 ?_
      show Steps p.tables e below (s₁.setTop (mkF m 6 #[.val (.int p0)] [])) _
      refine XS.iloadN X0.here hx rfl (hb hby d1_6) rfl ?_
      show Steps p.tables e below (s₁.setTop (mkF m 7 #[.val (.int p0)] [(.int p0)])) _
      refine XS.bipush X0.here hx rfl (hb hby d1_7) ?_
      exact k
    by_cases h9 : (90 : Int32) < p0
    · refine own_st (B := s₁.setTop (mkF m 15 #[.val (.int p0)] [(.int (97 : Int32)), (.int p0)])) (fun t k => ?_) ?_
      · show Steps p.tables e below (s₁.setTop (mkF m 9 #[.val (.int p0)] [(.int (90 : Int32)), (.int p0)])) _
        refine XS.icmpNo X0.here hx rfl (hb hby d1_9) rfl (tlt h9).2.2.2 ?_
        show Steps p.tables e below (s₁.setTop (mkF m 12 #[.val (.int p0)] [])) _
        refine XS.iloadN X0.here hx rfl (hb hby d1_12) rfl ?_
        show Steps p.tables e below (s₁.setTop (mkF m 13 #[.val (.int p0)] [(.int p0)])) _
        refine XS.bipush X0.here hx rfl (hb hby d1_13) ?_
        exact k
      by_cases h15 : p0 < (97 : Int32)
      · refine own_st (B := s₁.setTop (mkF m 27 #[.val (.int p0)] [(.int (48 : Int32)), (.int p0)])) (fun t k => ?_) ?_
        · show Steps p.tables e below (s₁.setTop (mkF m 15 #[.val (.int p0)] [(.int (97 : Int32)), (.int p0)])) _
          refine XS.icmpYes X0.here hx rfl (pc0 := 15) (pc' := 24) rfl (hb hby d1_15) rfl (tlt h15).1 (by decide) (by decide) ?_
          show Steps p.tables e below (s₁.setTop (mkF m 24 #[.val (.int p0)] [])) _
          refine XS.iloadN X0.here hx rfl (hb hby d1_24) rfl ?_
          show Steps p.tables e below (s₁.setTop (mkF m 25 #[.val (.int p0)] [(.int p0)])) _
          refine XS.bipush X0.here hx rfl (hb hby d1_25) ?_
          exact k
        by_cases h27 : p0 < (48 : Int32)
        · refine own_st (B := s₁.setTop (mkF m 39 #[.val (.int p0)] [(.int (46 : Int32)), (.int p0)])) (fun t k => ?_) ?_
          · show Steps p.tables e below (s₁.setTop (mkF m 27 #[.val (.int p0)] [(.int (48 : Int32)), (.int p0)])) _
            refine XS.icmpYes X0.here hx rfl (pc0 := 27) (pc' := 36) rfl (hb hby d1_27) rfl (tlt h27).1 (by decide) (by decide) ?_
            show Steps p.tables e below (s₁.setTop (mkF m 36 #[.val (.int p0)] [])) _
            refine XS.iloadN X0.here hx rfl (hb hby d1_36) rfl ?_
            show Steps p.tables e below (s₁.setTop (mkF m 37 #[.val (.int p0)] [(.int p0)])) _
            refine XS.bipush X0.here hx rfl (hb hby d1_37) ?_
            exact k
          by_cases h39 : p0 = (46 : Int32)
          · refine own_st (B := s₁.setTop (mkF m 60 #[.val (.int p0)] [])) (fun t k => ?_) ?_
            · show Steps p.tables e below (s₁.setTop (mkF m 39 #[.val (.int p0)] [(.int (46 : Int32)), (.int p0)])) _
              refine XS.icmpYes X0.here hx rfl (pc0 := 39) (pc' := 60) rfl (hb hby d1_39) rfl (teq h39).1 (by decide) (by decide) ?_
              exact k
            exact k60 (by simp [own_nm, h3, h9, h15, h27, h39])
          · refine own_st (B := s₁.setTop (mkF m 45 #[.val (.int p0)] [(.int (95 : Int32)), (.int p0)])) (fun t k => ?_) ?_
            · show Steps p.tables e below (s₁.setTop (mkF m 39 #[.val (.int p0)] [(.int (46 : Int32)), (.int p0)])) _
              refine XS.icmpNo X0.here hx rfl (hb hby d1_39) rfl (feq h39).1 ?_
              show Steps p.tables e below (s₁.setTop (mkF m 42 #[.val (.int p0)] [])) _
              refine XS.iloadN X0.here hx rfl (hb hby d1_42) rfl ?_
              show Steps p.tables e below (s₁.setTop (mkF m 43 #[.val (.int p0)] [(.int p0)])) _
              refine XS.bipush X0.here hx rfl (hb hby d1_43) ?_
              exact k
            by_cases h45 : p0 = (95 : Int32)
            · refine own_st (B := s₁.setTop (mkF m 60 #[.val (.int p0)] [])) (fun t k => ?_) ?_
              · show Steps p.tables e below (s₁.setTop (mkF m 45 #[.val (.int p0)] [(.int (95 : Int32)), (.int p0)])) _
                refine XS.icmpYes X0.here hx rfl (pc0 := 45) (pc' := 60) rfl (hb hby d1_45) rfl (teq h45).1 (by decide) (by decide) ?_
                exact k
              exact k60 (by simp [own_nm, h3, h9, h15, h27, h39, h45])
            · refine own_st (B := s₁.setTop (mkF m 51 #[.val (.int p0)] [(.int (126 : Int32)), (.int p0)])) (fun t k => ?_) ?_
              · show Steps p.tables e below (s₁.setTop (mkF m 45 #[.val (.int p0)] [(.int (95 : Int32)), (.int p0)])) _
                refine XS.icmpNo X0.here hx rfl (hb hby d1_45) rfl (feq h45).1 ?_
                show Steps p.tables e below (s₁.setTop (mkF m 48 #[.val (.int p0)] [])) _
                refine XS.iloadN X0.here hx rfl (hb hby d1_48) rfl ?_
                show Steps p.tables e below (s₁.setTop (mkF m 49 #[.val (.int p0)] [(.int p0)])) _
                refine XS.bipush X0.here hx rfl (hb hby d1_49) ?_
                exact k
              by_cases h51 : p0 = (126 : Int32)
              · refine own_st (B := s₁.setTop (mkF m 60 #[.val (.int p0)] [])) (fun t k => ?_) ?_
                · show Steps p.tables e below (s₁.setTop (mkF m 51 #[.val (.int p0)] [(.int (126 : Int32)), (.int p0)])) _
                  refine XS.icmpYes X0.here hx rfl (pc0 := 51) (pc' := 60) rfl (hb hby d1_51) rfl (teq h51).1 (by decide) (by decide) ?_
                  exact k
                exact k60 (by simp [own_nm, h3, h9, h15, h27, h39, h45, h51])
              · refine own_st (B := s₁.setTop (mkF m 57 #[.val (.int p0)] [(.int (45 : Int32)), (.int p0)])) (fun t k => ?_) ?_
                · show Steps p.tables e below (s₁.setTop (mkF m 51 #[.val (.int p0)] [(.int (126 : Int32)), (.int p0)])) _
                  refine XS.icmpNo X0.here hx rfl (hb hby d1_51) rfl (feq h51).1 ?_
                  show Steps p.tables e below (s₁.setTop (mkF m 54 #[.val (.int p0)] [])) _
                  refine XS.iloadN X0.here hx rfl (hb hby d1_54) rfl ?_
                  show Steps p.tables e below (s₁.setTop (mkF m 55 #[.val (.int p0)] [(.int p0)])) _
                  refine XS.bipush X0.here hx rfl (hb hby d1_55) ?_
                  exact k
                by_cases h57 : p0 = (45 : Int32)
                · refine own_st (B := s₁.setTop (mkF m 60 #[.val (.int p0)] [])) (fun t k => ?_) ?_
                  · show Steps p.tables e below (s₁.setTop (mkF m 57 #[.val (.int p0)] [(.int (45 : Int32)), (.int p0)])) _
                    refine XS.icmpNo X0.here hx rfl (hb hby d1_57) rfl (teq h57).2 ?_
                    exact k
                  exact k60 (by simp [own_nm, h3, h9, h15, h27, h39, h45, h51, h57])
                · refine own_st (B := s₁.setTop (mkF m 64 #[.val (.int p0)] [])) (fun t k => ?_) ?_
                  · show Steps p.tables e below (s₁.setTop (mkF m 57 #[.val (.int p0)] [(.int (45 : Int32)), (.int p0)])) _
                    refine XS.icmpYes X0.here hx rfl (pc0 := 57) (pc' := 64) rfl (hb hby d1_57) rfl (feq h57).2 (by decide) (by decide) ?_
                    exact k
                  exact k64 (by simp [own_nm, h3, h9, h15, h27, h39, h45, h51, h57])
        · refine own_st (B := s₁.setTop (mkF m 33 #[.val (.int p0)] [(.int (57 : Int32)), (.int p0)])) (fun t k => ?_) ?_
          · show Steps p.tables e below (s₁.setTop (mkF m 27 #[.val (.int p0)] [(.int (48 : Int32)), (.int p0)])) _
            refine XS.icmpNo X0.here hx rfl (hb hby d1_27) rfl (flt h27).1 ?_
            show Steps p.tables e below (s₁.setTop (mkF m 30 #[.val (.int p0)] [])) _
            refine XS.iloadN X0.here hx rfl (hb hby d1_30) rfl ?_
            show Steps p.tables e below (s₁.setTop (mkF m 31 #[.val (.int p0)] [(.int p0)])) _
            refine XS.bipush X0.here hx rfl (hb hby d1_31) ?_
            exact k
          by_cases h33 : (57 : Int32) < p0
          · refine own_st (B := s₁.setTop (mkF m 39 #[.val (.int p0)] [(.int (46 : Int32)), (.int p0)])) (fun t k => ?_) ?_
            · show Steps p.tables e below (s₁.setTop (mkF m 33 #[.val (.int p0)] [(.int (57 : Int32)), (.int p0)])) _
              refine XS.icmpNo X0.here hx rfl (hb hby d1_33) rfl (tlt h33).2.2.2 ?_
              show Steps p.tables e below (s₁.setTop (mkF m 36 #[.val (.int p0)] [])) _
              refine XS.iloadN X0.here hx rfl (hb hby d1_36) rfl ?_
              show Steps p.tables e below (s₁.setTop (mkF m 37 #[.val (.int p0)] [(.int p0)])) _
              refine XS.bipush X0.here hx rfl (hb hby d1_37) ?_
              exact k
            by_cases h39 : p0 = (46 : Int32)
            · refine own_st (B := s₁.setTop (mkF m 60 #[.val (.int p0)] [])) (fun t k => ?_) ?_
              · show Steps p.tables e below (s₁.setTop (mkF m 39 #[.val (.int p0)] [(.int (46 : Int32)), (.int p0)])) _
                refine XS.icmpYes X0.here hx rfl (pc0 := 39) (pc' := 60) rfl (hb hby d1_39) rfl (teq h39).1 (by decide) (by decide) ?_
                exact k
              exact k60 (by simp [own_nm, h3, h9, h15, h27, h33, h39])
            · refine own_st (B := s₁.setTop (mkF m 45 #[.val (.int p0)] [(.int (95 : Int32)), (.int p0)])) (fun t k => ?_) ?_
              · show Steps p.tables e below (s₁.setTop (mkF m 39 #[.val (.int p0)] [(.int (46 : Int32)), (.int p0)])) _
                refine XS.icmpNo X0.here hx rfl (hb hby d1_39) rfl (feq h39).1 ?_
                show Steps p.tables e below (s₁.setTop (mkF m 42 #[.val (.int p0)] [])) _
                refine XS.iloadN X0.here hx rfl (hb hby d1_42) rfl ?_
                show Steps p.tables e below (s₁.setTop (mkF m 43 #[.val (.int p0)] [(.int p0)])) _
                refine XS.bipush X0.here hx rfl (hb hby d1_43) ?_
                exact k
              by_cases h45 : p0 = (95 : Int32)
              · refine own_st (B := s₁.setTop (mkF m 60 #[.val (.int p0)] [])) (fun t k => ?_) ?_
                · show Steps p.tables e below (s₁.setTop (mkF m 45 #[.val (.int p0)] [(.int (95 : Int32)), (.int p0)])) _
                  refine XS.icmpYes X0.here hx rfl (pc0 := 45) (pc' := 60) rfl (hb hby d1_45) rfl (teq h45).1 (by decide) (by decide) ?_
                  exact k
                exact k60 (by simp [own_nm, h3, h9, h15, h27, h33, h39, h45])
              · refine own_st (B := s₁.setTop (mkF m 51 #[.val (.int p0)] [(.int (126 : Int32)), (.int p0)])) (fun t k => ?_) ?_
                · show Steps p.tables e below (s₁.setTop (mkF m 45 #[.val (.int p0)] [(.int (95 : Int32)), (.int p0)])) _
                  refine XS.icmpNo X0.here hx rfl (hb hby d1_45) rfl (feq h45).1 ?_
                  show Steps p.tables e below (s₁.setTop (mkF m 48 #[.val (.int p0)] [])) _
                  refine XS.iloadN X0.here hx rfl (hb hby d1_48) rfl ?_
                  show Steps p.tables e below (s₁.setTop (mkF m 49 #[.val (.int p0)] [(.int p0)])) _
                  refine XS.bipush X0.here hx rfl (hb hby d1_49) ?_
                  exact k
                by_cases h51 : p0 = (126 : Int32)
                · refine own_st (B := s₁.setTop (mkF m 60 #[.val (.int p0)] [])) (fun t k => ?_) ?_
                  · show Steps p.tables e below (s₁.setTop (mkF m 51 #[.val (.int p0)] [(.int (126 : Int32)), (.int p0)])) _
                    refine XS.icmpYes X0.here hx rfl (pc0 := 51) (pc' := 60) rfl (hb hby d1_51) rfl (teq h51).1 (by decide) (by decide) ?_
                    exact k
                  exact k60 (by simp [own_nm, h3, h9, h15, h27, h33, h39, h45, h51])
                · refine own_st (B := s₁.setTop (mkF m 57 #[.val (.int p0)] [(.int (45 : Int32)), (.int p0)])) (fun t k => ?_) ?_
                  · show Steps p.tables e below (s₁.setTop (mkF m 51 #[.val (.int p0)] [(.int (126 : Int32)), (.int p0)])) _
                    refine XS.icmpNo X0.here hx rfl (hb hby d1_51) rfl (feq h51).1 ?_
                    show Steps p.tables e below (s₁.setTop (mkF m 54 #[.val (.int p0)] [])) _
                    refine XS.iloadN X0.here hx rfl (hb hby d1_54) rfl ?_
                    show Steps p.tables e below (s₁.setTop (mkF m 55 #[.val (.int p0)] [(.int p0)])) _
                    refine XS.bipush X0.here hx rfl (hb hby d1_55) ?_
                    exact k
                  by_cases h57 : p0 = (45 : Int32)
                  · refine own_st (B := s₁.setTop (mkF m 60 #[.val (.int p0)] [])) (fun t k => ?_) ?_
                    · show Steps p.tables e below (s₁.setTop (mkF m 57 #[.val (.int p0)] [(.int (45 : Int32)), (.int p0)])) _
                      refine XS.icmpNo X0.here hx rfl (hb hby d1_57) rfl (teq h57).2 ?_
                      exact k
                    exact k60 (by simp [own_nm, h3, h9, h15, h27, h33, h39, h45, h51, h57])
                  · refine own_st (B := s₁.setTop (mkF m 64 #[.val (.int p0)] [])) (fun t k => ?_) ?_
                    · show Steps p.tables e below (s₁.setTop (mkF m 57 #[.val (.int p0)] [(.int (45 : Int32)), (.int p0)])) _
                      refine XS.icmpYes X0.here hx rfl (pc0 := 57) (pc' := 64) rfl (hb hby d1_57) rfl (feq h57).2 (by decide) (by decide) ?_
                      exact k
                    exact k64 (by simp [own_nm, h3, h9, h15, h27, h33, h39, h45, h51, h57])
          · refine own_st (B := s₁.setTop (mkF m 60 #[.val (.int p0)] [])) (fun t k => ?_) ?_
            · show Steps p.tables e below (s₁.setTop (mkF m 33 #[.val (.int p0)] [(.int (57 : Int32)), (.int p0)])) _
              refine XS.icmpYes X0.here hx rfl (pc0 := 33) (pc' := 60) rfl (hb hby d1_33) rfl (flt h33).2.2.2 (by decide) (by decide) ?_
              exact k
            exact k60 (by simp [own_nm, h3, h9, h15, h27, h33])
      · refine own_st (B := s₁.setTop (mkF m 21 #[.val (.int p0)] [(.int (122 : Int32)), (.int p0)])) (fun t k => ?_) ?_
        · show Steps p.tables e below (s₁.setTop (mkF m 15 #[.val (.int p0)] [(.int (97 : Int32)), (.int p0)])) _
          refine XS.icmpNo X0.here hx rfl (hb hby d1_15) rfl (flt h15).1 ?_
          show Steps p.tables e below (s₁.setTop (mkF m 18 #[.val (.int p0)] [])) _
          refine XS.iloadN X0.here hx rfl (hb hby d1_18) rfl ?_
          show Steps p.tables e below (s₁.setTop (mkF m 19 #[.val (.int p0)] [(.int p0)])) _
          refine XS.bipush X0.here hx rfl (hb hby d1_19) ?_
          exact k
        by_cases h21 : (122 : Int32) < p0
        · refine own_st (B := s₁.setTop (mkF m 27 #[.val (.int p0)] [(.int (48 : Int32)), (.int p0)])) (fun t k => ?_) ?_
          · show Steps p.tables e below (s₁.setTop (mkF m 21 #[.val (.int p0)] [(.int (122 : Int32)), (.int p0)])) _
            refine XS.icmpNo X0.here hx rfl (hb hby d1_21) rfl (tlt h21).2.2.2 ?_
            show Steps p.tables e below (s₁.setTop (mkF m 24 #[.val (.int p0)] [])) _
            refine XS.iloadN X0.here hx rfl (hb hby d1_24) rfl ?_
            show Steps p.tables e below (s₁.setTop (mkF m 25 #[.val (.int p0)] [(.int p0)])) _
            refine XS.bipush X0.here hx rfl (hb hby d1_25) ?_
            exact k
          by_cases h27 : p0 < (48 : Int32)
          · refine own_st (B := s₁.setTop (mkF m 39 #[.val (.int p0)] [(.int (46 : Int32)), (.int p0)])) (fun t k => ?_) ?_
            · show Steps p.tables e below (s₁.setTop (mkF m 27 #[.val (.int p0)] [(.int (48 : Int32)), (.int p0)])) _
              refine XS.icmpYes X0.here hx rfl (pc0 := 27) (pc' := 36) rfl (hb hby d1_27) rfl (tlt h27).1 (by decide) (by decide) ?_
              show Steps p.tables e below (s₁.setTop (mkF m 36 #[.val (.int p0)] [])) _
              refine XS.iloadN X0.here hx rfl (hb hby d1_36) rfl ?_
              show Steps p.tables e below (s₁.setTop (mkF m 37 #[.val (.int p0)] [(.int p0)])) _
              refine XS.bipush X0.here hx rfl (hb hby d1_37) ?_
              exact k
            by_cases h39 : p0 = (46 : Int32)
            · refine own_st (B := s₁.setTop (mkF m 60 #[.val (.int p0)] [])) (fun t k => ?_) ?_
              · show Steps p.tables e below (s₁.setTop (mkF m 39 #[.val (.int p0)] [(.int (46 : Int32)), (.int p0)])) _
                refine XS.icmpYes X0.here hx rfl (pc0 := 39) (pc' := 60) rfl (hb hby d1_39) rfl (teq h39).1 (by decide) (by decide) ?_
                exact k
              exact k60 (by simp [own_nm, h3, h9, h15, h21, h27, h39])
            · refine own_st (B := s₁.setTop (mkF m 45 #[.val (.int p0)] [(.int (95 : Int32)), (.int p0)])) (fun t k => ?_) ?_
              · show Steps p.tables e below (s₁.setTop (mkF m 39 #[.val (.int p0)] [(.int (46 : Int32)), (.int p0)])) _
                refine XS.icmpNo X0.here hx rfl (hb hby d1_39) rfl (feq h39).1 ?_
                show Steps p.tables e below (s₁.setTop (mkF m 42 #[.val (.int p0)] [])) _
                refine XS.iloadN X0.here hx rfl (hb hby d1_42) rfl ?_
                show Steps p.tables e below (s₁.setTop (mkF m 43 #[.val (.int p0)] [(.int p0)])) _
                refine XS.bipush X0.here hx rfl (hb hby d1_43) ?_
                exact k
              by_cases h45 : p0 = (95 : Int32)
              · refine own_st (B := s₁.setTop (mkF m 60 #[.val (.int p0)] [])) (fun t k => ?_) ?_
                · show Steps p.tables e below (s₁.setTop (mkF m 45 #[.val (.int p0)] [(.int (95 : Int32)), (.int p0)])) _
                  refine XS.icmpYes X0.here hx rfl (pc0 := 45) (pc' := 60) rfl (hb hby d1_45) rfl (teq h45).1 (by decide) (by decide) ?_
                  exact k
                exact k60 (by simp [own_nm, h3, h9, h15, h21, h27, h39, h45])
              · refine own_st (B := s₁.setTop (mkF m 51 #[.val (.int p0)] [(.int (126 : Int32)), (.int p0)])) (fun t k => ?_) ?_
                · show Steps p.tables e below (s₁.setTop (mkF m 45 #[.val (.int p0)] [(.int (95 : Int32)), (.int p0)])) _
                  refine XS.icmpNo X0.here hx rfl (hb hby d1_45) rfl (feq h45).1 ?_
                  show Steps p.tables e below (s₁.setTop (mkF m 48 #[.val (.int p0)] [])) _
                  refine XS.iloadN X0.here hx rfl (hb hby d1_48) rfl ?_
                  show Steps p.tables e below (s₁.setTop (mkF m 49 #[.val (.int p0)] [(.int p0)])) _
                  refine XS.bipush X0.here hx rfl (hb hby d1_49) ?_
                  exact k
                by_cases h51 : p0 = (126 : Int32)
                · refine own_st (B := s₁.setTop (mkF m 60 #[.val (.int p0)] [])) (fun t k => ?_) ?_
                  · show Steps p.tables e below (s₁.setTop (mkF m 51 #[.val (.int p0)] [(.int (126 : Int32)), (.int p0)])) _
                    refine XS.icmpYes X0.here hx rfl (pc0 := 51) (pc' := 60) rfl (hb hby d1_51) rfl (teq h51).1 (by decide) (by decide) ?_
                    exact k
                  exact k60 (by simp [own_nm, h3, h9, h15, h21, h27, h39, h45, h51])
                · refine own_st (B := s₁.setTop (mkF m 57 #[.val (.int p0)] [(.int (45 : Int32)), (.int p0)])) (fun t k => ?_) ?_
                  · show Steps p.tables e below (s₁.setTop (mkF m 51 #[.val (.int p0)] [(.int (126 : Int32)), (.int p0)])) _
                    refine XS.icmpNo X0.here hx rfl (hb hby d1_51) rfl (feq h51).1 ?_
                    show Steps p.tables e below (s₁.setTop (mkF m 54 #[.val (.int p0)] [])) _
                    refine XS.iloadN X0.here hx rfl (hb hby d1_54) rfl ?_
                    show Steps p.tables e below (s₁.setTop (mkF m 55 #[.val (.int p0)] [(.int p0)])) _
                    refine XS.bipush X0.here hx rfl (hb hby d1_55) ?_
                    exact k
                  by_cases h57 : p0 = (45 : Int32)
                  · refine own_st (B := s₁.setTop (mkF m 60 #[.val (.int p0)] [])) (fun t k => ?_) ?_
                    · show Steps p.tables e below (s₁.setTop (mkF m 57 #[.val (.int p0)] [(.int (45 : Int32)), (.int p0)])) _
                      refine XS.icmpNo X0.here hx rfl (hb hby d1_57) rfl (teq h57).2 ?_
                      exact k
                    exact k60 (by simp [own_nm, h3, h9, h15, h21, h27, h39, h45, h51, h57])
                  · refine own_st (B := s₁.setTop (mkF m 64 #[.val (.int p0)] [])) (fun t k => ?_) ?_
                    · show Steps p.tables e below (s₁.setTop (mkF m 57 #[.val (.int p0)] [(.int (45 : Int32)), (.int p0)])) _
                      refine XS.icmpYes X0.here hx rfl (pc0 := 57) (pc' := 64) rfl (hb hby d1_57) rfl (feq h57).2 (by decide) (by decide) ?_
                      exact k
                    exact k64 (by simp [own_nm, h3, h9, h15, h21, h27, h39, h45, h51, h57])
          · refine own_st (B := s₁.setTop (mkF m 33 #[.val (.int p0)] [(.int (57 : Int32)), (.int p0)])) (fun t k => ?_) ?_
            · show Steps p.tables e below (s₁.setTop (mkF m 27 #[.val (.int p0)] [(.int (48 : Int32)), (.int p0)])) _
              refine XS.icmpNo X0.here hx rfl (hb hby d1_27) rfl (flt h27).1 ?_
              show Steps p.tables e below (s₁.setTop (mkF m 30 #[.val (.int p0)] [])) _
              refine XS.iloadN X0.here hx rfl (hb hby d1_30) rfl ?_
              show Steps p.tables e below (s₁.setTop (mkF m 31 #[.val (.int p0)] [(.int p0)])) _
              refine XS.bipush X0.here hx rfl (hb hby d1_31) ?_
              exact k
            by_cases h33 : (57 : Int32) < p0
            · refine own_st (B := s₁.setTop (mkF m 39 #[.val (.int p0)] [(.int (46 : Int32)), (.int p0)])) (fun t k => ?_) ?_
              · show Steps p.tables e below (s₁.setTop (mkF m 33 #[.val (.int p0)] [(.int (57 : Int32)), (.int p0)])) _
                refine XS.icmpNo X0.here hx rfl (hb hby d1_33) rfl (tlt h33).2.2.2 ?_
                show Steps p.tables e below (s₁.setTop (mkF m 36 #[.val (.int p0)] [])) _
                refine XS.iloadN X0.here hx rfl (hb hby d1_36) rfl ?_
                show Steps p.tables e below (s₁.setTop (mkF m 37 #[.val (.int p0)] [(.int p0)])) _
                refine XS.bipush X0.here hx rfl (hb hby d1_37) ?_
                exact k
              by_cases h39 : p0 = (46 : Int32)
              · refine own_st (B := s₁.setTop (mkF m 60 #[.val (.int p0)] [])) (fun t k => ?_) ?_
                · show Steps p.tables e below (s₁.setTop (mkF m 39 #[.val (.int p0)] [(.int (46 : Int32)), (.int p0)])) _
                  refine XS.icmpYes X0.here hx rfl (pc0 := 39) (pc' := 60) rfl (hb hby d1_39) rfl (teq h39).1 (by decide) (by decide) ?_
                  exact k
                exact k60 (by simp [own_nm, h3, h9, h15, h21, h27, h33, h39])
              · refine own_st (B := s₁.setTop (mkF m 45 #[.val (.int p0)] [(.int (95 : Int32)), (.int p0)])) (fun t k => ?_) ?_
                · show Steps p.tables e below (s₁.setTop (mkF m 39 #[.val (.int p0)] [(.int (46 : Int32)), (.int p0)])) _
                  refine XS.icmpNo X0.here hx rfl (hb hby d1_39) rfl (feq h39).1 ?_
                  show Steps p.tables e below (s₁.setTop (mkF m 42 #[.val (.int p0)] [])) _
                  refine XS.iloadN X0.here hx rfl (hb hby d1_42) rfl ?_
                  show Steps p.tables e below (s₁.setTop (mkF m 43 #[.val (.int p0)] [(.int p0)])) _
                  refine XS.bipush X0.here hx rfl (hb hby d1_43) ?_
                  exact k
                by_cases h45 : p0 = (95 : Int32)
                · refine own_st (B := s₁.setTop (mkF m 60 #[.val (.int p0)] [])) (fun t k => ?_) ?_
                  · show Steps p.tables e below (s₁.setTop (mkF m 45 #[.val (.int p0)] [(.int (95 : Int32)), (.int p0)])) _
                    refine XS.icmpYes X0.here hx rfl (pc0 := 45) (pc' := 60) rfl (hb hby d1_45) rfl (teq h45).1 (by decide) (by decide) ?_
                    exact k
                  exact k60 (by simp [own_nm, h3, h9, h15, h21, h27, h33, h39, h45])
                · refine own_st (B := s₁.setTop (mkF m 51 #[.val (.int p0)] [(.int (126 : Int32)), (.int p0)])) (fun t k => ?_) ?_
                  · show Steps p.tables e below (s₁.setTop (mkF m 45 #[.val (.int p0)] [(.int (95 : Int32)), (.int p0)])) _
                    refine XS.icmpNo X0.here hx rfl (hb hby d1_45) rfl (feq h45).1 ?_
                    show Steps p.tables e below (s₁.setTop (mkF m 48 #[.val (.int p0)] [])) _
                    refine XS.iloadN X0.here hx rfl (hb hby d1_48) rfl ?_
                    show Steps p.tables e below (s₁.setTop (mkF m 49 #[.val (.int p0)] [(.int p0)])) _
                    refine XS.bipush X0.here hx rfl (hb hby d1_49) ?_
                    exact k
                  by_cases h51 : p0 = (126 : Int32)
                  · refine own_st (B := s₁.setTop (mkF m 60 #[.val (.int p0)] [])) (fun t k => ?_) ?_
                    · show Steps p.tables e below (s₁.setTop (mkF m 51 #[.val (.int p0)] [(.int (126 : Int32)), (.int p0)])) _
                      refine XS.icmpYes X0.here hx rfl (pc0 := 51) (pc' := 60) rfl (hb hby d1_51) rfl (teq h51).1 (by decide) (by decide) ?_
                      exact k
                    exact k60 (by simp [own_nm, h3, h9, h15, h21, h27, h33, h39, h45, h51])
                  · refine own_st (B := s₁.setTop (mkF m 57 #[.val (.int p0)] [(.int (45 : Int32)), (.int p0)])) (fun t k => ?_) ?_
                    · show Steps p.tables e below (s₁.setTop (mkF m 51 #[.val (.int p0)] [(.int (126 : Int32)), (.int p0)])) _
                      refine XS.icmpNo X0.here hx rfl (hb hby d1_51) rfl (feq h51).1 ?_
                      show Steps p.tables e below (s₁.setTop (mkF m 54 #[.val (.int p0)] [])) _
                      refine XS.iloadN X0.here hx rfl (hb hby d1_54) rfl ?_
                      show Steps p.tables e below (s₁.setTop (mkF m 55 #[.val (.int p0)] [(.int p0)])) _
                      refine XS.bipush X0.here hx rfl (hb hby d1_55) ?_
                      exact k
                    by_cases h57 : p0 = (45 : Int32)
                    · refine own_st (B := s₁.setTop (mkF m 60 #[.val (.int p0)] [])) (fun t k => ?_) ?_
                      · show Steps p.tables e below (s₁.setTop (mkF m 57 #[.val (.int p0)] [(.int (45 : Int32)), (.int p0)])) _
                        refine XS.icmpNo X0.here hx rfl (hb hby d1_57) rfl (teq h57).2 ?_
                        exact k
                      exact k60 (by simp [own_nm, h3, h9, h15, h21, h27, h33, h39, h45, h51, h57])
                    · refine own_st (B := s₁.setTop (mkF m 64 #[.val (.int p0)] [])) (fun t k => ?_) ?_
                      · show Steps p.tables e below (s₁.setTop (mkF m 57 #[.val (.int p0)] [(.int (45 : Int32)), (.int p0)])) _
                        refine XS.icmpYes X0.here hx rfl (pc0 := 57) (pc' := 64) rfl (hb hby d1_57) rfl (feq h57).2 (by decide) (by decide) ?_
                        exact k
                      exact k64 (by simp [own_nm, h3, h9, h15, h21, h27, h33, h39, h45, h51, h57])
            · refine own_st (B := s₁.setTop (mkF m 60 #[.val (.int p0)] [])) (fun t k => ?_) ?_
              · show Steps p.tables e below (s₁.setTop (mkF m 33 #[.val (.int p0)] [(.int (57 : Int32)), (.int p0)])) _
                refine XS.icmpYes X0.here hx rfl (pc0 := 33) (pc' := 60) rfl (hb hby d1_33) rfl (flt h33).2.2.2 (by decide) (by decide) ?_
                exact k
              exact k60 (by simp [own_nm, h3, h9, h15, h21, h27, h33])
        · refine own_st (B := s₁.setTop (mkF m 60 #[.val (.int p0)] [])) (fun t k => ?_) ?_
          · show Steps p.tables e below (s₁.setTop (mkF m 21 #[.val (.int p0)] [(.int (122 : Int32)), (.int p0)])) _
            refine XS.icmpYes X0.here hx rfl (pc0 := 21) (pc' := 60) rfl (hb hby d1_21) rfl (flt h21).2.2.2 (by decide) (by decide) ?_
            exact k
          exact k60 (by simp [own_nm, h3, h9, h15, h21])
    · refine own_st (B := s₁.setTop (mkF m 60 #[.val (.int p0)] [])) (fun t k => ?_) ?_
      · show Steps p.tables e below (s₁.setTop (mkF m 9 #[.val (.int p0)] [(.int (90 : Int32)), (.int p0)])) _
        refine XS.icmpYes X0.here hx rfl (pc0 := 9) (pc' := 60) rfl (hb hby d1_9) rfl (flt h9).2.2.2 (by decide) (by decide) ?_
        exact k
      exact k60 (by simp [own_nm, h3, h9])
theorem d2_0 : decode method_2_code 0 = .ok (.iload_n 0, 1) := by decide +kernel
theorem d2_1 : decode method_2_code 1 = .ok (.bipush 32, 2) := by decide +kernel
theorem d2_3 : decode method_2_code 3 = .ok (.ior, 1) := by decide +kernel
theorem d2_4 : decode method_2_code 4 = .ok (.istore_n 1, 1) := by decide +kernel
theorem d2_5 : decode method_2_code 5 = .ok (.iload_n 1, 1) := by decide +kernel
theorem d2_6 : decode method_2_code 6 = .ok (.bipush 97, 2) := by decide +kernel
theorem d2_8 : decode method_2_code 8 = .ok (.if_icmp .lt 13, 3) := by decide +kernel
theorem d2_11 : decode method_2_code 11 = .ok (.iload_n 1, 1) := by decide +kernel
theorem d2_12 : decode method_2_code 12 = .ok (.bipush 122, 2) := by decide +kernel
theorem d2_14 : decode method_2_code 14 = .ok (.if_icmp .gt 7, 3) := by decide +kernel
theorem d2_17 : decode method_2_code 17 = .ok (.iconst 1, 1) := by decide +kernel
theorem d2_18 : decode method_2_code 18 = .ok (.goto 4, 3) := by decide +kernel
theorem d2_21 : decode method_2_code 21 = .ok (.iconst 0, 1) := by decide +kernel
theorem d2_22 : decode method_2_code 22 = .ok (.istore_n 2, 1) := by decide +kernel
theorem d2_23 : decode method_2_code 23 = .ok (.iload_n 0, 1) := by decide +kernel
theorem d2_24 : decode method_2_code 24 = .ok (.i2l, 1) := by decide +kernel
theorem d2_25 : decode method_2_code 25 = .ok (.ldc2_w 7, 3) := by decide +kernel
theorem d2_28 : decode method_2_code 28 = .ok (.lsub, 1) := by decide +kernel
theorem d2_29 : decode method_2_code 29 = .ok (.lstore_n 3, 1) := by decide +kernel
theorem d2_30 : decode method_2_code 30 = .ok (.lload_n 3, 1) := by decide +kernel
theorem d2_31 : decode method_2_code 31 = .ok (.lconst 0, 1) := by decide +kernel
theorem d2_32 : decode method_2_code 32 = .ok (.lcmp, 1) := by decide +kernel
theorem d2_33 : decode method_2_code 33 = .ok (.ifCond .lt 15, 3) := by decide +kernel
theorem d2_36 : decode method_2_code 36 = .ok (.lload_n 3, 1) := by decide +kernel
theorem d2_37 : decode method_2_code 37 = .ok (.ldc2_w 9, 3) := by decide +kernel
theorem d2_40 : decode method_2_code 40 = .ok (.lcmp, 1) := by decide +kernel
theorem d2_41 : decode method_2_code 41 = .ok (.ifCond .ge 7, 3) := by decide +kernel
theorem d2_44 : decode method_2_code 44 = .ok (.iconst 1, 1) := by decide +kernel
theorem d2_45 : decode method_2_code 45 = .ok (.goto 4, 3) := by decide +kernel
theorem d2_48 : decode method_2_code 48 = .ok (.iconst 0, 1) := by decide +kernel
theorem d2_49 : decode method_2_code 49 = .ok (.istore 5, 2) := by decide +kernel
theorem d2_51 : decode method_2_code 51 = .ok (.iload_n 0, 1) := by decide +kernel
theorem d2_52 : decode method_2_code 52 = .ok (.bipush 45, 2) := by decide +kernel
theorem d2_54 : decode method_2_code 54 = .ok (.if_icmp .eq 21, 3) := by decide +kernel
theorem d2_57 : decode method_2_code 57 = .ok (.iload_n 0, 1) := by decide +kernel
theorem d2_58 : decode method_2_code 58 = .ok (.bipush 46, 2) := by decide +kernel
theorem d2_60 : decode method_2_code 60 = .ok (.if_icmp .eq 15, 3) := by decide +kernel
theorem d2_63 : decode method_2_code 63 = .ok (.iload_n 0, 1) := by decide +kernel
theorem d2_64 : decode method_2_code 64 = .ok (.bipush 95, 2) := by decide +kernel
theorem d2_66 : decode method_2_code 66 = .ok (.if_icmp .eq 9, 3) := by decide +kernel
theorem d2_69 : decode method_2_code 69 = .ok (.iload_n 0, 1) := by decide +kernel
theorem d2_70 : decode method_2_code 70 = .ok (.bipush 126, 2) := by decide +kernel
theorem d2_72 : decode method_2_code 72 = .ok (.if_icmp .ne 7, 3) := by decide +kernel
theorem d2_75 : decode method_2_code 75 = .ok (.iconst 1, 1) := by decide +kernel
theorem d2_76 : decode method_2_code 76 = .ok (.goto 4, 3) := by decide +kernel
theorem d2_79 : decode method_2_code 79 = .ok (.iconst 0, 1) := by decide +kernel
theorem d2_80 : decode method_2_code 80 = .ok (.istore 6, 2) := by decide +kernel
theorem d2_82 : decode method_2_code 82 = .ok (.iload_n 2, 1) := by decide +kernel
theorem d2_83 : decode method_2_code 83 = .ok (.ifCond .ne 13, 3) := by decide +kernel
theorem d2_86 : decode method_2_code 86 = .ok (.iload 5, 2) := by decide +kernel
theorem d2_88 : decode method_2_code 88 = .ok (.ifCond .ne 8, 3) := by decide +kernel
theorem d2_91 : decode method_2_code 91 = .ok (.iload 6, 2) := by decide +kernel
theorem d2_93 : decode method_2_code 93 = .ok (.ifCond .eq 7, 3) := by decide +kernel
theorem d2_96 : decode method_2_code 96 = .ok (.iconst 1, 1) := by decide +kernel
theorem d2_97 : decode method_2_code 97 = .ok (.goto 4, 3) := by decide +kernel
theorem d2_100 : decode method_2_code 100 = .ok (.iconst 0, 1) := by decide +kernel
theorem d2_101 : decode method_2_code 101 = .ok (.ireturn, 1) := by decide +kernel
theorem pn_2 : plainName "com/example/synod/synod/DecreesIsNameCharacterPinLaw" = true := by first | (simp [plainName, overriddenIn]; done) | decide +kernel
theorem ef_2 (m : MethodId) (x0 : Int32) : entryFrame m #[(.int x0)] 7 = mkF m 0 #[.val (.int x0), .unset, .unset, .unset, .unset, .unset, .unset] [] := by first | (simp [entryFrame, mkF, argsToLocals, Value.category]; done) | rfl
def Q2 (Z : State) (p0 : Int32) (h0 : Heap) (n0 : Nat) (v : Option Value) (h : Heap) (L : List Loc) : Prop := v = some (.int (own_b (own_ref p0))) ∧ Fr n0 L ∧ h = h0
set_option maxRecDepth 65536 in
set_option maxHeartbeats 40000000 in
theorem rm2 (l : Launch) (Z : State) (a0 : Array Value) (hw : ∀ d ∈ tables_1, d.before a0 Z = true) (ws : List Jvm.Cond) (p0 : Int32) (h0 : Heap) (n0 : Nat) (Z0 : n0 ≤ h0.size) :
    MetFree l (⟨"com/example/synod/synod/DecreesIsNameCharacterPinLaw", "reference", "(I)Z"⟩ : MethodName) (head1 (Jvm.Cond.code (⟨"com/example/synod/synod/DecreesIsNameCharacterPinLaw", "reference", "(I)Z"⟩ : MethodName) method_2_code 7 (some .boolean) :: ws) ({ frames := 0, cells := 0, slots := 0, locals := 0 } : Room)) (fun a U => a = #[(.int p0)] ∧ Z.Warmed39 U.vm ∧ U.heap = h0) (fun _ _ _ _ _ => True) (fun _ U o U' => ∃ v L, o = .returned v ∧ Q2 Z p0 h0 n0 v U'.heap L ∧ FrameEnd U o U' L ({ frames := 0, cells := 0, slots := 0, locals := 0 } : Room).cells ({ frames := 0, cells := 0, slots := 0, locals := 0 } : Room).slots) := by
  refine MetFree.of_bodySF (plainFor_of_name pn_2) hisR ?_
  intro p e s m args below meth c s₁ Bd hml0 hP hK
  obtain ⟨rfl, hZ, hh⟩ := hP
  have hx := Bd.exec
  have hby := Bd.bytes
  have hml : c.maxLocals = 7 := hml0
  have hown : s.vm.findClass "com/example/synod/synod/DecreesIsNameCharacterPinLaw" = some m.cls := findClass_of_methodNamed Bd.named
  have hnm := (name_of_methodNamed Bd.named Bd.method).1
  have X0 : Stand p l e ({ frames := 0, cells := 0, slots := 0, locals := 0 } : Room) s m #[(.int p0)] below meth c s₁ [] 0 0 := Stand.of_body Bd
  have e0 : s₁.heap = h0 := by rw [← hh, Bd.state]; rfl
  have N0 := Fr.nil n0
  show own_G p e below (fun (t : State) (o : Outcome) => t.status = .running ∧ Ended t below o ∧ ∃ v L, o = .returned v ∧ Q2 Z p0 h0 n0 v t.heap L ∧ FrameEnd s o t L ({ frames := 0, cells := 0, slots := 0, locals := 0 } : Room).cells ({ frames := 0, cells := 0, slots := 0, locals := 0 } : Room).slots) (s₁.setTop (entryFrame m #[(.int p0)] 7))
  rw [ef_2 m p0]
  refine own_st (B := s₁.setTop (mkF m 8 #[.val (.int p0), .val (.int (p0 ||| (32 : Int32))), .unset, .unset, .unset, .unset, .unset] [(.int (97 : Int32)), (.int (p0 ||| (32 : Int32)))])) (fun t k => ?_) ?_
  · show Steps p.tables e below (s₁.setTop (mkF m 0 #[.val (.int p0), .unset, .unset, .unset, .unset, .unset, .unset] [])) _
    refine XS.iloadN X0.here hx rfl (hb hby d2_0) rfl ?_
    show Steps p.tables e below (s₁.setTop (mkF m 1 #[.val (.int p0), .unset, .unset, .unset, .unset, .unset, .unset] [(.int p0)])) _
    refine XS.bipush X0.here hx rfl (hb hby d2_1) ?_
    show Steps p.tables e below (s₁.setTop (mkF m 3 #[.val (.int p0), .unset, .unset, .unset, .unset, .unset, .unset] [(.int (32 : Int32)), (.int p0)])) _
    refine XS.ior X0.here hx rfl (hb hby d2_3) rfl ?_
    show Steps p.tables e below (s₁.setTop (mkF m 4 #[.val (.int p0), .unset, .unset, .unset, .unset, .unset, .unset] [(.int (p0 ||| (32 : Int32)))])) _
    refine XS.istoreN X0.here hx rfl (hb hby d2_4) rfl (l' := #[.val (.int p0), .val (.int (p0 ||| (32 : Int32))), .unset, .unset, .unset, .unset, .unset]) rfl ?_
    show Steps p.tables e below (s₁.setTop (mkF m 5 #[.val (.int p0), .val (.int (p0 ||| (32 : Int32))), .unset, .unset, .unset, .unset, .unset] [])) _
    refine XS.iloadN X0.here hx rfl (hb hby d2_5) rfl ?_
    show Steps p.tables e below (s₁.setTop (mkF m 6 #[.val (.int p0), .val (.int (p0 ||| (32 : Int32))), .unset, .unset, .unset, .unset, .unset] [(.int (p0 ||| (32 : Int32)))])) _
    refine XS.bipush X0.here hx rfl (hb hby d2_6) ?_
    exact k
  have k22 : own_G p e below (fun (t : State) (o : Outcome) => t.status = .running ∧ Ended t below o ∧ ∃ v L, o = .returned v ∧ Q2 Z p0 h0 n0 v t.heap L ∧ FrameEnd s o t L ({ frames := 0, cells := 0, slots := 0, locals := 0 } : Room).cells ({ frames := 0, cells := 0, slots := 0, locals := 0 } : Room).slots) (s₁.setTop (mkF m 22 #[.val (.int p0), .val (.int (p0 ||| (32 : Int32))), .unset, .unset, .unset, .unset, .unset] [(.int (own_b (own_letter p0)))])) := by
    refine own_st (B := s₁.setTop (mkF m 33 #[.val (.int p0), .val (.int (p0 ||| (32 : Int32))), .val (.int (own_b (own_letter p0))), .val (.long ((p0.toInt64) - (48 : Int64))), .second, .unset, .unset] [(.int (lcmpW ((p0.toInt64) - (48 : Int64)) (0 : Int64)))])) (fun t k => ?_) ?_
    · show Steps p.tables e below (s₁.setTop (mkF m 22 #[.val (.int p0), .val (.int (p0 ||| (32 : Int32))), .unset, .unset, .unset, .unset, .unset] [(.int (own_b (own_letter p0)))])) _
      refine XS.istoreN X0.here hx rfl (hb hby d2_22) rfl (l' := #[.val (.int p0), .val (.int (p0 ||| (32 : Int32))), .val (.int (own_b (own_letter p0))), .unset, .unset, .unset, .unset]) rfl ?_
      show Steps p.tables e below (s₁.setTop (mkF m 23 #[.val (.int p0), .val (.int (p0 ||| (32 : Int32))), .val (.int (own_b (own_letter p0))), .unset, .unset, .unset, .unset] [])) _
      refine XS.iloadN X0.here hx rfl (hb hby d2_23) rfl ?_
      show Steps p.tables e below (s₁.setTop (mkF m 24 #[.val (.int p0), .val (.int (p0 ||| (32 : Int32))), .val (.int (own_b (own_letter p0))), .unset, .unset, .unset, .unset] [(.int p0)])) _
      refine XS.i2l X0.here hx rfl (hb hby d2_24) rfl ?_
      show Steps p.tables e below (s₁.setTop (mkF m 25 #[.val (.int p0), .val (.int (p0 ||| (32 : Int32))), .val (.int (own_b (own_letter p0))), .unset, .unset, .unset, .unset] [(.long (p0.toInt64))])) _
      refine X0.ldc2Long hx hown (mvT hZ (hw _ (List.mem_of_getElem? (i := 8) rfl))) (g := (mkF m 25 #[.val (.int p0), .val (.int (p0 ||| (32 : Int32))), .val (.int (own_b (own_letter p0))), .unset, .unset, .unset, .unset] [(.long (p0.toInt64))])) rfl (hb hby d2_25) _ ?_
      show Steps p.tables e below (s₁.setTop (mkF m 28 #[.val (.int p0), .val (.int (p0 ||| (32 : Int32))), .val (.int (own_b (own_letter p0))), .unset, .unset, .unset, .unset] [(.long (48 : Int64)), (.long (p0.toInt64))])) _
      refine XS.lsub X0.here hx rfl (hb hby d2_28) rfl ?_
      show Steps p.tables e below (s₁.setTop (mkF m 29 #[.val (.int p0), .val (.int (p0 ||| (32 : Int32))), .val (.int (own_b (own_letter p0))), .unset, .unset, .unset, .unset] [(.long ((p0.toInt64) - (48 : Int64)))])) _
      refine XS.lstoreN X0.here hx rfl (hb hby d2_29) rfl (l' := #[.val (.int p0), .val (.int (p0 ||| (32 : Int32))), .val (.int (own_b (own_letter p0))), .val (.long ((p0.toInt64) - (48 : Int64))), .second, .unset, .unset]) rfl ?_
      show Steps p.tables e below (s₁.setTop (mkF m 30 #[.val (.int p0), .val (.int (p0 ||| (32 : Int32))), .val (.int (own_b (own_letter p0))), .val (.long ((p0.toInt64) - (48 : Int64))), .second, .unset, .unset] [])) _
      refine XS.lloadN X0.here hx rfl (hb hby d2_30) rfl ?_
      show Steps p.tables e below (s₁.setTop (mkF m 31 #[.val (.int p0), .val (.int (p0 ||| (32 : Int32))), .val (.int (own_b (own_letter p0))), .val (.long ((p0.toInt64) - (48 : Int64))), .second, .unset, .unset] [(.long ((p0.toInt64) - (48 : Int64)))])) _
      refine XS.lconst X0.here hx rfl (hb hby d2_31) ?_
      show Steps p.tables e below (s₁.setTop (mkF m 32 #[.val (.int p0), .val (.int (p0 ||| (32 : Int32))), .val (.int (own_b (own_letter p0))), .val (.long ((p0.toInt64) - (48 : Int64))), .second, .unset, .unset] [(.long (0 : Int64)), (.long ((p0.toInt64) - (48 : Int64)))])) _
      refine XS.lcmp X0.here hx rfl (hb hby d2_32) rfl ?_
      exact k
    have k49 : own_G p e below (fun (t : State) (o : Outcome) => t.status = .running ∧ Ended t below o ∧ ∃ v L, o = .returned v ∧ Q2 Z p0 h0 n0 v t.heap L ∧ FrameEnd s o t L ({ frames := 0, cells := 0, slots := 0, locals := 0 } : Room).cells ({ frames := 0, cells := 0, slots := 0, locals := 0 } : Room).slots) (s₁.setTop (mkF m 49 #[.val (.int p0), .val (.int (p0 ||| (32 : Int32))), .val (.int (own_b (own_letter p0))), .val (.long ((p0.toInt64) - (48 : Int64))), .second, .unset, .unset] [(.int (own_b (own_digit p0)))])) := by
      refine own_st (B := s₁.setTop (mkF m 54 #[.val (.int p0), .val (.int (p0 ||| (32 : Int32))), .val (.int (own_b (own_letter p0))), .val (.long ((p0.toInt64) - (48 : Int64))), .second, .val (.int (own_b (own_digit p0))), .unset] [(.int (45 : Int32)), (.int p0)])) (fun t k => ?_) ?_
      · show Steps p.tables e below (s₁.setTop (mkF m 49 #[.val (.int p0), .val (.int (p0 ||| (32 : Int32))), .val (.int (own_b (own_letter p0))), .val (.long ((p0.toInt64) - (48 : Int64))), .second, .unset, .unset] [(.int (own_b (own_digit p0)))])) _
        refine XS.istore X0.here hx rfl (hb hby d2_49) rfl (l' := #[.val (.int p0), .val (.int (p0 ||| (32 : Int32))), .val (.int (own_b (own_letter p0))), .val (.long ((p0.toInt64) - (48 : Int64))), .second, .val (.int (own_b (own_digit p0))), .unset]) rfl ?_
        show Steps p.tables e below (s₁.setTop (mkF m 51 #[.val (.int p0), .val (.int (p0 ||| (32 : Int32))), .val (.int (own_b (own_letter p0))), .val (.long ((p0.toInt64) - (48 : Int64))), .second, .val (.int (own_b (own_digit p0))), .unset] [])) _
        refine XS.iloadN X0.here hx rfl (hb hby d2_51) rfl ?_
        show Steps p.tables e below (s₁.setTop (mkF m 52 #[.val (.int p0), .val (.int (p0 ||| (32 : Int32))), .val (.int (own_b (own_letter p0))), .val (.long ((p0.toInt64) - (48 : Int64))), .second, .val (.int (own_b (own_digit p0))), .unset] [(.int p0)])) _
        refine XS.bipush X0.here hx rfl (hb hby d2_52) ?_
        exact k
      have k80 : own_G p e below (fun (t : State) (o : Outcome) => t.status = .running ∧ Ended t below o ∧ ∃ v L, o = .returned v ∧ Q2 Z p0 h0 n0 v t.heap L ∧ FrameEnd s o t L ({ frames := 0, cells := 0, slots := 0, locals := 0 } : Room).cells ({ frames := 0, cells := 0, slots := 0, locals := 0 } : Room).slots) (s₁.setTop (mkF m 80 #[.val (.int p0), .val (.int (p0 ||| (32 : Int32))), .val (.int (own_b (own_letter p0))), .val (.long ((p0.toInt64) - (48 : Int64))), .second, .val (.int (own_b (own_digit p0))), .unset] [(.int (own_b (own_punct p0)))])) := by
        refine own_st (B := s₁.setTop (mkF m 83 #[.val (.int p0), .val (.int (p0 ||| (32 : Int32))), .val (.int (own_b (own_letter p0))), .val (.long ((p0.toInt64) - (48 : Int64))), .second, .val (.int (own_b (own_digit p0))), .val (.int (own_b (own_punct p0)))] [(.int (own_b (own_letter p0)))])) (fun t k => ?_) ?_
        · show Steps p.tables e below (s₁.setTop (mkF m 80 #[.val (.int p0), .val (.int (p0 ||| (32 : Int32))), .val (.int (own_b (own_letter p0))), .val (.long ((p0.toInt64) - (48 : Int64))), .second, .val (.int (own_b (own_digit p0))), .unset] [(.int (own_b (own_punct p0)))])) _
          refine XS.istore X0.here hx rfl (hb hby d2_80) rfl (l' := #[.val (.int p0), .val (.int (p0 ||| (32 : Int32))), .val (.int (own_b (own_letter p0))), .val (.long ((p0.toInt64) - (48 : Int64))), .second, .val (.int (own_b (own_digit p0))), .val (.int (own_b (own_punct p0)))]) rfl ?_
          show Steps p.tables e below (s₁.setTop (mkF m 82 #[.val (.int p0), .val (.int (p0 ||| (32 : Int32))), .val (.int (own_b (own_letter p0))), .val (.long ((p0.toInt64) - (48 : Int64))), .second, .val (.int (own_b (own_digit p0))), .val (.int (own_b (own_punct p0)))] [])) _
          refine XS.iloadN X0.here hx rfl (hb hby d2_82) rfl ?_
          exact k
        have k96 : ∀ (hv : own_ref p0 = true), own_G p e below (fun (t : State) (o : Outcome) => t.status = .running ∧ Ended t below o ∧ ∃ v L, o = .returned v ∧ Q2 Z p0 h0 n0 v t.heap L ∧ FrameEnd s o t L ({ frames := 0, cells := 0, slots := 0, locals := 0 } : Room).cells ({ frames := 0, cells := 0, slots := 0, locals := 0 } : Room).slots) (s₁.setTop (mkF m 96 #[.val (.int p0), .val (.int (p0 ||| (32 : Int32))), .val (.int (own_b (own_letter p0))), .val (.long ((p0.toInt64) - (48 : Int64))), .second, .val (.int (own_b (own_digit p0))), .val (.int (own_b (own_punct p0)))] [])) := by
          intro hv
          refine own_st (B := s₁.setTop (mkF m 101 #[.val (.int p0), .val (.int (p0 ||| (32 : Int32))), .val (.int (own_b (own_letter p0))), .val (.long ((p0.toInt64) - (48 : Int64))), .second, .val (.int (own_b (own_digit p0))), .val (.int (own_b (own_punct p0)))] [(.int (1 : Int32))])) (fun t k => ?_) ?_
          · show Steps p.tables e below (s₁.setTop (mkF m 96 #[.val (.int p0), .val (.int (p0 ||| (32 : Int32))), .val (.int (own_b (own_letter p0))), .val (.long ((p0.toInt64) - (48 : Int64))), .second, .val (.int (own_b (own_digit p0))), .val (.int (own_b (own_punct p0)))] [])) _
            refine XS.iconst X0.here hx rfl (hb hby d2_96) ?_
            show Steps p.tables e below (s₁.setTop (mkF m 97 #[.val (.int p0), .val (.int (p0 ||| (32 : Int32))), .val (.int (own_b (own_letter p0))), .val (.long ((p0.toInt64) - (48 : Int64))), .second, .val (.int (own_b (own_digit p0))), .val (.int (own_b (own_punct p0)))] [(.int (1 : Int32))])) _
            refine XS.goto X0.here hx rfl (pc0 := 97) (pc' := 101) rfl (hb hby d2_97) (by decide) (by decide) ?_
            exact k
          obtain ⟨fs, hr, hrun, hended, hW, hsame⟩ := X0.leave (v := some (.int (1 : Int32))) (fun h => by rw [Bd.returns] at h; cases h)
          refine ⟨_, _, ?_, hrun, hended, _, _, rfl, ?_, ⟨_, rfl⟩, hW, hsame.mono (by decide) (by decide)⟩
          · exact retOut X0 hx Bd.returns rfl (Or.inl ⟨rfl, by simp, _, rfl⟩) (hb hby d2_101) hr
          · show Q2 Z p0 h0 n0 _ s₁.heap _
            rw [e0]
            exact ⟨by rw [hv]; rfl, N0, rfl⟩
        have k100 : ∀ (hv : own_ref p0 = false), own_G p e below (fun (t : State) (o : Outcome) => t.status = .running ∧ Ended t below o ∧ ∃ v L, o = .returned v ∧ Q2 Z p0 h0 n0 v t.heap L ∧ FrameEnd s o t L ({ frames := 0, cells := 0, slots := 0, locals := 0 } : Room).cells ({ frames := 0, cells := 0, slots := 0, locals := 0 } : Room).slots) (s₁.setTop (mkF m 100 #[.val (.int p0), .val (.int (p0 ||| (32 : Int32))), .val (.int (own_b (own_letter p0))), .val (.long ((p0.toInt64) - (48 : Int64))), .second, .val (.int (own_b (own_digit p0))), .val (.int (own_b (own_punct p0)))] [])) := by
          intro hv
          refine own_st (B := s₁.setTop (mkF m 101 #[.val (.int p0), .val (.int (p0 ||| (32 : Int32))), .val (.int (own_b (own_letter p0))), .val (.long ((p0.toInt64) - (48 : Int64))), .second, .val (.int (own_b (own_digit p0))), .val (.int (own_b (own_punct p0)))] [(.int (0 : Int32))])) (fun t k => ?_) ?_
          · show Steps p.tables e below (s₁.setTop (mkF m 100 #[.val (.int p0), .val (.int (p0 ||| (32 : Int32))), .val (.int (own_b (own_letter p0))), .val (.long ((p0.toInt64) - (48 : Int64))), .second, .val (.int (own_b (own_digit p0))), .val (.int (own_b (own_punct p0)))] [])) _
            refine XS.iconst X0.here hx rfl (hb hby d2_100) ?_
            exact k
          obtain ⟨fs, hr, hrun, hended, hW, hsame⟩ := X0.leave (v := some (.int (0 : Int32))) (fun h => by rw [Bd.returns] at h; cases h)
          refine ⟨_, _, ?_, hrun, hended, _, _, rfl, ?_, ⟨_, rfl⟩, hW, hsame.mono (by decide) (by decide)⟩
          · exact retOut X0 hx Bd.returns rfl (Or.inl ⟨rfl, by simp, _, rfl⟩) (hb hby d2_101) hr
          · show Q2 Z p0 h0 n0 _ s₁.heap _
            rw [e0]
            exact ⟨by rw [hv]; rfl, N0, rfl⟩
        by_cases h83 : own_letter p0 = false
        · refine own_st (B := s₁.setTop (mkF m 88 #[.val (.int p0), .val (.int (p0 ||| (32 : Int32))), .val (.int (own_b (own_letter p0))), .val (.long ((p0.toInt64) - (48 : Int64))), .second, .val (.int (own_b (own_digit p0))), .val (.int (own_b (own_punct p0)))] [(.int (own_b (own_digit p0)))])) (fun t k => ?_) ?_
          · show Steps p.tables e below (s₁.setTop (mkF m 83 #[.val (.int p0), .val (.int (p0 ||| (32 : Int32))), .val (.int (own_b (own_letter p0))), .val (.long ((p0.toInt64) - (48 : Int64))), .second, .val (.int (own_b (own_digit p0))), .val (.int (own_b (own_punct p0)))] [(.int (own_b (own_letter p0)))])) _
            refine XS.ifNo X0.here hx rfl (hb hby d2_83) rfl ((if0 _ _).trans (teq (own_b_ne.mpr h83)).2) ?_
            show Steps p.tables e below (s₁.setTop (mkF m 86 #[.val (.int p0), .val (.int (p0 ||| (32 : Int32))), .val (.int (own_b (own_letter p0))), .val (.long ((p0.toInt64) - (48 : Int64))), .second, .val (.int (own_b (own_digit p0))), .val (.int (own_b (own_punct p0)))] [])) _
            refine XS.iload X0.here hx rfl (hb hby d2_86) rfl ?_
            exact k
          by_cases h88 : own_digit p0 = false
          · refine own_st (B := s₁.setTop (mkF m 93 #[.val (.int p0), .val (.int (p0 ||| (32 : Int32))), .val (.int (own_b (own_letter p0))), .val (.long ((p0.toInt64) - (48 : Int64))), .second, .val (.int (own_b (own_digit p0))), .val (.int (own_b (own_punct p0)))] [(.int (own_b (own_punct p0)))])) (fun t k => ?_) ?_
            · show Steps p.tables e below (s₁.setTop (mkF m 88 #[.val (.int p0), .val (.int (p0 ||| (32 : Int32))), .val (.int (own_b (own_letter p0))), .val (.long ((p0.toInt64) - (48 : Int64))), .second, .val (.int (own_b (own_digit p0))), .val (.int (own_b (own_punct p0)))] [(.int (own_b (own_digit p0)))])) _
              refine XS.ifNo X0.here hx rfl (hb hby d2_88) rfl ((if0 _ _).trans (teq (own_b_ne.mpr h88)).2) ?_
              show Steps p.tables e below (s₁.setTop (mkF m 91 #[.val (.int p0), .val (.int (p0 ||| (32 : Int32))), .val (.int (own_b (own_letter p0))), .val (.long ((p0.toInt64) - (48 : Int64))), .second, .val (.int (own_b (own_digit p0))), .val (.int (own_b (own_punct p0)))] [])) _
              refine XS.iload X0.here hx rfl (hb hby d2_91) rfl ?_
              exact k
            by_cases h93 : own_punct p0 = false
            · refine own_st (B := s₁.setTop (mkF m 100 #[.val (.int p0), .val (.int (p0 ||| (32 : Int32))), .val (.int (own_b (own_letter p0))), .val (.long ((p0.toInt64) - (48 : Int64))), .second, .val (.int (own_b (own_digit p0))), .val (.int (own_b (own_punct p0)))] [])) (fun t k => ?_) ?_
              · show Steps p.tables e below (s₁.setTop (mkF m 93 #[.val (.int p0), .val (.int (p0 ||| (32 : Int32))), .val (.int (own_b (own_letter p0))), .val (.long ((p0.toInt64) - (48 : Int64))), .second, .val (.int (own_b (own_digit p0))), .val (.int (own_b (own_punct p0)))] [(.int (own_b (own_punct p0)))])) _
                refine XS.ifYes X0.here hx rfl (pc0 := 93) (pc' := 100) rfl (hb hby d2_93) rfl ((if0 _ _).trans (teq (own_b_ne.mpr h93)).1) (by decide) (by decide) ?_
                exact k
              exact k100 (by simp [own_ref, h83, h88, h93])
            · refine own_st (B := s₁.setTop (mkF m 96 #[.val (.int p0), .val (.int (p0 ||| (32 : Int32))), .val (.int (own_b (own_letter p0))), .val (.long ((p0.toInt64) - (48 : Int64))), .second, .val (.int (own_b (own_digit p0))), .val (.int (own_b (own_punct p0)))] [])) (fun t k => ?_) ?_
              · show Steps p.tables e below (s₁.setTop (mkF m 93 #[.val (.int p0), .val (.int (p0 ||| (32 : Int32))), .val (.int (own_b (own_letter p0))), .val (.long ((p0.toInt64) - (48 : Int64))), .second, .val (.int (own_b (own_digit p0))), .val (.int (own_b (own_punct p0)))] [(.int (own_b (own_punct p0)))])) _
                refine XS.ifNo X0.here hx rfl (hb hby d2_93) rfl ((if0 _ _).trans (feq (fun q => h93 (own_b_ne.mp q))).1) ?_
                exact k
              exact k96 (by simp [own_ref, h83, h88, h93])
          · refine own_st (B := s₁.setTop (mkF m 96 #[.val (.int p0), .val (.int (p0 ||| (32 : Int32))), .val (.int (own_b (own_letter p0))), .val (.long ((p0.toInt64) - (48 : Int64))), .second, .val (.int (own_b (own_digit p0))), .val (.int (own_b (own_punct p0)))] [])) (fun t k => ?_) ?_
            · show Steps p.tables e below (s₁.setTop (mkF m 88 #[.val (.int p0), .val (.int (p0 ||| (32 : Int32))), .val (.int (own_b (own_letter p0))), .val (.long ((p0.toInt64) - (48 : Int64))), .second, .val (.int (own_b (own_digit p0))), .val (.int (own_b (own_punct p0)))] [(.int (own_b (own_digit p0)))])) _
              refine XS.ifYes X0.here hx rfl (pc0 := 88) (pc' := 96) rfl (hb hby d2_88) rfl ((if0 _ _).trans (feq (fun q => h88 (own_b_ne.mp q))).2) (by decide) (by decide) ?_
              exact k
            exact k96 (by simp [own_ref, h83, h88])
        · refine own_st (B := s₁.setTop (mkF m 96 #[.val (.int p0), .val (.int (p0 ||| (32 : Int32))), .val (.int (own_b (own_letter p0))), .val (.long ((p0.toInt64) - (48 : Int64))), .second, .val (.int (own_b (own_digit p0))), .val (.int (own_b (own_punct p0)))] [])) (fun t k => ?_) ?_
          · show Steps p.tables e below (s₁.setTop (mkF m 83 #[.val (.int p0), .val (.int (p0 ||| (32 : Int32))), .val (.int (own_b (own_letter p0))), .val (.long ((p0.toInt64) - (48 : Int64))), .second, .val (.int (own_b (own_digit p0))), .val (.int (own_b (own_punct p0)))] [(.int (own_b (own_letter p0)))])) _
            refine XS.ifYes X0.here hx rfl (pc0 := 83) (pc' := 96) rfl (hb hby d2_83) rfl ((if0 _ _).trans (feq (fun q => h83 (own_b_ne.mp q))).2) (by decide) (by decide) ?_
            exact k
          exact k96 (by simp [own_ref, h83])
      by_cases h54 : p0 = (45 : Int32)
      · refine own_st (B := s₁.setTop (mkF m 75 #[.val (.int p0), .val (.int (p0 ||| (32 : Int32))), .val (.int (own_b (own_letter p0))), .val (.long ((p0.toInt64) - (48 : Int64))), .second, .val (.int (own_b (own_digit p0))), .unset] [])) (fun t k => ?_) ?_
        · show Steps p.tables e below (s₁.setTop (mkF m 54 #[.val (.int p0), .val (.int (p0 ||| (32 : Int32))), .val (.int (own_b (own_letter p0))), .val (.long ((p0.toInt64) - (48 : Int64))), .second, .val (.int (own_b (own_digit p0))), .unset] [(.int (45 : Int32)), (.int p0)])) _
          refine XS.icmpYes X0.here hx rfl (pc0 := 54) (pc' := 75) rfl (hb hby d2_54) rfl (teq h54).1 (by decide) (by decide) ?_
          exact k
        refine own_st (B := s₁.setTop (mkF m 80 #[.val (.int p0), .val (.int (p0 ||| (32 : Int32))), .val (.int (own_b (own_letter p0))), .val (.long ((p0.toInt64) - (48 : Int64))), .second, .val (.int (own_b (own_digit p0))), .unset] [(.int (1 : Int32))])) (fun t k => ?_) ?_
        · show Steps p.tables e below (s₁.setTop (mkF m 75 #[.val (.int p0), .val (.int (p0 ||| (32 : Int32))), .val (.int (own_b (own_letter p0))), .val (.long ((p0.toInt64) - (48 : Int64))), .second, .val (.int (own_b (own_digit p0))), .unset] [])) _
          refine XS.iconst X0.here hx rfl (hb hby d2_75) ?_
          show Steps p.tables e below (s₁.setTop (mkF m 76 #[.val (.int p0), .val (.int (p0 ||| (32 : Int32))), .val (.int (own_b (own_letter p0))), .val (.long ((p0.toInt64) - (48 : Int64))), .second, .val (.int (own_b (own_digit p0))), .unset] [(.int (1 : Int32))])) _
          refine XS.goto X0.here hx rfl (pc0 := 76) (pc' := 80) rfl (hb hby d2_76) (by decide) (by decide) ?_
          exact k
        have hv : own_punct p0 = true := by simp [own_punct, h54]
        rw [hv] at k80
        exact k80
      · refine own_st (B := s₁.setTop (mkF m 60 #[.val (.int p0), .val (.int (p0 ||| (32 : Int32))), .val (.int (own_b (own_letter p0))), .val (.long ((p0.toInt64) - (48 : Int64))), .second, .val (.int (own_b (own_digit p0))), .unset] [(.int (46 : Int32)), (.int p0)])) (fun t k => ?_) ?_
        · show Steps p.tables e below (s₁.setTop (mkF m 54 #[.val (.int p0), .val (.int (p0 ||| (32 : Int32))), .val (.int (own_b (own_letter p0))), .val (.long ((p0.toInt64) - (48 : Int64))), .second, .val (.int (own_b (own_digit p0))), .unset] [(.int (45 : Int32)), (.int p0)])) _
          refine XS.icmpNo X0.here hx rfl (hb hby d2_54) rfl (feq h54).1 ?_
          show Steps p.tables e below (s₁.setTop (mkF m 57 #[.val (.int p0), .val (.int (p0 ||| (32 : Int32))), .val (.int (own_b (own_letter p0))), .val (.long ((p0.toInt64) - (48 : Int64))), .second, .val (.int (own_b (own_digit p0))), .unset] [])) _
          refine XS.iloadN X0.here hx rfl (hb hby d2_57) rfl ?_
          show Steps p.tables e below (s₁.setTop (mkF m 58 #[.val (.int p0), .val (.int (p0 ||| (32 : Int32))), .val (.int (own_b (own_letter p0))), .val (.long ((p0.toInt64) - (48 : Int64))), .second, .val (.int (own_b (own_digit p0))), .unset] [(.int p0)])) _
          refine XS.bipush X0.here hx rfl (hb hby d2_58) ?_
          exact k
        by_cases h60 : p0 = (46 : Int32)
        · refine own_st (B := s₁.setTop (mkF m 75 #[.val (.int p0), .val (.int (p0 ||| (32 : Int32))), .val (.int (own_b (own_letter p0))), .val (.long ((p0.toInt64) - (48 : Int64))), .second, .val (.int (own_b (own_digit p0))), .unset] [])) (fun t k => ?_) ?_
          · show Steps p.tables e below (s₁.setTop (mkF m 60 #[.val (.int p0), .val (.int (p0 ||| (32 : Int32))), .val (.int (own_b (own_letter p0))), .val (.long ((p0.toInt64) - (48 : Int64))), .second, .val (.int (own_b (own_digit p0))), .unset] [(.int (46 : Int32)), (.int p0)])) _
            refine XS.icmpYes X0.here hx rfl (pc0 := 60) (pc' := 75) rfl (hb hby d2_60) rfl (teq h60).1 (by decide) (by decide) ?_
            exact k
          refine own_st (B := s₁.setTop (mkF m 80 #[.val (.int p0), .val (.int (p0 ||| (32 : Int32))), .val (.int (own_b (own_letter p0))), .val (.long ((p0.toInt64) - (48 : Int64))), .second, .val (.int (own_b (own_digit p0))), .unset] [(.int (1 : Int32))])) (fun t k => ?_) ?_
          · show Steps p.tables e below (s₁.setTop (mkF m 75 #[.val (.int p0), .val (.int (p0 ||| (32 : Int32))), .val (.int (own_b (own_letter p0))), .val (.long ((p0.toInt64) - (48 : Int64))), .second, .val (.int (own_b (own_digit p0))), .unset] [])) _
            refine XS.iconst X0.here hx rfl (hb hby d2_75) ?_
            show Steps p.tables e below (s₁.setTop (mkF m 76 #[.val (.int p0), .val (.int (p0 ||| (32 : Int32))), .val (.int (own_b (own_letter p0))), .val (.long ((p0.toInt64) - (48 : Int64))), .second, .val (.int (own_b (own_digit p0))), .unset] [(.int (1 : Int32))])) _
            refine XS.goto X0.here hx rfl (pc0 := 76) (pc' := 80) rfl (hb hby d2_76) (by decide) (by decide) ?_
            exact k
          have hv : own_punct p0 = true := by simp [own_punct, h54, h60]
          rw [hv] at k80
          exact k80
        · refine own_st (B := s₁.setTop (mkF m 66 #[.val (.int p0), .val (.int (p0 ||| (32 : Int32))), .val (.int (own_b (own_letter p0))), .val (.long ((p0.toInt64) - (48 : Int64))), .second, .val (.int (own_b (own_digit p0))), .unset] [(.int (95 : Int32)), (.int p0)])) (fun t k => ?_) ?_
          · show Steps p.tables e below (s₁.setTop (mkF m 60 #[.val (.int p0), .val (.int (p0 ||| (32 : Int32))), .val (.int (own_b (own_letter p0))), .val (.long ((p0.toInt64) - (48 : Int64))), .second, .val (.int (own_b (own_digit p0))), .unset] [(.int (46 : Int32)), (.int p0)])) _
            refine XS.icmpNo X0.here hx rfl (hb hby d2_60) rfl (feq h60).1 ?_
            show Steps p.tables e below (s₁.setTop (mkF m 63 #[.val (.int p0), .val (.int (p0 ||| (32 : Int32))), .val (.int (own_b (own_letter p0))), .val (.long ((p0.toInt64) - (48 : Int64))), .second, .val (.int (own_b (own_digit p0))), .unset] [])) _
            refine XS.iloadN X0.here hx rfl (hb hby d2_63) rfl ?_
            show Steps p.tables e below (s₁.setTop (mkF m 64 #[.val (.int p0), .val (.int (p0 ||| (32 : Int32))), .val (.int (own_b (own_letter p0))), .val (.long ((p0.toInt64) - (48 : Int64))), .second, .val (.int (own_b (own_digit p0))), .unset] [(.int p0)])) _
            refine XS.bipush X0.here hx rfl (hb hby d2_64) ?_
            exact k
          by_cases h66 : p0 = (95 : Int32)
          · refine own_st (B := s₁.setTop (mkF m 75 #[.val (.int p0), .val (.int (p0 ||| (32 : Int32))), .val (.int (own_b (own_letter p0))), .val (.long ((p0.toInt64) - (48 : Int64))), .second, .val (.int (own_b (own_digit p0))), .unset] [])) (fun t k => ?_) ?_
            · show Steps p.tables e below (s₁.setTop (mkF m 66 #[.val (.int p0), .val (.int (p0 ||| (32 : Int32))), .val (.int (own_b (own_letter p0))), .val (.long ((p0.toInt64) - (48 : Int64))), .second, .val (.int (own_b (own_digit p0))), .unset] [(.int (95 : Int32)), (.int p0)])) _
              refine XS.icmpYes X0.here hx rfl (pc0 := 66) (pc' := 75) rfl (hb hby d2_66) rfl (teq h66).1 (by decide) (by decide) ?_
              exact k
            refine own_st (B := s₁.setTop (mkF m 80 #[.val (.int p0), .val (.int (p0 ||| (32 : Int32))), .val (.int (own_b (own_letter p0))), .val (.long ((p0.toInt64) - (48 : Int64))), .second, .val (.int (own_b (own_digit p0))), .unset] [(.int (1 : Int32))])) (fun t k => ?_) ?_
            · show Steps p.tables e below (s₁.setTop (mkF m 75 #[.val (.int p0), .val (.int (p0 ||| (32 : Int32))), .val (.int (own_b (own_letter p0))), .val (.long ((p0.toInt64) - (48 : Int64))), .second, .val (.int (own_b (own_digit p0))), .unset] [])) _
              refine XS.iconst X0.here hx rfl (hb hby d2_75) ?_
              show Steps p.tables e below (s₁.setTop (mkF m 76 #[.val (.int p0), .val (.int (p0 ||| (32 : Int32))), .val (.int (own_b (own_letter p0))), .val (.long ((p0.toInt64) - (48 : Int64))), .second, .val (.int (own_b (own_digit p0))), .unset] [(.int (1 : Int32))])) _
              refine XS.goto X0.here hx rfl (pc0 := 76) (pc' := 80) rfl (hb hby d2_76) (by decide) (by decide) ?_
              exact k
            have hv : own_punct p0 = true := by simp [own_punct, h54, h60, h66]
            rw [hv] at k80
            exact k80
          · refine own_st (B := s₁.setTop (mkF m 72 #[.val (.int p0), .val (.int (p0 ||| (32 : Int32))), .val (.int (own_b (own_letter p0))), .val (.long ((p0.toInt64) - (48 : Int64))), .second, .val (.int (own_b (own_digit p0))), .unset] [(.int (126 : Int32)), (.int p0)])) (fun t k => ?_) ?_
            · show Steps p.tables e below (s₁.setTop (mkF m 66 #[.val (.int p0), .val (.int (p0 ||| (32 : Int32))), .val (.int (own_b (own_letter p0))), .val (.long ((p0.toInt64) - (48 : Int64))), .second, .val (.int (own_b (own_digit p0))), .unset] [(.int (95 : Int32)), (.int p0)])) _
              refine XS.icmpNo X0.here hx rfl (hb hby d2_66) rfl (feq h66).1 ?_
              show Steps p.tables e below (s₁.setTop (mkF m 69 #[.val (.int p0), .val (.int (p0 ||| (32 : Int32))), .val (.int (own_b (own_letter p0))), .val (.long ((p0.toInt64) - (48 : Int64))), .second, .val (.int (own_b (own_digit p0))), .unset] [])) _
              refine XS.iloadN X0.here hx rfl (hb hby d2_69) rfl ?_
              show Steps p.tables e below (s₁.setTop (mkF m 70 #[.val (.int p0), .val (.int (p0 ||| (32 : Int32))), .val (.int (own_b (own_letter p0))), .val (.long ((p0.toInt64) - (48 : Int64))), .second, .val (.int (own_b (own_digit p0))), .unset] [(.int p0)])) _
              refine XS.bipush X0.here hx rfl (hb hby d2_70) ?_
              exact k
            by_cases h72 : p0 = (126 : Int32)
            · refine own_st (B := s₁.setTop (mkF m 75 #[.val (.int p0), .val (.int (p0 ||| (32 : Int32))), .val (.int (own_b (own_letter p0))), .val (.long ((p0.toInt64) - (48 : Int64))), .second, .val (.int (own_b (own_digit p0))), .unset] [])) (fun t k => ?_) ?_
              · show Steps p.tables e below (s₁.setTop (mkF m 72 #[.val (.int p0), .val (.int (p0 ||| (32 : Int32))), .val (.int (own_b (own_letter p0))), .val (.long ((p0.toInt64) - (48 : Int64))), .second, .val (.int (own_b (own_digit p0))), .unset] [(.int (126 : Int32)), (.int p0)])) _
                refine XS.icmpNo X0.here hx rfl (hb hby d2_72) rfl (teq h72).2 ?_
                exact k
              refine own_st (B := s₁.setTop (mkF m 80 #[.val (.int p0), .val (.int (p0 ||| (32 : Int32))), .val (.int (own_b (own_letter p0))), .val (.long ((p0.toInt64) - (48 : Int64))), .second, .val (.int (own_b (own_digit p0))), .unset] [(.int (1 : Int32))])) (fun t k => ?_) ?_
              · show Steps p.tables e below (s₁.setTop (mkF m 75 #[.val (.int p0), .val (.int (p0 ||| (32 : Int32))), .val (.int (own_b (own_letter p0))), .val (.long ((p0.toInt64) - (48 : Int64))), .second, .val (.int (own_b (own_digit p0))), .unset] [])) _
                refine XS.iconst X0.here hx rfl (hb hby d2_75) ?_
                show Steps p.tables e below (s₁.setTop (mkF m 76 #[.val (.int p0), .val (.int (p0 ||| (32 : Int32))), .val (.int (own_b (own_letter p0))), .val (.long ((p0.toInt64) - (48 : Int64))), .second, .val (.int (own_b (own_digit p0))), .unset] [(.int (1 : Int32))])) _
                refine XS.goto X0.here hx rfl (pc0 := 76) (pc' := 80) rfl (hb hby d2_76) (by decide) (by decide) ?_
                exact k
              have hv : own_punct p0 = true := by simp [own_punct, h54, h60, h66, h72]
              rw [hv] at k80
              exact k80
            · refine own_st (B := s₁.setTop (mkF m 79 #[.val (.int p0), .val (.int (p0 ||| (32 : Int32))), .val (.int (own_b (own_letter p0))), .val (.long ((p0.toInt64) - (48 : Int64))), .second, .val (.int (own_b (own_digit p0))), .unset] [])) (fun t k => ?_) ?_
              · show Steps p.tables e below (s₁.setTop (mkF m 72 #[.val (.int p0), .val (.int (p0 ||| (32 : Int32))), .val (.int (own_b (own_letter p0))), .val (.long ((p0.toInt64) - (48 : Int64))), .second, .val (.int (own_b (own_digit p0))), .unset] [(.int (126 : Int32)), (.int p0)])) _
                refine XS.icmpYes X0.here hx rfl (pc0 := 72) (pc' := 79) rfl (hb hby d2_72) rfl (feq h72).2 (by decide) (by decide) ?_
                exact k
              refine own_st (B := s₁.setTop (mkF m 80 #[.val (.int p0), .val (.int (p0 ||| (32 : Int32))), .val (.int (own_b (own_letter p0))), .val (.long ((p0.toInt64) - (48 : Int64))), .second, .val (.int (own_b (own_digit p0))), .unset] [(.int (0 : Int32))])) (fun t k => ?_) ?_
              · show Steps p.tables e below (s₁.setTop (mkF m 79 #[.val (.int p0), .val (.int (p0 ||| (32 : Int32))), .val (.int (own_b (own_letter p0))), .val (.long ((p0.toInt64) - (48 : Int64))), .second, .val (.int (own_b (own_digit p0))), .unset] [])) _
                refine XS.iconst X0.here hx rfl (hb hby d2_79) ?_
                exact k
              have hv : own_punct p0 = false := by simp [own_punct, h54, h60, h66, h72]
              rw [hv] at k80
              exact k80
    by_cases h33 : (p0.toInt64 - (48 : Int64)) < 0
    · refine own_st (B := s₁.setTop (mkF m 49 #[.val (.int p0), .val (.int (p0 ||| (32 : Int32))), .val (.int (own_b (own_letter p0))), .val (.long ((p0.toInt64) - (48 : Int64))), .second, .unset, .unset] [(.int (0 : Int32))])) (fun t k => ?_) ?_
      · show Steps p.tables e below (s₁.setTop (mkF m 33 #[.val (.int p0), .val (.int (p0 ||| (32 : Int32))), .val (.int (own_b (own_letter p0))), .val (.long ((p0.toInt64) - (48 : Int64))), .second, .unset, .unset] [(.int (lcmpW ((p0.toInt64) - (48 : Int64)) (0 : Int64)))])) _
        refine XS.ifYes X0.here hx rfl (pc0 := 33) (pc' := 48) rfl (hb hby d2_33) rfl ((if0 _ _).trans (tlt ((lw_lt _ _).mpr h33)).1) (by decide) (by decide) ?_
        show Steps p.tables e below (s₁.setTop (mkF m 48 #[.val (.int p0), .val (.int (p0 ||| (32 : Int32))), .val (.int (own_b (own_letter p0))), .val (.long ((p0.toInt64) - (48 : Int64))), .second, .unset, .unset] [])) _
        refine XS.iconst X0.here hx rfl (hb hby d2_48) ?_
        exact k
      have hv : own_digit p0 = false := by simp [own_digit, h33]
      rw [hv] at k49
      exact k49
    · refine own_st (B := s₁.setTop (mkF m 41 #[.val (.int p0), .val (.int (p0 ||| (32 : Int32))), .val (.int (own_b (own_letter p0))), .val (.long ((p0.toInt64) - (48 : Int64))), .second, .unset, .unset] [(.int (lcmpW ((p0.toInt64) - (48 : Int64)) (10 : Int64)))])) (fun t k => ?_) ?_
      · show Steps p.tables e below (s₁.setTop (mkF m 33 #[.val (.int p0), .val (.int (p0 ||| (32 : Int32))), .val (.int (own_b (own_letter p0))), .val (.long ((p0.toInt64) - (48 : Int64))), .second, .unset, .unset] [(.int (lcmpW ((p0.toInt64) - (48 : Int64)) (0 : Int64)))])) _
        refine XS.ifNo X0.here hx rfl (hb hby d2_33) rfl ((if0 _ _).trans (flt (fun q => h33 ((lw_lt _ _).mp q))).1) ?_
        show Steps p.tables e below (s₁.setTop (mkF m 36 #[.val (.int p0), .val (.int (p0 ||| (32 : Int32))), .val (.int (own_b (own_letter p0))), .val (.long ((p0.toInt64) - (48 : Int64))), .second, .unset, .unset] [])) _
        refine XS.lloadN X0.here hx rfl (hb hby d2_36) rfl ?_
        show Steps p.tables e below (s₁.setTop (mkF m 37 #[.val (.int p0), .val (.int (p0 ||| (32 : Int32))), .val (.int (own_b (own_letter p0))), .val (.long ((p0.toInt64) - (48 : Int64))), .second, .unset, .unset] [(.long ((p0.toInt64) - (48 : Int64)))])) _
        refine X0.ldc2Long hx hown (mvT hZ (hw _ (List.mem_of_getElem? (i := 9) rfl))) (g := (mkF m 37 #[.val (.int p0), .val (.int (p0 ||| (32 : Int32))), .val (.int (own_b (own_letter p0))), .val (.long ((p0.toInt64) - (48 : Int64))), .second, .unset, .unset] [(.long ((p0.toInt64) - (48 : Int64)))])) rfl (hb hby d2_37) _ ?_
        show Steps p.tables e below (s₁.setTop (mkF m 40 #[.val (.int p0), .val (.int (p0 ||| (32 : Int32))), .val (.int (own_b (own_letter p0))), .val (.long ((p0.toInt64) - (48 : Int64))), .second, .unset, .unset] [(.long (10 : Int64)), (.long ((p0.toInt64) - (48 : Int64)))])) _
        refine XS.lcmp X0.here hx rfl (hb hby d2_40) rfl ?_
        exact k
      by_cases h41 : (p0.toInt64 - (48 : Int64)) < 10
      · refine own_st (B := s₁.setTop (mkF m 49 #[.val (.int p0), .val (.int (p0 ||| (32 : Int32))), .val (.int (own_b (own_letter p0))), .val (.long ((p0.toInt64) - (48 : Int64))), .second, .unset, .unset] [(.int (1 : Int32))])) (fun t k => ?_) ?_
        · show Steps p.tables e below (s₁.setTop (mkF m 41 #[.val (.int p0), .val (.int (p0 ||| (32 : Int32))), .val (.int (own_b (own_letter p0))), .val (.long ((p0.toInt64) - (48 : Int64))), .second, .unset, .unset] [(.int (lcmpW ((p0.toInt64) - (48 : Int64)) (10 : Int64)))])) _
          refine XS.ifNo X0.here hx rfl (hb hby d2_41) rfl ((if0 _ _).trans (tlt ((lw_lt _ _).mpr h41)).2.1) ?_
          show Steps p.tables e below (s₁.setTop (mkF m 44 #[.val (.int p0), .val (.int (p0 ||| (32 : Int32))), .val (.int (own_b (own_letter p0))), .val (.long ((p0.toInt64) - (48 : Int64))), .second, .unset, .unset] [])) _
          refine XS.iconst X0.here hx rfl (hb hby d2_44) ?_
          show Steps p.tables e below (s₁.setTop (mkF m 45 #[.val (.int p0), .val (.int (p0 ||| (32 : Int32))), .val (.int (own_b (own_letter p0))), .val (.long ((p0.toInt64) - (48 : Int64))), .second, .unset, .unset] [(.int (1 : Int32))])) _
          refine XS.goto X0.here hx rfl (pc0 := 45) (pc' := 49) rfl (hb hby d2_45) (by decide) (by decide) ?_
          exact k
        have hv : own_digit p0 = true := by simp [own_digit, h33, h41]
        rw [hv] at k49
        exact k49
      · refine own_st (B := s₁.setTop (mkF m 49 #[.val (.int p0), .val (.int (p0 ||| (32 : Int32))), .val (.int (own_b (own_letter p0))), .val (.long ((p0.toInt64) - (48 : Int64))), .second, .unset, .unset] [(.int (0 : Int32))])) (fun t k => ?_) ?_
        · show Steps p.tables e below (s₁.setTop (mkF m 41 #[.val (.int p0), .val (.int (p0 ||| (32 : Int32))), .val (.int (own_b (own_letter p0))), .val (.long ((p0.toInt64) - (48 : Int64))), .second, .unset, .unset] [(.int (lcmpW ((p0.toInt64) - (48 : Int64)) (10 : Int64)))])) _
          refine XS.ifYes X0.here hx rfl (pc0 := 41) (pc' := 48) rfl (hb hby d2_41) rfl ((if0 _ _).trans (flt (fun q => h41 ((lw_lt _ _).mp q))).2.1) (by decide) (by decide) ?_
          show Steps p.tables e below (s₁.setTop (mkF m 48 #[.val (.int p0), .val (.int (p0 ||| (32 : Int32))), .val (.int (own_b (own_letter p0))), .val (.long ((p0.toInt64) - (48 : Int64))), .second, .unset, .unset] [])) _
          refine XS.iconst X0.here hx rfl (hb hby d2_48) ?_
          exact k
        have hv : own_digit p0 = false := by simp [own_digit, h33, h41]
        rw [hv] at k49
        exact k49
  by_cases h8 : (p0 ||| (32 : Int32)) < (97 : Int32)
  · refine own_st (B := s₁.setTop (mkF m 22 #[.val (.int p0), .val (.int (p0 ||| (32 : Int32))), .unset, .unset, .unset, .unset, .unset] [(.int (0 : Int32))])) (fun t k => ?_) ?_
    · show Steps p.tables e below (s₁.setTop (mkF m 8 #[.val (.int p0), .val (.int (p0 ||| (32 : Int32))), .unset, .unset, .unset, .unset, .unset] [(.int (97 : Int32)), (.int (p0 ||| (32 : Int32)))])) _
      refine XS.icmpYes X0.here hx rfl (pc0 := 8) (pc' := 21) rfl (hb hby d2_8) rfl (tlt h8).1 (by decide) (by decide) ?_
      show Steps p.tables e below (s₁.setTop (mkF m 21 #[.val (.int p0), .val (.int (p0 ||| (32 : Int32))), .unset, .unset, .unset, .unset, .unset] [])) _
      refine XS.iconst X0.here hx rfl (hb hby d2_21) ?_
      exact k
    have hv : own_letter p0 = false := by simp [own_letter, h8]
    rw [hv] at k22
    exact k22
  · refine own_st (B := s₁.setTop (mkF m 14 #[.val (.int p0), .val (.int (p0 ||| (32 : Int32))), .unset, .unset, .unset, .unset, .unset] [(.int (122 : Int32)), (.int (p0 ||| (32 : Int32)))])) (fun t k => ?_) ?_
    · show Steps p.tables e below (s₁.setTop (mkF m 8 #[.val (.int p0), .val (.int (p0 ||| (32 : Int32))), .unset, .unset, .unset, .unset, .unset] [(.int (97 : Int32)), (.int (p0 ||| (32 : Int32)))])) _
      refine XS.icmpNo X0.here hx rfl (hb hby d2_8) rfl (flt h8).1 ?_
      show Steps p.tables e below (s₁.setTop (mkF m 11 #[.val (.int p0), .val (.int (p0 ||| (32 : Int32))), .unset, .unset, .unset, .unset, .unset] [])) _
      refine XS.iloadN X0.here hx rfl (hb hby d2_11) rfl ?_
      show Steps p.tables e below (s₁.setTop (mkF m 12 #[.val (.int p0), .val (.int (p0 ||| (32 : Int32))), .unset, .unset, .unset, .unset, .unset] [(.int (p0 ||| (32 : Int32)))])) _
      refine XS.bipush X0.here hx rfl (hb hby d2_12) ?_
      exact k
    by_cases h14 : (122 : Int32) < (p0 ||| (32 : Int32))
    · refine own_st (B := s₁.setTop (mkF m 22 #[.val (.int p0), .val (.int (p0 ||| (32 : Int32))), .unset, .unset, .unset, .unset, .unset] [(.int (0 : Int32))])) (fun t k => ?_) ?_
      · show Steps p.tables e below (s₁.setTop (mkF m 14 #[.val (.int p0), .val (.int (p0 ||| (32 : Int32))), .unset, .unset, .unset, .unset, .unset] [(.int (122 : Int32)), (.int (p0 ||| (32 : Int32)))])) _
        refine XS.icmpYes X0.here hx rfl (pc0 := 14) (pc' := 21) rfl (hb hby d2_14) rfl (tlt h14).2.2.1 (by decide) (by decide) ?_
        show Steps p.tables e below (s₁.setTop (mkF m 21 #[.val (.int p0), .val (.int (p0 ||| (32 : Int32))), .unset, .unset, .unset, .unset, .unset] [])) _
        refine XS.iconst X0.here hx rfl (hb hby d2_21) ?_
        exact k
      have hv : own_letter p0 = false := by simp [own_letter, h8, h14]
      rw [hv] at k22
      exact k22
    · refine own_st (B := s₁.setTop (mkF m 22 #[.val (.int p0), .val (.int (p0 ||| (32 : Int32))), .unset, .unset, .unset, .unset, .unset] [(.int (1 : Int32))])) (fun t k => ?_) ?_
      · show Steps p.tables e below (s₁.setTop (mkF m 14 #[.val (.int p0), .val (.int (p0 ||| (32 : Int32))), .unset, .unset, .unset, .unset, .unset] [(.int (122 : Int32)), (.int (p0 ||| (32 : Int32)))])) _
        refine XS.icmpNo X0.here hx rfl (hb hby d2_14) rfl (flt h14).2.2.1 ?_
        show Steps p.tables e below (s₁.setTop (mkF m 17 #[.val (.int p0), .val (.int (p0 ||| (32 : Int32))), .unset, .unset, .unset, .unset, .unset] [])) _
        refine XS.iconst X0.here hx rfl (hb hby d2_17) ?_
        show Steps p.tables e below (s₁.setTop (mkF m 18 #[.val (.int p0), .val (.int (p0 ||| (32 : Int32))), .unset, .unset, .unset, .unset, .unset] [(.int (1 : Int32))])) _
        refine XS.goto X0.here hx rfl (pc0 := 18) (pc' := 22) rfl (hb hby d2_18) (by decide) (by decide) ?_
        exact k
      have hv : own_letter p0 = true := by simp [own_letter, h8, h14]
      rw [hv] at k22
      exact k22
theorem ef_0 (m : MethodId) (x0 : Int32) (x1 : Int32) : entryFrame m #[(.int x0), (.int x1)] maxLocals = mkF m 0 #[.val (.int x0), .val (.int x1), .unset] [] := by first | (simp [entryFrame, mkF, argsToLocals, Value.category, maxLocals]; done) | rfl
def Q0 (Z : State) (p0 : Int32) (p1 : Int32) (h0 : Heap) (n0 : Nat) (v : Option Value) (h : Heap) (L : List Loc) : Prop := v = some (.int (1 : Int32)) ∧ Fr n0 L
theorem pd_0 : parseMethodDescriptor "(I)Z" = some ⟨[.int], some .boolean⟩ := by decide +kernel
set_option maxRecDepth 65536 in
set_option maxHeartbeats 40000000 in
theorem rm0 (l : Launch) (Z : State) (a0 : Array Value) (hw : ∀ d ∈ tables_1, d.before a0 Z = true) (ws : List Jvm.Cond) (p0 : Int32) (p1 : Int32) (h0 : Heap) (n0 : Nat) (Z0 : n0 ≤ h0.size) :
    MetFree l x (head1 (Jvm.Cond.code x code maxLocals ret :: ws) room_1) (fun a U => a = #[(.int p0), (.int p1)] ∧ Z.Warmed39 U.vm ∧ U.heap = h0) (fun _ _ _ _ _ => True) (fun _ U o U' => ∃ v L, o = .returned v ∧ Q0 Z p0 p1 h0 n0 v U'.heap L ∧ FrameEnd U o U' L room_1.cells room_1.slots) := by
  refine MetFree.of_bodySF (plainFor_of_name pn_2) hisR ?_
  intro p e s m args below meth c s₁ Bd hml0 hP hK
  obtain ⟨rfl, hZ, hh⟩ := hP
  have hx := Bd.exec
  have hby := Bd.bytes
  have hml : c.maxLocals = 3 := hml0
  have hown : s.vm.findClass "com/example/synod/synod/DecreesIsNameCharacterPinLaw" = some m.cls := findClass_of_methodNamed Bd.named
  have hnm := (name_of_methodNamed Bd.named Bd.method).1
  have X0 : Stand p l e room_1 s m #[(.int p0), (.int p1)] below meth c s₁ [] 0 0 := Stand.of_body Bd
  have e0 : s₁.heap = h0 := by rw [← hh, Bd.state]; rfl
  have N0 := Fr.nil n0
  show own_G p e below (fun (t : State) (o : Outcome) => t.status = .running ∧ Ended t below o ∧ ∃ v L, o = .returned v ∧ Q0 Z p0 p1 h0 n0 v t.heap L ∧ FrameEnd s o t L room_1.cells room_1.slots) (s₁.setTop (entryFrame m #[(.int p0), (.int p1)] maxLocals))
  rw [ef_0 m p0 p1]
  have k15 : ∀ z : Int32, own_G p e below (fun (t : State) (o : Outcome) => t.status = .running ∧ Ended t below o ∧ ∃ v L, o = .returned v ∧ Q0 Z p0 p1 h0 n0 v t.heap L ∧ FrameEnd s o t L room_1.cells room_1.slots) (s₁.setTop (mkF m 15 #[.val (.int p0), .val (.int p1), .unset] [(.int z)])) := by
    intro z
    refine own_st (B := s₁.setTop (mkF m 17 #[.val (.int p0), .val (.int p1), .val (.int z)] [(.int z)])) (fun t k => ?_) ?_
    · show Steps p.tables e below (s₁.setTop (mkF m 15 #[.val (.int p0), .val (.int p1), .unset] [(.int z)])) _
      refine XS.istoreN X0.here hx rfl (hb hby at_15) rfl (l' := #[.val (.int p0), .val (.int p1), .val (.int z)]) rfl ?_
      show Steps p.tables e below (s₁.setTop (mkF m 16 #[.val (.int p0), .val (.int p1), .val (.int z)] [])) _
      refine XS.iloadN X0.here hx rfl (hb hby at_16) rfl ?_
      exact k
    obtain ⟨_, _, ⟨T1, L1, k1, n1⟩, -, X1, ⟨Lc1, hQ1, l1, y1, z1⟩, st1⟩ := Jvm.LawKit.callS X0 hx (y := (⟨"com/example/synod/synod/Decrees", "isNameCharacter", "(I)Z"⟩ : MethodName)) hown (mvT hZ (hw _ (List.mem_of_getElem? (i := 0) rfl))) (mvT hZ (hw _ (List.mem_of_getElem? (i := 1) rfl))) (mvT hZ (hw _ (List.mem_of_getElem? (i := 2) rfl))) (mvT hZ (hw _ (List.mem_of_getElem? (i := 3) rfl))) (by decide) (backOf (W := 0) (rm1 l Z a0 hw [] z h0 n0 Z0) hZ (hw _ (List.mem_of_getElem? (i := 3) rfl)) (hw _ (List.mem_of_getElem? (i := 2) rfl)) (by decide) (by decide)) (g := (mkF m 17 #[.val (.int p0), .val (.int p1), .val (.int z)] [(.int z)])) rfl (by rw [hml]; rfl) (argsL := [(.int z)]) (rest := []) (lenOf pd_0 rfl) rfl (by show 2 * 0 + _ ≤ _; exact Nat.le_of_eq rfl) (hb hby at_17) (fun _ _ => ⟨rfl, e0, (by decide : 0 + 0 ≤ _), (by decide : 0 + 0 ≤ _)⟩)
    dsimp only [Pt.U, Pt.locs, Pt.cells, Pt.slots] at X1 l1 y1 z1 st1 hQ1
    subst l1 y1 z1
    obtain ⟨rfl, N1q, e1⟩ := hQ1
    have N1 := Fr.app N0 N1q
    refine own_st (B := T1.setTop (mkF m 20 #[.val (.int p0), .val (.int p1), .val (.int z)] [(.int (own_b (own_nm z)))])) (fun t k => st1 _ k) ?_
    refine own_st (B := T1.setTop (mkF m 21 #[.val (.int p0), .val (.int p1), .val (.int z)] [(.int z), (.int (own_b (own_nm z)))])) (fun t k => ?_) ?_
    · show Steps p.tables e below (T1.setTop (mkF m 20 #[.val (.int p0), .val (.int p1), .val (.int z)] [(.int (own_b (own_nm z)))])) _
      refine XS.iloadN X1.here hx rfl (hb hby at_20) rfl ?_
      exact k
    obtain ⟨_, _, ⟨T2, L2, k2, n2⟩, -, X2, ⟨Lc2, hQ2, l2, y2, z2⟩, st2⟩ := Jvm.LawKit.callS X1 hx (y := (⟨"com/example/synod/synod/DecreesIsNameCharacterPinLaw", "reference", "(I)Z"⟩ : MethodName)) hown (mvT hZ (hw _ (List.mem_of_getElem? (i := 4) rfl))) (mvT hZ (hw _ (List.mem_of_getElem? (i := 5) rfl))) (mvT hZ (hw _ (List.mem_of_getElem? (i := 6) rfl))) (mvT hZ (hw _ (List.mem_of_getElem? (i := 7) rfl))) (by decide) (backOf (W := 1) (rm2 l Z a0 hw [] z h0 n0 Z0) hZ (hw _ (List.mem_of_getElem? (i := 7) rfl)) (hw _ (List.mem_of_getElem? (i := 6) rfl)) (by decide) (by decide)) (g := (mkF m 21 #[.val (.int p0), .val (.int p1), .val (.int z)] [(.int z), (.int (own_b (own_nm z)))])) rfl (by rw [hml]; rfl) (argsL := [(.int z)]) (rest := [(.int (own_b (own_nm z)))]) (lenOf pd_0 rfl) rfl (by show 2 * 0 + _ ≤ _; exact Nat.le_of_eq rfl) (hb hby at_21) (fun _ _ => ⟨rfl, e1, (by decide : 0 + 0 ≤ _), (by decide : 0 + 0 ≤ _)⟩)
    dsimp only [Pt.U, Pt.locs, Pt.cells, Pt.slots] at X2 l2 y2 z2 st2 hQ2
    subst l2 y2 z2
    obtain ⟨rfl, N2q, e2⟩ := hQ2
    have N2 := Fr.app N1 N2q
    refine own_st (B := T2.setTop (mkF m 24 #[.val (.int p0), .val (.int p1), .val (.int z)] [(.int (own_b (own_ref z))), (.int (own_b (own_nm z)))])) (fun t k => st2 _ k) ?_
    refine own_st (B := T2.setTop (mkF m 32 #[.val (.int p0), .val (.int p1), .val (.int z)] [(.int (1 : Int32))])) (fun t k => ?_) ?_
    · show Steps p.tables e below (T2.setTop (mkF m 24 #[.val (.int p0), .val (.int p1), .val (.int z)] [(.int (own_b (own_ref z))), (.int (own_b (own_nm z)))])) _
      refine XS.icmpNo X2.here hx rfl (hb hby at_24) rfl (teq (congrArg own_b (own_all z))).2 ?_
      show Steps p.tables e below (T2.setTop (mkF m 27 #[.val (.int p0), .val (.int p1), .val (.int z)] [])) _
      refine XS.iconst X2.here hx rfl (hb hby at_27) ?_
      show Steps p.tables e below (T2.setTop (mkF m 28 #[.val (.int p0), .val (.int p1), .val (.int z)] [(.int (1 : Int32))])) _
      refine XS.goto X2.here hx rfl (pc0 := 28) (pc' := 32) rfl (hb hby at_28) (by decide) (by decide) ?_
      exact k
    obtain ⟨fs, hr, hrun, hended, hW, hsame⟩ := X2.leave (v := some (.int (1 : Int32))) (fun h => by rw [Bd.returns] at h; cases h)
    refine ⟨_, _, ?_, hrun, hended, _, _, rfl, ?_, ⟨_, rfl⟩, hW, hsame.mono (by decide) (by decide)⟩
    · exact retOut X2 hx Bd.returns rfl (Or.inl ⟨rfl, by simp, _, rfl⟩) (hb hby at_32) hr
    · show Q0 Z p0 p1 h0 n0 _ T2.heap _
      rw [e2]
      exact ⟨rfl, N2⟩
  refine own_st (B := s₁.setTop (mkF m 3 #[.val (.int p0), .val (.int p1), .unset] [(.int (p1 &&& (1 : Int32)))])) (fun t k => ?_) ?_
  · show Steps p.tables e below (s₁.setTop (mkF m 0 #[.val (.int p0), .val (.int p1), .unset] [])) _
    refine XS.iloadN X0.here hx rfl (hb hby at_0) rfl ?_
    show Steps p.tables e below (s₁.setTop (mkF m 1 #[.val (.int p0), .val (.int p1), .unset] [(.int p1)])) _
    refine XS.iconst X0.here hx rfl (hb hby at_1) ?_
    show Steps p.tables e below (s₁.setTop (mkF m 2 #[.val (.int p0), .val (.int p1), .unset] [(.int (1 : Int32)), (.int p1)])) _
    refine XS.iand X0.here hx rfl (hb hby at_2) rfl ?_
    exact k
  by_cases h3 : (p1 &&& (1 : Int32)) = (0 : Int32)
  · refine own_st (B := s₁.setTop (mkF m 15 #[.val (.int p0), .val (.int p1), .unset] [(.int p0)])) (fun t k => ?_) ?_
    · show Steps p.tables e below (s₁.setTop (mkF m 3 #[.val (.int p0), .val (.int p1), .unset] [(.int (p1 &&& (1 : Int32)))])) _
      refine XS.ifYes X0.here hx rfl (pc0 := 3) (pc' := 14) rfl (hb hby at_3) rfl ((if0 _ _).trans (teq h3).1) (by decide) (by decide) ?_
      show Steps p.tables e below (s₁.setTop (mkF m 14 #[.val (.int p0), .val (.int p1), .unset] [])) _
      refine XS.iloadN X0.here hx rfl (hb hby at_14) rfl ?_
      exact k
    exact k15 _
  · refine own_st (B := s₁.setTop (mkF m 15 #[.val (.int p0), .val (.int p1), .unset] [(.int (p0 &&& (255 : Int32)))])) (fun t k => ?_) ?_
    · show Steps p.tables e below (s₁.setTop (mkF m 3 #[.val (.int p0), .val (.int p1), .unset] [(.int (p1 &&& (1 : Int32)))])) _
      refine XS.ifNo X0.here hx rfl (hb hby at_3) rfl ((if0 _ _).trans (feq h3).1) ?_
      show Steps p.tables e below (s₁.setTop (mkF m 6 #[.val (.int p0), .val (.int p1), .unset] [])) _
      refine XS.iloadN X0.here hx rfl (hb hby at_6) rfl ?_
      show Steps p.tables e below (s₁.setTop (mkF m 7 #[.val (.int p0), .val (.int p1), .unset] [(.int p0)])) _
      refine XS.sipush X0.here hx rfl (hb hby at_7) ?_
      show Steps p.tables e below (s₁.setTop (mkF m 10 #[.val (.int p0), .val (.int p1), .unset] [(.int (255 : Int32)), (.int p0)])) _
      refine XS.iand X0.here hx rfl (hb hby at_10) rfl ?_
      show Steps p.tables e below (s₁.setTop (mkF m 11 #[.val (.int p0), .val (.int p1), .unset] [(.int (p0 &&& (255 : Int32)))])) _
      refine XS.goto X0.here hx rfl (pc0 := 11) (pc' := 15) rfl (hb hby at_11) (by decide) (by decide) ?_
      exact k
    exact k15 _
set_option maxRecDepth 65536 in
set_option maxHeartbeats 40000000 in
theorem comes_1 {Post : Tables → Env → Array Value → State → Outcome → State → Prop} (hpost : ∀ tb e args s v u, (limb_1_1.after args s (.returned v) u = true ∧ limb_1_2.after args s (.returned v) u = true) → FrameEnd s (.returned v) u (Jvm.fieldLocs frame_1_writes args s ++ Jvm.arrayLocs frame_1_arrays args s ++ Jvm.staticLocs frame_1_statics s) 0 0 → Post tb e args s (.returned v) u) :
    ArmFor flags0 classFile x code maxLocals ret World_1 tables_1 room_1 Calls_1 rest_1 Pre_1 Post := by
  intro l hfl _ _ p e ha hc hk s m args below hf hA hF happ hP
  obtain ⟨hcalls, hrest, hpre⟩ := hP
  obtain ⟨-, -, -, hnamed, -, -, -, hat⟩ := (Spec.applies_iff hf).mp happ
  obtain ⟨hg, hn⟩ := and_e (Cond.before_iff.mp (show (Jvm.Cond.and given_1 narrow_1).before args s = true from hpre))
  obtain ⟨gc, g0⟩ := and_e hg
  obtain ⟨ga0, g1⟩ := and_e g0
  have ga1 := g1
  obtain ⟨w0, w1, rfl⟩ : ∃ w0 w1 : Value, args = #[w0, w1] := by
    have hs : args.size = 2 := by simpa [Cond.value, given_1] using gc
    obtain ⟨L⟩ := args
    match L, hs with
    | [w0, w1], _ => exact ⟨w0, w1, rfl⟩
  have hw := fun d (hd : d ∈ tables_1) => atoms_spec (ws := Jvm.Cond.code x code maxLocals ret :: tables_1) hat d (List.mem_cons_of_mem _ hd)
  obtain ⟨i0, ei0⟩ := is_v ga0
  obtain rfl : w0 = (.int i0) := Option.some.inj ei0
  obtain ⟨i1, ei1⟩ := is_v ga1
  obtain rfl : w1 = (.int i1) := Option.some.inj ei1
  obtain ⟨n, o, h1, h2, h3, _, L, rfl, ⟨rfl, N⟩, hq⟩ := rm0 l s _ hw tables_1 i0 i1 s.heap s.heap.size (Nat.le_refl _) p e ha hc hk s m _ below hf ((Spec.applies_iff_loose hf).mp happ).1 ⟨rfl, State.Warmed39.refl s, rfl⟩ trivial
  refine ⟨n, _, h1, h2, h3, hpost _ _ _ _ _ _ ⟨Cond.after_iff.mpr rfl, Cond.after_iff.mpr (eq_i res_at (Term.int_eval (1)) rfl)⟩ ⟨hq.1, hq.2.1, (hq.2.2.sift fun y hy => Or.inr (N y hy)).mono (by decide) (by decide)⟩⟩
theorem main_1_1 : Claimed_1_1 := comes_1 fun _ _ _ _ _ _ h hF => ⟨h.1, hF⟩
theorem main_1_2 : Claimed_1_2 := comes_1 fun _ _ _ _ _ _ h hF => ⟨h.2, hF⟩
end Jvm.Pilot.@@N@@
namespace Jvm.Pilot.@@N@@
open Jvm Jvm.ClassFile Sem Op Lib Jvm.Free Jvm.Stand Jvm.Pilot.@@N@@.Jvm.D
/-! MADE BY PROGRAM (witnessworld.py) out of the Statement's table words and the real class files: 9 classes; the members and pool entries that the words name. The judged class is class 1, her method 2. -/
namespace start1
open Jvm.ClassFile
def u (s : String) : CpInfo := .utf8 (stringToUtf16 s)
/-- a pool by its gaps: so many unusable entries, then the entry; so many at the end -/
def gap : Nat → List CpInfo → List CpInfo
  | 0, r => r
  | n + 1, r => .unusable :: gap n r
def poolList (es : List (Nat × CpInfo)) (last : Nat) : List CpInfo := es.foldr (fun e r => gap e.1 (e.2 :: r)) (gap last [])
def pool (es : List (Nat × CpInfo)) (last : Nat) : Array CpInfo := ⟨poolList es last⟩
def fileOf (pool : Array CpInfo) (this : Nat) (attrs : Array Attribute := #[]) (ms : Array MethodInfo := #[]) (fl : Nat := 33) (sup : Nat := 0) (ifs : Array Nat := #[]) (fds : Array FieldInfo := #[]) : ClassFile where
  minorVersion := 0
  majorVersion := 65
  constantPool := pool
  accessFlags := fl
  thisClass := this
  superClass := sup
  interfaces := ifs
  fields := fds
  methods := ms
  attributes := attrs
def plain (name : String) (sup : Option ClassId) : Class where
  name := name
  kind := .ordinary
  loader := none
  accessFlags := 33
  super := sup
  interfaces := #[]
  cf := none
  fields := #[]
  methods := #[]
  instanceTypes := #[]
  staticTypes := #[]
  resolved := #[]
  callSites := []
  init := .initialized
  statics := none
  mirror := none

def pool0 : Array CpInfo := pool [(5, u "<init>"), (0, u "()V"), (1, .class_ 10), (1, u "java/lang/Object")] 113

def k0m0 : Method := { name := "<init>", desc := "()V", sig := { parameters := [], returnType := none }, accessFlags := 1, code := none }
/-- java/lang/Object -/
def k0 : Class := { plain "java/lang/Object" none with
  accessFlags := 33
  interfaces := #[]
  cf := some (fileOf pool0 8 #[] #[{ accessFlags := 1, nameIndex := 5, descriptorIndex := 6, attributes := #[] }] 33 0 #[] #[])
  fields := #[]
  methods := #[k0m0]
  instanceTypes := #[]
  staticTypes := #[]
  resolved := Array.replicate 124 none
  statics := none }

def pool1 : Array CpInfo := pool [(2, .class_ 4), (1, u "java/lang/Object"), (0, u "<init>"), (0, u "()V"), (0, .long 48), (1, .long 10), (1, .methodref 12 13), (0, .class_ 14), (0, .nameAndType 15 16), (0, u "com/example/synod/synod/Decrees"), (0, u "isNameCharacter"), (0, u "(I)Z"), (0, .methodref 18 19), (0, .class_ 20), (0, .nameAndType 21 16), (0, u "com/example/synod/synod/DecreesIsNameCharacterPinLaw"), (0, u "reference"), (3, u "law"), (0, u "(II)Z")] 2

def k1m0 : Method := { name := "<init>", desc := "()V", sig := { parameters := [], returnType := none }, accessFlags := 2, code := none }
def k1c1 : Code := { maxStack := 4, maxLocals := 7, code := method_2_code, exceptionTable := #[], attributes := #[] }
def k1m1 : Method := { name := "reference", desc := "(I)Z", sig := { parameters := [.int], returnType := some .boolean }, accessFlags := 10, code := some k1c1 }
def k1c2 : Code := { maxStack := 2, maxLocals := 3, code := code, exceptionTable := #[], attributes := #[] }
def k1m2 : Method := { name := "law", desc := "(II)Z", sig := { parameters := [.int, .int], returnType := some .boolean }, accessFlags := 9, code := some k1c2 }
/-- com/example/synod/synod/DecreesIsNameCharacterPinLaw -/
def k1 : Class := { plain "com/example/synod/synod/DecreesIsNameCharacterPinLaw" (some 0) with
  accessFlags := 49
  interfaces := #[]
  cf := some (fileOf pool1 18 #[] #[{ accessFlags := 2, nameIndex := 5, descriptorIndex := 6, attributes := #[] }, { accessFlags := 10, nameIndex := 21, descriptorIndex := 16, attributes := #[] }, { accessFlags := 9, nameIndex := 25, descriptorIndex := 26, attributes := #[] }] 49 2 #[] #[])
  fields := #[]
  methods := #[k1m0, k1m1, k1m2]
  instanceTypes := #[]
  staticTypes := #[]
  resolved := Array.replicate 29 none
  statics := none }

def pool2 : Array CpInfo := pool [(1, .class_ 2), (0, u "com/example/synod/synod/Decrees"), (1, .class_ 6), (1, u "java/lang/Object"), (0, u "<init>"), (0, u "()V"), (24, u "isNameCharacter"), (0, u "(I)Z"), (21, u "MAX_NAME_LENGTH"), (0, u "I"), (2, u "MAX_VALUE_BYTES"), (0, u "NAME_RULE"), (0, u "Ljava/lang/String;")] 27

def k2m0 : Method := { name := "<init>", desc := "()V", sig := { parameters := [], returnType := none }, accessFlags := 2, code := none }
def k2c1 : Code := { maxStack := 2, maxLocals := 1, code := prog_35_method_6_code, exceptionTable := #[], attributes := #[] }
def k2m1 : Method := { name := "isNameCharacter", desc := "(I)Z", sig := { parameters := [.int], returnType := some .boolean }, accessFlags := 8, code := some k2c1 }
/-- com/example/synod/synod/Decrees -/
def k2 : Class := { plain "com/example/synod/synod/Decrees" (some 0) with
  accessFlags := 49
  interfaces := #[]
  cf := some (fileOf pool2 1 #[] #[{ accessFlags := 2, nameIndex := 7, descriptorIndex := 8, attributes := #[] }, { accessFlags := 8, nameIndex := 33, descriptorIndex := 34, attributes := #[] }] 49 4 #[] #[{ accessFlags := 25, nameIndex := 56, descriptorIndex := 57, attributes := #[] }, { accessFlags := 25, nameIndex := 60, descriptorIndex := 57, attributes := #[] }, { accessFlags := 25, nameIndex := 61, descriptorIndex := 62, attributes := #[] }])
  fields := #[{ name := "MAX_NAME_LENGTH", type := .int, accessFlags := 25, slot := 0, constantValue := 0 }, { name := "MAX_VALUE_BYTES", type := .int, accessFlags := 25, slot := 1, constantValue := 0 }, { name := "NAME_RULE", type := (.object "java/lang/String"), accessFlags := 25, slot := 2, constantValue := 0 }]
  methods := #[k2m0, k2m1]
  instanceTypes := #[]
  staticTypes := #[.int, .int, (.object "java/lang/String")]
  resolved := Array.replicate 90 none
  statics := none }

def pool3 : Array CpInfo := pool [(1, u "java/lang/Cloneable"), (0, .class_ 1), (0, u "java/lang/Object"), (0, .class_ 3)] 3

/-- java/lang/Cloneable -/
def k3 : Class := { plain "java/lang/Cloneable" (some 0) with
  accessFlags := 1537
  interfaces := #[]
  cf := some (fileOf pool3 2 #[] #[] 1537 4 #[] #[])
  fields := #[]
  methods := #[]
  instanceTypes := #[]
  staticTypes := #[]
  resolved := Array.replicate 8 none
  statics := none }

def pool4 : Array CpInfo := pool [(1, u "java/io/Serializable"), (0, .class_ 1), (0, u "java/lang/Object"), (0, .class_ 3)] 3

/-- java/io/Serializable -/
def k4 : Class := { plain "java/io/Serializable" (some 0) with
  accessFlags := 1537
  interfaces := #[]
  cf := some (fileOf pool4 2 #[] #[] 1537 4 #[] #[])
  fields := #[]
  methods := #[]
  instanceTypes := #[]
  staticTypes := #[]
  resolved := Array.replicate 8 none
  statics := none }

/-- the primitive byte -/
def k5 : Class := { plain "byte" none with kind := .primitive 'B', accessFlags := 0x411 }
/-- [B -/
def k6 : Class := { plain "[B" (some 0) with kind := .array 5 .byte, interfaces := #[3, 4], accessFlags := 1041 }

/-- the primitive int -/
def k7 : Class := { plain "int" none with kind := .primitive 'I', accessFlags := 0x411 }
/-- [I -/
def k8 : Class := { plain "[I" (some 0) with kind := .array 7 .int, interfaces := #[3, 4], accessFlags := 1041 }

def heap : Heap := #[]
def classes : Array Class := #[k0, k1, k2, k3, k4, k5, k6, k7, k8]
def interned : List (Array UInt16 × Addr) := []
def slotsUsed : Nat := 0
def theMethod : MethodId := ⟨1, 2⟩
def args0 : Array Value := #[.int 65, .int 0]
def aboutOver (below : List Frame) : State where
  vm := { classes := classes, interned := interned.toArray }
  heap := heap
  slotsUsed := slotsUsed
  threads := #[{ frames := .invoking theMethod args0 :: below }]
def below0 : List Frame := [.native { method := ⟨0, 0⟩, args := #[] }]
def about1 : State := aboutOver below0
def p0 : Program := .bare "" "" ""
def e0 : Env := launch0.env 0 0 0
theorem w_frames : about1.frames = Frame.invoking theMethod args0 :: below0 := rfl
set_option maxRecDepth 65536 in
theorem w_args : argsFit about1.vm theMethod args0 = true := by decide +kernel
set_option maxRecDepth 65536 in
theorem w_heap : heapFits about1 = true := by decide +kernel
set_option maxRecDepth 65536 in
theorem w_runnable : about1.curStatus? = some .runnable := by decide +kernel
set_option maxRecDepth 65536 in
theorem w_alone : about1.alone = true := by decide +kernel
set_option maxRecDepth 65536 in
theorem w_named : about1.methodNamed? x = some theMethod := by decide +kernel
set_option maxRecDepth 65536 in
theorem w_hears : about1.hears theMethod below0 = true := by decide +kernel
set_option maxRecDepth 65536 in
theorem w_ripe : about1.ripe theMethod args0 below0 = true := by decide +kernel
theorem w_running : about1.status = .running := rfl
set_option maxRecDepth 65536 in
theorem w_room : about1.hasRoom e0.platform room_1 = true :=
  launch0.hasRoom_least _ room_1 (by decide +kernel) (by decide +kernel) (by decide +kernel) (by decide +kernel) (by decide +kernel) (by decide +kernel)
theorem allAtoms_all (ts : List Jvm.Cond) (a : Array Jvm.Value) (st : Jvm.State) : (allAtoms ts).before a st = ts.all (fun c => c.before a st) := by
  induction ts with
  | nil => rfl
  | cons c t ih =>
    show (Jvm.Cond.and c (allAtoms t)).before a st = _
    rw [Jvm.Cond.before_and, ih, List.all_cons]
def words1 : List Jvm.Cond := Jvm.Cond.code x code maxLocals ret :: tables_1
/-- a 'code' word, met by the world's own term for the bytes: nothing is compared byte by byte -/
theorem code_word {y : MethodName} {bytes : ByteArray} {mx : Nat} {rt : Option FieldType} {a : Array Value} {s : State} {m : MethodId} {meth : Method} {c : Code} (h1 : s.methodNamed? y = some m) (h2 : s.vm.method? m = some meth) (h3 : meth.code = some c) (h4 : c.code = bytes)
    (h5 : (c.maxLocals == mx && c.exceptionTable.isEmpty && decide (c.maxStack ≤ mostOperands) && decide (meth.sig.returnType = rt) && !meth.locks && decide (parseMethodDescriptor y.desc = some meth.sig)) = true) : (Jvm.Cond.code y bytes mx rt).before a s = true := by
  simp only [Bool.and_eq_true, beq_iff_eq, Bool.not_eq_true', decide_eq_true_eq] at h5
  obtain ⟨⟨⟨⟨⟨g1, g2⟩, g3⟩, g4⟩, g5⟩, g6⟩ := h5
  simp [Cond.before, Cond.holds, Cond.value, h1, h2, h3, h4, g1, g2, g3, g4, g5, g6]
def isCode : Jvm.Cond → Bool
  | .code _ _ _ _ => true
  | _ => false
theorem all_split {L : List Jvm.Cond} {P : Jvm.Cond → Bool} (h1 : L.all (fun c => isCode c || P c) = true) (h2 : ∀ c ∈ L.filter isCode, P c = true) : L.all P = true := by
  refine List.all_eq_true.mpr fun c hc => ?_
  have h := List.all_eq_true.mp h1 c hc
  rcases Bool.eq_false_or_eq_true (isCode c) with hi | hi
  · exact h2 c (List.mem_filter.mpr ⟨hc, hi⟩)
  · simpa [hi] using h
set_option maxRecDepth 65536 in
theorem w_c0 : (Jvm.Cond.code x code maxLocals ret).before args0 about1 = true := code_word (m := ⟨1, 2⟩) (meth := k1m2) (c := k1c2) (by decide +kernel) rfl rfl rfl (by decide +kernel)
set_option maxRecDepth 65536 in
theorem w_c1 : (Jvm.Cond.code ({ cls := "com/example/synod/synod/Decrees", name := "isNameCharacter", desc := "(I)Z" } : Jvm.MethodName) prog_35_method_6_code (1 : Nat) (Option.some Jvm.ClassFile.FieldType.boolean)).before args0 about1 = true := code_word (m := ⟨2, 1⟩) (meth := k2m1) (c := k2c1) (by decide +kernel) rfl rfl rfl (by decide +kernel)
set_option maxRecDepth 65536 in
theorem w_c2 : (Jvm.Cond.code ({ cls := "com/example/synod/synod/DecreesIsNameCharacterPinLaw", name := "reference", desc := "(I)Z" } : Jvm.MethodName) method_2_code (7 : Nat) (Option.some Jvm.ClassFile.FieldType.boolean)).before args0 about1 = true := code_word (m := ⟨1, 1⟩) (meth := k1m1) (c := k1c1) (by decide +kernel) rfl rfl rfl (by decide +kernel)
def codes1 : List Jvm.Cond := [Jvm.Cond.code x code maxLocals ret, Jvm.Cond.code ({ cls := "com/example/synod/synod/Decrees", name := "isNameCharacter", desc := "(I)Z" } : Jvm.MethodName) prog_35_method_6_code (1 : Nat) (Option.some Jvm.ClassFile.FieldType.boolean), Jvm.Cond.code ({ cls := "com/example/synod/synod/DecreesIsNameCharacterPinLaw", name := "reference", desc := "(I)Z" } : Jvm.MethodName) method_2_code (7 : Nat) (Option.some Jvm.ClassFile.FieldType.boolean)]
set_option maxRecDepth 65536 in
theorem codes_eq : words1.filter isCode = codes1 := rfl
theorem w_codes : ∀ c ∈ words1.filter isCode, c.before args0 about1 = true := by
  rw [codes_eq]
  intro c hc
  simp only [codes1, List.mem_cons, List.not_mem_nil, or_false] at hc
  rcases hc with rfl | rfl | rfl
  · exact w_c0
  · exact w_c1
  · exact w_c2
set_option maxRecDepth 65536 in
theorem w_t1 : words1.all (fun c => isCode c || c.before args0 about1) = true := by decide +kernel
theorem w_tables : (allAtoms (Jvm.Cond.code x code maxLocals ret :: tables_1)).before args0 about1 = true := by
  rw [allAtoms_all]
  show words1.all (fun c => c.before args0 about1) = true
  refine all_split ?_ w_codes
  rw [w_t1]
set_option maxRecDepth 65536 in
theorem w_case : (Jvm.Cond.and given_1 narrow_1).before args0 about1 = true := by decide +kernel
theorem w_applies : (headSpec (Jvm.Cond.code x code maxLocals ret :: tables_1) room_1).applies x e0.platform about1 = true :=
  (Spec.applies_iff w_frames).mpr ⟨w_running, w_runnable, w_alone, w_named, w_hears, w_ripe, w_room, w_tables⟩
theorem atStart : AtStart classFile x code maxLocals ret World_1 tables_1 room_1 Calls_1 rest_1 Pre_1 launch0 p0 e0 about1 theMethod args0 below0 :=
  ⟨lists_1, trivial, launch0.admits_env _ _ _, launch0.least_env, fairChoices_fair.cas, fairChoices_fair.clock, w_frames, w_args, w_heap, w_applies, trivial, trivial, w_case⟩
end start1
theorem witness_1 : WitnessClaimed_1 := ⟨start1.p0, start1.e0, start1.about1, start1.theMethod, start1.args0, start1.below0, start1.atStart⟩
end Jvm.Pilot.@@N@@
