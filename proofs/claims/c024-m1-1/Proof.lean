import JvmDerived
import JvmDerived.Pilot.@@N@@Statement
import JvmDerived.Pilot.@@N@@Code
set_option linter.unusedVariables false
set_option linter.unusedSimpArgs false
namespace Jvm.Pilot.@@N@@
open Jvm Jvm.ClassFile Sem Op Lib Jvm.Free Jvm.Stand Jvm.LawKit Jvm.RoadKit Bundle Jvm.Pilot.@@N@@.Jvm.D
def own_G (p : Program) (e : Env) (below : List Frame) (C : State → Outcome → Prop) (A : State) : Prop := ∃ (t : State) (o : Outcome), Steps p.tables e below A t ∧ C t o
theorem own_st {p : Program} {e : Env} {below : List Frame} {C : State → Outcome → Prop} {A B : State} (k : ∀ t, Steps p.tables e below B t → Steps p.tables e below A t) (h : own_G p e below C B) : own_G p e below C A := by
  obtain ⟨t, o, h1, h2⟩ := h
  exact ⟨t, o, k t h1, h2⟩
abbrev own_b (c : Bool) : Int32 := bif c then 1 else 0
theorem own_nb (c : Bool) : narrow .boolean (.int (own_b c)) = .int (own_b c) := by cases c <;> rfl
theorem own_b_ne {c : Bool} : (own_b c = 0) ↔ c = false := by cases c <;> decide
theorem own_staKeep {Z : State} {h h' : Heap} {C n d : String} {v : Value} (S : Sta Z h C n d v) (K : Keep h h' []) : Sta Z h' C n d v := by
  obtain ⟨cf, i, k, f, st, cell, h1, h2, h3, h4, h5, r⟩ := S
  exact ⟨cf, i, k, f, st, cell, h1, h2, h3, h4, K.2.1 _ _ h5 (by simp), r⟩
def own_m (aS aE : Addr) (p : Int32) : Addr := if p = 0 then aS else aE
theorem own_and1 (x : Int32) : x &&& 1 = 0 ∨ x &&& 1 = 1 := by
  have h : (x &&& 1).toBitVec = 0#32 ∨ (x &&& 1).toBitVec = 1#32 := by
    rw [Int32.toBitVec_and]
    have h3 : ((1 : Int32).toBitVec) = BitVec.twoPow 32 0 := by decide
    rw [h3, BitVec.and_twoPow]
    generalize x.toBitVec.getLsbD 0 = b
    cases b
    · left; decide
    · right; decide
  rcases h with h | h
  · left; exact Int32.toBitVec_inj.mp h
  · right; exact Int32.toBitVec_inj.mp h
def own_tab (i j : Int32) : Int32 := own_b (!(decide (i = 0) && decide (j = 0)))
def own_conf (aE a b : Addr) : Bool := decide (a = aE) || decide (b = aE)
theorem own_cf {aS aE : Addr} (hne : ¬ aS = aE) (x y : Int32) (hx : x = 0 ∨ x = 1) (hy : y = 0 ∨ y = 1) : own_b (own_conf aE (own_m aS aE x) (own_m aS aE y)) = own_tab x y := by
  rcases hx with rfl | rfl <;> rcases hy with rfl | rfl <;> simp [own_m, own_conf, own_tab, hne]
theorem own_tab_comm (x y : Int32) : own_tab x y = own_tab y x := by unfold own_tab; rw [Bool.and_comm]
theorem own_at (x y : Int32) (hx : x = 0 ∨ x = 1) (hy : y = 0 ∨ y = 1) : (¬ (x * 2 + y) < 0 ∧ (x * 2 + y) < 4) ∧ ([Value.int (nar .boolean 0), .int (nar .boolean 1), .int (nar .boolean 1), .int (nar .boolean 1)]).getD (x * 2 + y).toNatClampNeg (.int 0) = .int (own_tab x y) := by
  rcases hx with rfl | rfl <;> rcases hy with rfl | rfl <;> exact ⟨by decide, by decide⟩
theorem d1_0 : decode method_2_code 0 = .ok (.iload_n 0, 1) := by decide +kernel
theorem d1_1 : decode method_2_code 1 = .ok (.ifCond .ne 9, 3) := by decide +kernel
theorem d1_4 : decode method_2_code 4 = .ok (.getstatic 7, 3) := by decide +kernel
theorem d1_7 : decode method_2_code 7 = .ok (.goto 6, 3) := by decide +kernel
theorem d1_10 : decode method_2_code 10 = .ok (.getstatic 13, 3) := by decide +kernel
theorem d1_13 : decode method_2_code 13 = .ok (.areturn, 1) := by decide +kernel
theorem pn_1 : plainName "com/example/palimpsest/palimpsest/engine/ModeConflictsWithPinLaw" = true := by first | (simp [plainName, overriddenIn]; done) | decide +kernel
theorem ef_1 (m : MethodId) (x0 : Int32) : entryFrame m #[(.int x0)] 1 = mkF m 0 #[.val (.int x0)] [] := by first | (simp [entryFrame, mkF, argsToLocals, Value.category]; done) | rfl
def Q1 (Z : State) (p0 : Int32) (aS : Addr) (aE : Addr) (h0 : Heap) (n0 : Nat) (v : Option Value) (h : Heap) (L : List Loc) : Prop := v = some (.ref (own_m aS aE p0)) ∧ Fr n0 L ∧ h = h0
set_option maxRecDepth 65536 in
set_option maxHeartbeats 40000000 in
theorem rm1 (l : Launch) (Z : State) (a0 : Array Value) (hw : ∀ d ∈ tables_1, d.before a0 Z = true) (ws : List Jvm.Cond) (p0 : Int32) (aS : Addr) (aE : Addr) (h0 : Heap) (n0 : Nat) (Z0 : n0 ≤ h0.size) (SS : Sta Z h0 "com/example/palimpsest/palimpsest/engine/LockTable$Mode" "SHARED" "Lcom/example/palimpsest/palimpsest/engine/LockTable$Mode;" (.ref aS)) (SE : Sta Z h0 "com/example/palimpsest/palimpsest/engine/LockTable$Mode" "EXCLUSIVE" "Lcom/example/palimpsest/palimpsest/engine/LockTable$Mode;" (.ref aE)) :
    MetFree l (⟨"com/example/palimpsest/palimpsest/engine/ModeConflictsWithPinLaw", "mode", "(I)Lcom/example/palimpsest/palimpsest/engine/LockTable$Mode;"⟩ : MethodName) (head1 (Jvm.Cond.code (⟨"com/example/palimpsest/palimpsest/engine/ModeConflictsWithPinLaw", "mode", "(I)Lcom/example/palimpsest/palimpsest/engine/LockTable$Mode;"⟩ : MethodName) method_2_code 1 (some (.object "com/example/palimpsest/palimpsest/engine/LockTable$Mode")) :: ws) ({ frames := 0, cells := 0, slots := 0, locals := 0 } : Room)) (fun a U => a = #[(.int p0)] ∧ Z.Warmed39 U.vm ∧ U.heap = h0) (fun _ _ _ _ _ => True) (fun _ U o U' => ∃ v L, o = .returned v ∧ Q1 Z p0 aS aE h0 n0 v U'.heap L ∧ FrameEnd U o U' L ({ frames := 0, cells := 0, slots := 0, locals := 0 } : Room).cells ({ frames := 0, cells := 0, slots := 0, locals := 0 } : Room).slots) := by
  refine MetFree.of_bodySF (plainFor_of_name pn_1) hisR ?_
  intro p e s m args below meth c s₁ Bd hml0 hP hK
  obtain ⟨rfl, hZ, hh⟩ := hP
  have hx := Bd.exec
  have hby := Bd.bytes
  have hml : c.maxLocals = 1 := hml0
  have hown : s.vm.findClass "com/example/palimpsest/palimpsest/engine/ModeConflictsWithPinLaw" = some m.cls := findClass_of_methodNamed Bd.named
  have hnm := (name_of_methodNamed Bd.named Bd.method).1
  have X0 : Stand p l e ({ frames := 0, cells := 0, slots := 0, locals := 0 } : Room) s m #[(.int p0)] below meth c s₁ [] 0 0 := Stand.of_body Bd
  have e0 : s₁.heap = h0 := by rw [← hh, Bd.state]; rfl
  have N0 := Fr.nil n0
  show own_G p e below (fun (t : State) (o : Outcome) => t.status = .running ∧ Ended t below o ∧ ∃ v L, o = .returned v ∧ Q1 Z p0 aS aE h0 n0 v t.heap L ∧ FrameEnd s o t L ({ frames := 0, cells := 0, slots := 0, locals := 0 } : Room).cells ({ frames := 0, cells := 0, slots := 0, locals := 0 } : Room).slots) (s₁.setTop (entryFrame m #[(.int p0)] 1))
  rw [ef_1 m p0]
  refine own_st (B := s₁.setTop (mkF m 1 #[.val (.int p0)] [(.int p0)])) (fun t k => ?_) ?_
  · show Steps p.tables e below (s₁.setTop (mkF m 0 #[.val (.int p0)] [])) _
    refine XS.iloadN X0.here hx rfl (hb hby d1_0) rfl ?_
    exact k
  by_cases hc : p0 = (0 : Int32)
  · refine own_st (B := s₁.setTop (mkF m 4 #[.val (.int p0)] [])) (fun t k => ?_) ?_
    · show Steps p.tables e below (s₁.setTop (mkF m 1 #[.val (.int p0)] [(.int p0)])) _
      refine XS.ifNo X0.here hx rfl (hb hby d1_1) rfl ((if0 _ _).trans (teq hc).2) ?_
      exact k
    obtain ⟨T1, X1, e1, st1⟩ := getS2 X0 hx hZ hown (host := "") (Or.inl (hw _ (List.mem_of_getElem? (i := 4) rfl))) Via.refl e0 SS (g := (mkF m 4 #[.val (.int p0)] [])) rfl (hb hby d1_4)
    refine own_st (B := T1.setTop (mkF m 7 #[.val (.int p0)] [(.ref aS)])) (fun t k => st1 t k) ?_
    refine own_st (B := T1.setTop (mkF m 13 #[.val (.int p0)] [(.ref aS)])) (fun t k => ?_) ?_
    · show Steps p.tables e below (T1.setTop (mkF m 7 #[.val (.int p0)] [(.ref aS)])) _
      refine XS.goto X1.here hx rfl (pc0 := 7) (pc' := 13) rfl (hb hby d1_7) (by decide) (by decide) ?_
      exact k
    obtain ⟨fs, hr, hrun, hended, hW, hsame⟩ := X1.leave (v := some (.ref aS)) (fun h => by rw [Bd.returns] at h; cases h)
    refine ⟨_, _, ?_, hrun, hended, _, _, rfl, ?_, ⟨_, rfl⟩, hW, hsame.mono (by decide) (by decide)⟩
    · exact retOut X1 hx Bd.returns rfl (Or.inr (Or.inr (Or.inr (Or.inr ⟨rfl, rfl, rfl⟩)))) (hb hby d1_13) hr
    · show Q1 Z p0 aS aE h0 n0 _ T1.heap _
      rw [e1]
      exact ⟨by rw [own_m, if_pos hc], N0, rfl⟩
  · refine own_st (B := s₁.setTop (mkF m 10 #[.val (.int p0)] [])) (fun t k => ?_) ?_
    · show Steps p.tables e below (s₁.setTop (mkF m 1 #[.val (.int p0)] [(.int p0)])) _
      refine XS.ifYes X0.here hx rfl (pc0 := 1) (pc' := 10) rfl (hb hby d1_1) rfl ((if0 _ _).trans (feq hc).2) (by decide) (by decide) ?_
      exact k
    obtain ⟨T2, X2, e2, st2⟩ := getS2 X0 hx hZ hown (host := "") (Or.inl (hw _ (List.mem_of_getElem? (i := 7) rfl))) Via.refl e0 SE (g := (mkF m 10 #[.val (.int p0)] [])) rfl (hb hby d1_10)
    refine own_st (B := T2.setTop (mkF m 13 #[.val (.int p0)] [(.ref aE)])) (fun t k => st2 t k) ?_
    obtain ⟨fs, hr, hrun, hended, hW, hsame⟩ := X2.leave (v := some (.ref aE)) (fun h => by rw [Bd.returns] at h; cases h)
    refine ⟨_, _, ?_, hrun, hended, _, _, rfl, ?_, ⟨_, rfl⟩, hW, hsame.mono (by decide) (by decide)⟩
    · exact retOut X2 hx Bd.returns rfl (Or.inr (Or.inr (Or.inr (Or.inr ⟨rfl, rfl, rfl⟩)))) (hb hby d1_13) hr
    · show Q1 Z p0 aS aE h0 n0 _ T2.heap _
      rw [e2]
      exact ⟨by rw [own_m, if_neg hc], N0, rfl⟩
theorem d2_0 : decode prog_34_method_4_code 0 = .ok (.aload_n 0, 1) := by decide +kernel
theorem d2_1 : decode prog_34_method_4_code 1 = .ok (.getstatic 7, 3) := by decide +kernel
theorem d2_4 : decode prog_34_method_4_code 4 = .ok (.if_acmp .eq 10, 3) := by decide +kernel
theorem d2_7 : decode prog_34_method_4_code 7 = .ok (.aload_n 1, 1) := by decide +kernel
theorem d2_8 : decode prog_34_method_4_code 8 = .ok (.getstatic 7, 3) := by decide +kernel
theorem d2_11 : decode prog_34_method_4_code 11 = .ok (.if_acmp .ne 7, 3) := by decide +kernel
theorem d2_14 : decode prog_34_method_4_code 14 = .ok (.iconst 1, 1) := by decide +kernel
theorem d2_15 : decode prog_34_method_4_code 15 = .ok (.goto 4, 3) := by decide +kernel
theorem d2_18 : decode prog_34_method_4_code 18 = .ok (.iconst 0, 1) := by decide +kernel
theorem d2_19 : decode prog_34_method_4_code 19 = .ok (.ireturn, 1) := by decide +kernel
theorem pn_2 : plainName "com/example/palimpsest/palimpsest/engine/LockTable$Mode" = true := by first | (simp [plainName, overriddenIn]; done) | decide +kernel
theorem ef_2 (m : MethodId) (x0 : Addr) (x1 : Addr) : entryFrame m #[(.ref x0), (.ref x1)] 2 = mkF m 0 #[.val (.ref x0), .val (.ref x1)] [] := by first | (simp [entryFrame, mkF, argsToLocals, Value.category]; done) | rfl
def Q2 (Z : State) (b0 : Addr) (b1 : Addr) (aE : Addr) (h0 : Heap) (n0 : Nat) (v : Option Value) (h : Heap) (L : List Loc) : Prop := v = some (.int (own_b (own_conf aE b0 b1))) ∧ Fr n0 L ∧ h = h0
set_option maxRecDepth 65536 in
set_option maxHeartbeats 40000000 in
theorem rm2 (l : Launch) (Z : State) (a0 : Array Value) (hw : ∀ d ∈ tables_1, d.before a0 Z = true) (ws : List Jvm.Cond) (b0 : Addr) (b1 : Addr) (aE : Addr) (h0 : Heap) (n0 : Nat) (Z0 : n0 ≤ h0.size) (SE : Sta Z h0 "com/example/palimpsest/palimpsest/engine/LockTable$Mode" "EXCLUSIVE" "Lcom/example/palimpsest/palimpsest/engine/LockTable$Mode;" (.ref aE)) :
    MetFree l (⟨"com/example/palimpsest/palimpsest/engine/LockTable$Mode", "conflictsWith", "(Lcom/example/palimpsest/palimpsest/engine/LockTable$Mode;)Z"⟩ : MethodName) (head1 (Jvm.Cond.code (⟨"com/example/palimpsest/palimpsest/engine/LockTable$Mode", "conflictsWith", "(Lcom/example/palimpsest/palimpsest/engine/LockTable$Mode;)Z"⟩ : MethodName) prog_34_method_4_code 2 (some .boolean) :: ws) ({ frames := 0, cells := 0, slots := 0, locals := 0 } : Room)) (fun a U => a = #[(.ref b0), (.ref b1)] ∧ Z.Warmed39 U.vm ∧ U.heap = h0) (fun _ _ _ _ _ => True) (fun _ U o U' => ∃ v L, o = .returned v ∧ Q2 Z b0 b1 aE h0 n0 v U'.heap L ∧ FrameEnd U o U' L ({ frames := 0, cells := 0, slots := 0, locals := 0 } : Room).cells ({ frames := 0, cells := 0, slots := 0, locals := 0 } : Room).slots) := by
  refine MetFree.of_bodySF (plainFor_of_name pn_2) hisR ?_
  intro p e s m args below meth c s₁ Bd hml0 hP hK
  obtain ⟨rfl, hZ, hh⟩ := hP
  have hx := Bd.exec
  have hby := Bd.bytes
  have hml : c.maxLocals = 2 := hml0
  have hown : s.vm.findClass "com/example/palimpsest/palimpsest/engine/LockTable$Mode" = some m.cls := findClass_of_methodNamed Bd.named
  have hnm := (name_of_methodNamed Bd.named Bd.method).1
  have X0 : Stand p l e ({ frames := 0, cells := 0, slots := 0, locals := 0 } : Room) s m #[(.ref b0), (.ref b1)] below meth c s₁ [] 0 0 := Stand.of_body Bd
  have e0 : s₁.heap = h0 := by rw [← hh, Bd.state]; rfl
  have N0 := Fr.nil n0
  show own_G p e below (fun (t : State) (o : Outcome) => t.status = .running ∧ Ended t below o ∧ ∃ v L, o = .returned v ∧ Q2 Z b0 b1 aE h0 n0 v t.heap L ∧ FrameEnd s o t L ({ frames := 0, cells := 0, slots := 0, locals := 0 } : Room).cells ({ frames := 0, cells := 0, slots := 0, locals := 0 } : Room).slots) (s₁.setTop (entryFrame m #[(.ref b0), (.ref b1)] 2))
  rw [ef_2 m b0 b1]
  refine own_st (B := s₁.setTop (mkF m 1 #[.val (.ref b0), .val (.ref b1)] [(.ref b0)])) (fun t k => ?_) ?_
  · show Steps p.tables e below (s₁.setTop (mkF m 0 #[.val (.ref b0), .val (.ref b1)] [])) _
    refine XS.aloadN X0.here hx rfl (hb hby d2_0) rfl rfl ?_
    exact k
  obtain ⟨T1, X1, e1, st1⟩ := getS2 X0 hx hZ hown (host := "") (Or.inl (hw _ (List.mem_of_getElem? (i := 15) rfl))) Via.refl e0 SE (g := (mkF m 1 #[.val (.ref b0), .val (.ref b1)] [(.ref b0)])) rfl (hb hby d2_1)
  refine own_st (B := T1.setTop (mkF m 4 #[.val (.ref b0), .val (.ref b1)] [(.ref aE), (.ref b0)])) (fun t k => st1 t k) ?_
  by_cases h4 : b0 = aE
  · refine own_st (B := T1.setTop (mkF m 19 #[.val (.ref b0), .val (.ref b1)] [(.int (1 : Int32))])) (fun t k => ?_) ?_
    · show Steps p.tables e below (T1.setTop (mkF m 4 #[.val (.ref b0), .val (.ref b1)] [(.ref aE), (.ref b0)])) _
      refine Jvm.RoadKit.acmp (g := (mkF m 4 #[.val (.ref b0), .val (.ref b1)] [(.ref aE), (.ref b0)])) X1 hx rfl rfl rfl (pc0 := 4) (pc' := 14) (same := true) rfl (hb hby d2_4) rfl (decide_eq_true (congrArg Value.ref h4)) (by decide) (by decide) ?_
      show Steps p.tables e below (T1.setTop (mkF m 14 #[.val (.ref b0), .val (.ref b1)] [])) _
      refine XS.iconst X1.here hx rfl (hb hby d2_14) ?_
      show Steps p.tables e below (T1.setTop (mkF m 15 #[.val (.ref b0), .val (.ref b1)] [(.int (1 : Int32))])) _
      refine XS.goto X1.here hx rfl (pc0 := 15) (pc' := 19) rfl (hb hby d2_15) (by decide) (by decide) ?_
      exact k
    obtain ⟨fs, hr, hrun, hended, hW, hsame⟩ := X1.leave (v := some (.int (1 : Int32))) (fun h => by rw [Bd.returns] at h; cases h)
    refine ⟨_, _, ?_, hrun, hended, _, _, rfl, ?_, ⟨_, rfl⟩, hW, hsame.mono (by decide) (by decide)⟩
    · exact retOut X1 hx Bd.returns rfl (Or.inl ⟨rfl, by simp, _, rfl⟩) (hb hby d2_19) hr
    · show Q2 Z b0 b1 aE h0 n0 _ T1.heap _
      rw [e1]
      exact ⟨by simp [own_conf, h4], N0, rfl⟩
  · refine own_st (B := T1.setTop (mkF m 8 #[.val (.ref b0), .val (.ref b1)] [(.ref b1)])) (fun t k => ?_) ?_
    · show Steps p.tables e below (T1.setTop (mkF m 4 #[.val (.ref b0), .val (.ref b1)] [(.ref aE), (.ref b0)])) _
      refine Jvm.RoadKit.acmp (g := (mkF m 4 #[.val (.ref b0), .val (.ref b1)] [(.ref aE), (.ref b0)])) X1 hx rfl rfl rfl (pc0 := 4) (pc' := 7) (same := false) rfl (hb hby d2_4) rfl (decide_eq_false fun q => h4 (Value.ref.inj q)) (by decide) (by decide) ?_
      show Steps p.tables e below (T1.setTop (mkF m 7 #[.val (.ref b0), .val (.ref b1)] [])) _
      refine XS.aloadN X1.here hx rfl (hb hby d2_7) rfl rfl ?_
      exact k
    obtain ⟨T2, X2, e2, st2⟩ := getS2 X1 hx hZ hown (host := "") (Or.inl (hw _ (List.mem_of_getElem? (i := 15) rfl))) Via.refl e1 SE (g := (mkF m 8 #[.val (.ref b0), .val (.ref b1)] [(.ref b1)])) rfl (hb hby d2_8)
    refine own_st (B := T2.setTop (mkF m 11 #[.val (.ref b0), .val (.ref b1)] [(.ref aE), (.ref b1)])) (fun t k => st2 t k) ?_
    by_cases h11 : b1 = aE
    · refine own_st (B := T2.setTop (mkF m 19 #[.val (.ref b0), .val (.ref b1)] [(.int (1 : Int32))])) (fun t k => ?_) ?_
      · show Steps p.tables e below (T2.setTop (mkF m 11 #[.val (.ref b0), .val (.ref b1)] [(.ref aE), (.ref b1)])) _
        refine Jvm.RoadKit.acmp (g := (mkF m 11 #[.val (.ref b0), .val (.ref b1)] [(.ref aE), (.ref b1)])) X2 hx rfl rfl rfl (pc0 := 11) (pc' := 14) (same := true) rfl (hb hby d2_11) rfl (decide_eq_true (congrArg Value.ref h11)) (by decide) (by decide) ?_
        show Steps p.tables e below (T2.setTop (mkF m 14 #[.val (.ref b0), .val (.ref b1)] [])) _
        refine XS.iconst X2.here hx rfl (hb hby d2_14) ?_
        show Steps p.tables e below (T2.setTop (mkF m 15 #[.val (.ref b0), .val (.ref b1)] [(.int (1 : Int32))])) _
        refine XS.goto X2.here hx rfl (pc0 := 15) (pc' := 19) rfl (hb hby d2_15) (by decide) (by decide) ?_
        exact k
      obtain ⟨fs, hr, hrun, hended, hW, hsame⟩ := X2.leave (v := some (.int (1 : Int32))) (fun h => by rw [Bd.returns] at h; cases h)
      refine ⟨_, _, ?_, hrun, hended, _, _, rfl, ?_, ⟨_, rfl⟩, hW, hsame.mono (by decide) (by decide)⟩
      · exact retOut X2 hx Bd.returns rfl (Or.inl ⟨rfl, by simp, _, rfl⟩) (hb hby d2_19) hr
      · show Q2 Z b0 b1 aE h0 n0 _ T2.heap _
        rw [e2]
        exact ⟨by simp [own_conf, h4, h11], N0, rfl⟩
    · refine own_st (B := T2.setTop (mkF m 19 #[.val (.ref b0), .val (.ref b1)] [(.int (0 : Int32))])) (fun t k => ?_) ?_
      · show Steps p.tables e below (T2.setTop (mkF m 11 #[.val (.ref b0), .val (.ref b1)] [(.ref aE), (.ref b1)])) _
        refine Jvm.RoadKit.acmp (g := (mkF m 11 #[.val (.ref b0), .val (.ref b1)] [(.ref aE), (.ref b1)])) X2 hx rfl rfl rfl (pc0 := 11) (pc' := 18) (same := false) rfl (hb hby d2_11) rfl (decide_eq_false fun q => h11 (Value.ref.inj q)) (by decide) (by decide) ?_
        show Steps p.tables e below (T2.setTop (mkF m 18 #[.val (.ref b0), .val (.ref b1)] [])) _
        refine XS.iconst X2.here hx rfl (hb hby d2_18) ?_
        exact k
      obtain ⟨fs, hr, hrun, hended, hW, hsame⟩ := X2.leave (v := some (.int (0 : Int32))) (fun h => by rw [Bd.returns] at h; cases h)
      refine ⟨_, _, ?_, hrun, hended, _, _, rfl, ?_, ⟨_, rfl⟩, hW, hsame.mono (by decide) (by decide)⟩
      · exact retOut X2 hx Bd.returns rfl (Or.inl ⟨rfl, by simp, _, rfl⟩) (hb hby d2_19) hr
      · show Q2 Z b0 b1 aE h0 n0 _ T2.heap _
        rw [e2]
        exact ⟨by simp [own_conf, h4, h11], N0, rfl⟩
theorem ef_0 (m : MethodId) (x0 : Int32) (x1 : Int32) : entryFrame m #[(.int x0), (.int x1)] maxLocals = mkF m 0 #[.val (.int x0), .val (.int x1), .unset, .unset, .unset, .unset, .unset, .unset, .unset, .unset] [] := by first | (simp [entryFrame, mkF, argsToLocals, Value.category, maxLocals]; done) | rfl
def Q0 (Z : State) (p0 : Int32) (p1 : Int32) (aS : Addr) (aE : Addr) (h0 : Heap) (n0 : Nat) (v : Option Value) (h : Heap) (L : List Loc) : Prop := v = some (.int (1 : Int32)) ∧ Fr n0 L
theorem pd_0 : parseMethodDescriptor "(I)Lcom/example/palimpsest/palimpsest/engine/LockTable$Mode;" = some ⟨[.int], some (.object "com/example/palimpsest/palimpsest/engine/LockTable$Mode")⟩ := by decide +kernel
theorem pd_1 : parseMethodDescriptor "(Lcom/example/palimpsest/palimpsest/engine/LockTable$Mode;)Z" = some ⟨[(.object "com/example/palimpsest/palimpsest/engine/LockTable$Mode")], some .boolean⟩ := by decide +kernel
set_option maxRecDepth 65536 in
set_option maxHeartbeats 40000000 in
theorem rm0 (l : Launch) (Z : State) (a0 : Array Value) (hw : ∀ d ∈ tables_1, d.before a0 Z = true) (ws : List Jvm.Cond) (p0 : Int32) (p1 : Int32) (aS : Addr) (aE : Addr) (h0 : Heap) (n0 : Nat) (Z0 : n0 ≤ h0.size) (SS : Sta Z h0 "com/example/palimpsest/palimpsest/engine/LockTable$Mode" "SHARED" "Lcom/example/palimpsest/palimpsest/engine/LockTable$Mode;" (.ref aS)) (SE : Sta Z h0 "com/example/palimpsest/palimpsest/engine/LockTable$Mode" "EXCLUSIVE" "Lcom/example/palimpsest/palimpsest/engine/LockTable$Mode;" (.ref aE)) (XS_ : Exa Z h0 aS "com/example/palimpsest/palimpsest/engine/LockTable$Mode") (XE_ : Exa Z h0 aE "com/example/palimpsest/palimpsest/engine/LockTable$Mode") (hne : ¬ aS = aE) :
    MetFree l x (head1 (Jvm.Cond.code x code maxLocals ret :: ws) room_1) (fun a U => a = #[(.int p0), (.int p1)] ∧ Z.Warmed39 U.vm ∧ U.heap = h0) (fun _ _ _ _ _ => True) (fun _ U o U' => ∃ v L, o = .returned v ∧ Q0 Z p0 p1 aS aE h0 n0 v U'.heap L ∧ FrameEnd U o U' L room_1.cells room_1.slots) := by
  refine MetFree.of_bodySF (plainFor_of_name pn_1) hisR ?_
  intro p e s m args below meth c s₁ Bd hml0 hP hK
  obtain ⟨rfl, hZ, hh⟩ := hP
  have hx := Bd.exec
  have hby := Bd.bytes
  have hml : c.maxLocals = 10 := hml0
  have hown : s.vm.findClass "com/example/palimpsest/palimpsest/engine/ModeConflictsWithPinLaw" = some m.cls := findClass_of_methodNamed Bd.named
  have hnm := (name_of_methodNamed Bd.named Bd.method).1
  have X0 : Stand p l e room_1 s m #[(.int p0), (.int p1)] below meth c s₁ [] 0 0 := Stand.of_body Bd
  have e0 : s₁.heap = h0 := by rw [← hh, Bd.state]; rfl
  have N0 := Fr.nil n0
  show own_G p e below (fun (t : State) (o : Outcome) => t.status = .running ∧ Ended t below o ∧ ∃ v L, o = .returned v ∧ Q0 Z p0 p1 aS aE h0 n0 v t.heap L ∧ FrameEnd s o t L room_1.cells room_1.slots) (s₁.setTop (entryFrame m #[(.int p0), (.int p1)] maxLocals))
  rw [ef_0 m p0 p1]
  refine own_st (B := s₁.setTop (mkF m 8 #[.val (.int p0), .val (.int p1), .val (.int (p0 &&& (1 : Int32))), .val (.int (p1 &&& (1 : Int32))), .unset, .unset, .unset, .unset, .unset, .unset] [])) (fun t k => ?_) ?_
  · show Steps p.tables e below (s₁.setTop (mkF m 0 #[.val (.int p0), .val (.int p1), .unset, .unset, .unset, .unset, .unset, .unset, .unset, .unset] [])) _
    refine XS.iloadN X0.here hx rfl (hb hby at_0) rfl ?_
    show Steps p.tables e below (s₁.setTop (mkF m 1 #[.val (.int p0), .val (.int p1), .unset, .unset, .unset, .unset, .unset, .unset, .unset, .unset] [(.int p0)])) _
    refine XS.iconst X0.here hx rfl (hb hby at_1) ?_
    show Steps p.tables e below (s₁.setTop (mkF m 2 #[.val (.int p0), .val (.int p1), .unset, .unset, .unset, .unset, .unset, .unset, .unset, .unset] [(.int (1 : Int32)), (.int p0)])) _
    refine XS.iand X0.here hx rfl (hb hby at_2) rfl ?_
    show Steps p.tables e below (s₁.setTop (mkF m 3 #[.val (.int p0), .val (.int p1), .unset, .unset, .unset, .unset, .unset, .unset, .unset, .unset] [(.int (p0 &&& (1 : Int32)))])) _
    refine XS.istoreN X0.here hx rfl (hb hby at_3) rfl (l' := #[.val (.int p0), .val (.int p1), .val (.int (p0 &&& (1 : Int32))), .unset, .unset, .unset, .unset, .unset, .unset, .unset]) rfl ?_
    show Steps p.tables e below (s₁.setTop (mkF m 4 #[.val (.int p0), .val (.int p1), .val (.int (p0 &&& (1 : Int32))), .unset, .unset, .unset, .unset, .unset, .unset, .unset] [])) _
    refine XS.iloadN X0.here hx rfl (hb hby at_4) rfl ?_
    show Steps p.tables e below (s₁.setTop (mkF m 5 #[.val (.int p0), .val (.int p1), .val (.int (p0 &&& (1 : Int32))), .unset, .unset, .unset, .unset, .unset, .unset, .unset] [(.int p1)])) _
    refine XS.iconst X0.here hx rfl (hb hby at_5) ?_
    show Steps p.tables e below (s₁.setTop (mkF m 6 #[.val (.int p0), .val (.int p1), .val (.int (p0 &&& (1 : Int32))), .unset, .unset, .unset, .unset, .unset, .unset, .unset] [(.int (1 : Int32)), (.int p1)])) _
    refine XS.iand X0.here hx rfl (hb hby at_6) rfl ?_
    show Steps p.tables e below (s₁.setTop (mkF m 7 #[.val (.int p0), .val (.int p1), .val (.int (p0 &&& (1 : Int32))), .unset, .unset, .unset, .unset, .unset, .unset, .unset] [(.int (p1 &&& (1 : Int32)))])) _
    refine XS.istoreN X0.here hx rfl (hb hby at_7) rfl (l' := #[.val (.int p0), .val (.int p1), .val (.int (p0 &&& (1 : Int32))), .val (.int (p1 &&& (1 : Int32))), .unset, .unset, .unset, .unset, .unset, .unset]) rfl ?_
    exact k
  generalize hi : (p0 &&& (1 : Int32)) = i
  generalize hj : (p1 &&& (1 : Int32)) = j
  have hi' : i = 0 ∨ i = 1 := by rw [← hi]; exact own_and1 p0
  have hj' : j = 0 ∨ j = 1 := by rw [← hj]; exact own_and1 p1
  refine own_st (B := s₁.setTop (mkF m 9 #[.val (.int p0), .val (.int p1), .val (.int i), .val (.int j), .unset, .unset, .unset, .unset, .unset, .unset] [(.int i)])) (fun t k => ?_) ?_
  · show Steps p.tables e below (s₁.setTop (mkF m 8 #[.val (.int p0), .val (.int p1), .val (.int i), .val (.int j), .unset, .unset, .unset, .unset, .unset, .unset] [])) _
    refine XS.iloadN X0.here hx rfl (hb hby at_8) rfl ?_
    exact k
  obtain ⟨_, _, ⟨T1, L1, k1, n1⟩, -, X1, ⟨Lc1, hQ1, l1, y1, z1⟩, st1⟩ := Jvm.LawKit.callS X0 hx (y := (⟨"com/example/palimpsest/palimpsest/engine/ModeConflictsWithPinLaw", "mode", "(I)Lcom/example/palimpsest/palimpsest/engine/LockTable$Mode;"⟩ : MethodName)) hown (mvT hZ (hw _ (List.mem_of_getElem? (i := 0) rfl))) (mvT hZ (hw _ (List.mem_of_getElem? (i := 1) rfl))) (mvT hZ (hw _ (List.mem_of_getElem? (i := 2) rfl))) (mvT hZ (hw _ (List.mem_of_getElem? (i := 3) rfl))) (by decide) (backOf (W := 0) (rm1 l Z a0 hw [] i aS aE h0 n0 Z0 SS SE) hZ (hw _ (List.mem_of_getElem? (i := 3) rfl)) (hw _ (List.mem_of_getElem? (i := 2) rfl)) (by decide) (by decide)) (g := (mkF m 9 #[.val (.int p0), .val (.int p1), .val (.int i), .val (.int j), .unset, .unset, .unset, .unset, .unset, .unset] [(.int i)])) rfl (by rw [hml]; rfl) (argsL := [(.int i)]) (rest := []) (lenOf pd_0 rfl) rfl (by show 2 * 0 + _ ≤ _; exact Nat.le_of_eq rfl) (hb hby at_9) (fun _ _ => ⟨rfl, e0, (by decide : 0 + 0 ≤ _), (by decide : 0 + 0 ≤ _)⟩)
  dsimp only [Pt.U, Pt.locs, Pt.cells, Pt.slots] at X1 l1 y1 z1 st1 hQ1
  subst l1 y1 z1
  obtain ⟨rfl, N1q, e1⟩ := hQ1
  have N1 := Fr.app N0 N1q
  refine own_st (B := T1.setTop (mkF m 12 #[.val (.int p0), .val (.int p1), .val (.int i), .val (.int j), .unset, .unset, .unset, .unset, .unset, .unset] [(.ref (own_m aS aE i))])) (fun t k => st1 _ k) ?_
  refine own_st (B := T1.setTop (mkF m 15 #[.val (.int p0), .val (.int p1), .val (.int i), .val (.int j), .val (.ref (own_m aS aE i)), .unset, .unset, .unset, .unset, .unset] [(.int j)])) (fun t k => ?_) ?_
  · show Steps p.tables e below (T1.setTop (mkF m 12 #[.val (.int p0), .val (.int p1), .val (.int i), .val (.int j), .unset, .unset, .unset, .unset, .unset, .unset] [(.ref (own_m aS aE i))])) _
    refine XS.astore X1.here hx rfl (hb hby at_12) rfl rfl (l' := #[.val (.int p0), .val (.int p1), .val (.int i), .val (.int j), .val (.ref (own_m aS aE i)), .unset, .unset, .unset, .unset, .unset]) rfl ?_
    show Steps p.tables e below (T1.setTop (mkF m 14 #[.val (.int p0), .val (.int p1), .val (.int i), .val (.int j), .val (.ref (own_m aS aE i)), .unset, .unset, .unset, .unset, .unset] [])) _
    refine XS.iloadN X1.here hx rfl (hb hby at_14) rfl ?_
    exact k
  obtain ⟨_, _, ⟨T2, L2, k2, n2⟩, -, X2, ⟨Lc2, hQ2, l2, y2, z2⟩, st2⟩ := Jvm.LawKit.callS X1 hx (y := (⟨"com/example/palimpsest/palimpsest/engine/ModeConflictsWithPinLaw", "mode", "(I)Lcom/example/palimpsest/palimpsest/engine/LockTable$Mode;"⟩ : MethodName)) hown (mvT hZ (hw _ (List.mem_of_getElem? (i := 0) rfl))) (mvT hZ (hw _ (List.mem_of_getElem? (i := 1) rfl))) (mvT hZ (hw _ (List.mem_of_getElem? (i := 2) rfl))) (mvT hZ (hw _ (List.mem_of_getElem? (i := 3) rfl))) (by decide) (backOf (W := 0) (rm1 l Z a0 hw [] j aS aE h0 n0 Z0 SS SE) hZ (hw _ (List.mem_of_getElem? (i := 3) rfl)) (hw _ (List.mem_of_getElem? (i := 2) rfl)) (by decide) (by decide)) (g := (mkF m 15 #[.val (.int p0), .val (.int p1), .val (.int i), .val (.int j), .val (.ref (own_m aS aE i)), .unset, .unset, .unset, .unset, .unset] [(.int j)])) rfl (by rw [hml]; rfl) (argsL := [(.int j)]) (rest := []) (lenOf pd_0 rfl) rfl (by show 2 * 0 + _ ≤ _; exact Nat.le_of_eq rfl) (hb hby at_15) (fun _ _ => ⟨rfl, e1, (by decide : 0 + 0 ≤ _), (by decide : 0 + 0 ≤ _)⟩)
  dsimp only [Pt.U, Pt.locs, Pt.cells, Pt.slots] at X2 l2 y2 z2 st2 hQ2
  subst l2 y2 z2
  obtain ⟨rfl, N2q, e2⟩ := hQ2
  have N2 := Fr.app N1 N2q
  refine own_st (B := T2.setTop (mkF m 18 #[.val (.int p0), .val (.int p1), .val (.int i), .val (.int j), .val (.ref (own_m aS aE i)), .unset, .unset, .unset, .unset, .unset] [(.ref (own_m aS aE j))])) (fun t k => st2 _ k) ?_
  refine own_st (B := T2.setTop (mkF m 21 #[.val (.int p0), .val (.int p1), .val (.int i), .val (.int j), .val (.ref (own_m aS aE i)), .val (.ref (own_m aS aE j)), .unset, .unset, .unset, .unset] [(.int (4 : Int32))])) (fun t k => ?_) ?_
  · show Steps p.tables e below (T2.setTop (mkF m 18 #[.val (.int p0), .val (.int p1), .val (.int i), .val (.int j), .val (.ref (own_m aS aE i)), .unset, .unset, .unset, .unset, .unset] [(.ref (own_m aS aE j))])) _
    refine XS.astore X2.here hx rfl (hb hby at_18) rfl rfl (l' := #[.val (.int p0), .val (.int p1), .val (.int i), .val (.int j), .val (.ref (own_m aS aE i)), .val (.ref (own_m aS aE j)), .unset, .unset, .unset, .unset]) rfl ?_
    show Steps p.tables e below (T2.setTop (mkF m 20 #[.val (.int p0), .val (.int p1), .val (.int i), .val (.int j), .val (.ref (own_m aS aE i)), .val (.ref (own_m aS aE j)), .unset, .unset, .unset, .unset] [])) _
    refine XS.iconst X2.here hx rfl (hb hby at_20) ?_
    exact k
  have X0_ : Exa Z h0 (own_m aS aE i) "com/example/palimpsest/palimpsest/engine/LockTable$Mode" := by unfold own_m; split <;> assumption
  have X1_ : Exa Z h0 (own_m aS aE j) "com/example/palimpsest/palimpsest/engine/LockTable$Mode" := by unfold own_m; split <;> assumption
  obtain ⟨T3, h3, k3, X3, e3, E3, A3, st3⟩ := newP X2 hx hZ (hw _ (List.mem_of_getElem? (i := 9) rfl)) e2 (g := (mkF m 21 #[.val (.int p0), .val (.int p1), .val (.int i), .val (.int j), .val (.ref (own_m aS aE i)), .val (.ref (own_m aS aE j)), .unset, .unset, .unset, .unset] [(.int (4 : Int32))])) rfl (hb hby at_21) rfl (by decide) (cap := 4) (by decide) (by decide) (by decide) (by decide)
  obtain ⟨o, g3⟩ : ∃ z, z = h0.size := ⟨_, rfl⟩
  rw [← g3] at A3 st3
  have V3 : Arv Z h3 o k3 .boolean (4 : Int32) [(.int (0 : Int32)), (.int (0 : Int32)), (.int (0 : Int32)), (.int (0 : Int32))] (.int (0 : Int32)) := (Arv.new A3 (by decide)).pad (pad_rep [] (.int (0 : Int32)) 4)
  refine own_st (B := T3.setTop (mkF m 23 #[.val (.int p0), .val (.int p1), .val (.int i), .val (.int j), .val (.ref (own_m aS aE i)), .val (.ref (own_m aS aE j)), .unset, .unset, .unset, .unset] [(.ref o)])) (fun t k => st3 t k) ?_
  have go : n0 ≤ o := Nat.le_trans Z0 (Nat.le_of_eq g3.symm)
  have so : h0.size ≤ o := Nat.le_of_eq g3.symm
  have K0 : Keep h0 h3 [] := (Keep.refl h0 []).ext E3
  refine own_st (B := T3.setTop (mkF m 26 #[.val (.int p0), .val (.int p1), .val (.int i), .val (.int j), .val (.ref (own_m aS aE i)), .val (.ref (own_m aS aE j)), .unset, .unset, .unset, .unset] [(.int (0 : Int32)), (.int (0 : Int32)), (.ref o), (.ref o)])) (fun t k => ?_) ?_
  · show Steps p.tables e below (T3.setTop (mkF m 23 #[.val (.int p0), .val (.int p1), .val (.int i), .val (.int j), .val (.ref (own_m aS aE i)), .val (.ref (own_m aS aE j)), .unset, .unset, .unset, .unset] [(.ref o)])) _
    refine XS.dup X3.here hx rfl (hb hby at_23) rfl rfl ?_
    show Steps p.tables e below (T3.setTop (mkF m 24 #[.val (.int p0), .val (.int p1), .val (.int i), .val (.int j), .val (.ref (own_m aS aE i)), .val (.ref (own_m aS aE j)), .unset, .unset, .unset, .unset] [(.ref o), (.ref o)])) _
    refine XS.iconst X3.here hx rfl (hb hby at_24) ?_
    show Steps p.tables e below (T3.setTop (mkF m 25 #[.val (.int p0), .val (.int p1), .val (.int i), .val (.int j), .val (.ref (own_m aS aE i)), .val (.ref (own_m aS aE j)), .unset, .unset, .unset, .unset] [(.int (0 : Int32)), (.ref o), (.ref o)])) _
    refine XS.iconst X3.here hx rfl (hb hby at_25) ?_
    exact k
  obtain ⟨cl4, Ar4, q4, S4, M4, H4, G4⟩ := V3
  have hin4 : ¬ ((0 : Int32) < 0 ∨ cl4.slots.size ≤ ((0 : Int32)).toNatClampNeg) := inb_of S4 ⟨by decide, by decide⟩
  obtain ⟨T4, h4, X4, e4, W4, st4⟩ := stZ X3 hx hZ e3 Ar4 (j := (0 : Int32)) hin4 (g := (mkF m 26 #[.val (.int p0), .val (.int p1), .val (.int i), .val (.int j), .val (.ref (own_m aS aE i)), .val (.ref (own_m aS aE j)), .unset, .unset, .unset, .unset] [(.int (0 : Int32)), (.int (0 : Int32)), (.ref o), (.ref o)])) rfl rfl (hb hby at_26)
  have V4 : Arv Z h4 o k3 .boolean (4 : Int32) [(.int (nar .boolean (0 : Int32))), (.int (0 : Int32)), (.int (0 : Int32)), (.int (0 : Int32))] (.int (0 : Int32)) := Arv.set Ar4 q4 S4 M4 H4 G4 (fits_nar_bool _) W4 0 rfl (Nat.le_of_ble_eq_true rfl)
  refine own_st (B := T4.setTop (mkF m 27 #[.val (.int p0), .val (.int p1), .val (.int i), .val (.int j), .val (.ref (own_m aS aE i)), .val (.ref (own_m aS aE j)), .unset, .unset, .unset, .unset] [(.ref o)])) (fun t k => st4 t k) ?_
  have N4 := Fr.snoc X4 N2 go
  have Kb4 : Keep h0 h4 [] := K0.wr W4 (Or.inr so)
  refine own_st (B := T4.setTop (mkF m 30 #[.val (.int p0), .val (.int p1), .val (.int i), .val (.int j), .val (.ref (own_m aS aE i)), .val (.ref (own_m aS aE j)), .unset, .unset, .unset, .unset] [(.int (1 : Int32)), (.int (1 : Int32)), (.ref o), (.ref o)])) (fun t k => ?_) ?_
  · show Steps p.tables e below (T4.setTop (mkF m 27 #[.val (.int p0), .val (.int p1), .val (.int i), .val (.int j), .val (.ref (own_m aS aE i)), .val (.ref (own_m aS aE j)), .unset, .unset, .unset, .unset] [(.ref o)])) _
    refine XS.dup X4.here hx rfl (hb hby at_27) rfl rfl ?_
    show Steps p.tables e below (T4.setTop (mkF m 28 #[.val (.int p0), .val (.int p1), .val (.int i), .val (.int j), .val (.ref (own_m aS aE i)), .val (.ref (own_m aS aE j)), .unset, .unset, .unset, .unset] [(.ref o), (.ref o)])) _
    refine XS.iconst X4.here hx rfl (hb hby at_28) ?_
    show Steps p.tables e below (T4.setTop (mkF m 29 #[.val (.int p0), .val (.int p1), .val (.int i), .val (.int j), .val (.ref (own_m aS aE i)), .val (.ref (own_m aS aE j)), .unset, .unset, .unset, .unset] [(.int (1 : Int32)), (.ref o), (.ref o)])) _
    refine XS.iconst X4.here hx rfl (hb hby at_29) ?_
    exact k
  obtain ⟨cl5, Ar5, q5, S5, M5, H5, G5⟩ := V4
  have hin5 : ¬ ((1 : Int32) < 0 ∨ cl5.slots.size ≤ ((1 : Int32)).toNatClampNeg) := inb_of S5 ⟨by decide, by decide⟩
  obtain ⟨T5, h5, X5, e5, W5, st5⟩ := stZ X4 hx hZ e4 Ar5 (j := (1 : Int32)) hin5 (g := (mkF m 30 #[.val (.int p0), .val (.int p1), .val (.int i), .val (.int j), .val (.ref (own_m aS aE i)), .val (.ref (own_m aS aE j)), .unset, .unset, .unset, .unset] [(.int (1 : Int32)), (.int (1 : Int32)), (.ref o), (.ref o)])) rfl rfl (hb hby at_30)
  have V5 : Arv Z h5 o k3 .boolean (4 : Int32) [(.int (nar .boolean (0 : Int32))), (.int (nar .boolean (1 : Int32))), (.int (0 : Int32)), (.int (0 : Int32))] (.int (0 : Int32)) := Arv.set Ar5 q5 S5 M5 H5 G5 (fits_nar_bool _) W5 1 rfl (Nat.le_of_ble_eq_true rfl)
  refine own_st (B := T5.setTop (mkF m 31 #[.val (.int p0), .val (.int p1), .val (.int i), .val (.int j), .val (.ref (own_m aS aE i)), .val (.ref (own_m aS aE j)), .unset, .unset, .unset, .unset] [(.ref o)])) (fun t k => st5 t k) ?_
  have N5 := Fr.snoc X5 N4 go
  have Kb5 : Keep h0 h5 [] := Kb4.wr W5 (Or.inr so)
  refine own_st (B := T5.setTop (mkF m 34 #[.val (.int p0), .val (.int p1), .val (.int i), .val (.int j), .val (.ref (own_m aS aE i)), .val (.ref (own_m aS aE j)), .unset, .unset, .unset, .unset] [(.int (1 : Int32)), (.int (2 : Int32)), (.ref o), (.ref o)])) (fun t k => ?_) ?_
  · show Steps p.tables e below (T5.setTop (mkF m 31 #[.val (.int p0), .val (.int p1), .val (.int i), .val (.int j), .val (.ref (own_m aS aE i)), .val (.ref (own_m aS aE j)), .unset, .unset, .unset, .unset] [(.ref o)])) _
    refine XS.dup X5.here hx rfl (hb hby at_31) rfl rfl ?_
    show Steps p.tables e below (T5.setTop (mkF m 32 #[.val (.int p0), .val (.int p1), .val (.int i), .val (.int j), .val (.ref (own_m aS aE i)), .val (.ref (own_m aS aE j)), .unset, .unset, .unset, .unset] [(.ref o), (.ref o)])) _
    refine XS.iconst X5.here hx rfl (hb hby at_32) ?_
    show Steps p.tables e below (T5.setTop (mkF m 33 #[.val (.int p0), .val (.int p1), .val (.int i), .val (.int j), .val (.ref (own_m aS aE i)), .val (.ref (own_m aS aE j)), .unset, .unset, .unset, .unset] [(.int (2 : Int32)), (.ref o), (.ref o)])) _
    refine XS.iconst X5.here hx rfl (hb hby at_33) ?_
    exact k
  obtain ⟨cl6, Ar6, q6, S6, M6, H6, G6⟩ := V5
  have hin6 : ¬ ((2 : Int32) < 0 ∨ cl6.slots.size ≤ ((2 : Int32)).toNatClampNeg) := inb_of S6 ⟨by decide, by decide⟩
  obtain ⟨T6, h6, X6, e6, W6, st6⟩ := stZ X5 hx hZ e5 Ar6 (j := (2 : Int32)) hin6 (g := (mkF m 34 #[.val (.int p0), .val (.int p1), .val (.int i), .val (.int j), .val (.ref (own_m aS aE i)), .val (.ref (own_m aS aE j)), .unset, .unset, .unset, .unset] [(.int (1 : Int32)), (.int (2 : Int32)), (.ref o), (.ref o)])) rfl rfl (hb hby at_34)
  have V6 : Arv Z h6 o k3 .boolean (4 : Int32) [(.int (nar .boolean (0 : Int32))), (.int (nar .boolean (1 : Int32))), (.int (nar .boolean (1 : Int32))), (.int (0 : Int32))] (.int (0 : Int32)) := Arv.set Ar6 q6 S6 M6 H6 G6 (fits_nar_bool _) W6 2 rfl (Nat.le_of_ble_eq_true rfl)
  refine own_st (B := T6.setTop (mkF m 35 #[.val (.int p0), .val (.int p1), .val (.int i), .val (.int j), .val (.ref (own_m aS aE i)), .val (.ref (own_m aS aE j)), .unset, .unset, .unset, .unset] [(.ref o)])) (fun t k => st6 t k) ?_
  have N6 := Fr.snoc X6 N5 go
  have Kb6 : Keep h0 h6 [] := Kb5.wr W6 (Or.inr so)
  refine own_st (B := T6.setTop (mkF m 38 #[.val (.int p0), .val (.int p1), .val (.int i), .val (.int j), .val (.ref (own_m aS aE i)), .val (.ref (own_m aS aE j)), .unset, .unset, .unset, .unset] [(.int (1 : Int32)), (.int (3 : Int32)), (.ref o), (.ref o)])) (fun t k => ?_) ?_
  · show Steps p.tables e below (T6.setTop (mkF m 35 #[.val (.int p0), .val (.int p1), .val (.int i), .val (.int j), .val (.ref (own_m aS aE i)), .val (.ref (own_m aS aE j)), .unset, .unset, .unset, .unset] [(.ref o)])) _
    refine XS.dup X6.here hx rfl (hb hby at_35) rfl rfl ?_
    show Steps p.tables e below (T6.setTop (mkF m 36 #[.val (.int p0), .val (.int p1), .val (.int i), .val (.int j), .val (.ref (own_m aS aE i)), .val (.ref (own_m aS aE j)), .unset, .unset, .unset, .unset] [(.ref o), (.ref o)])) _
    refine XS.iconst X6.here hx rfl (hb hby at_36) ?_
    show Steps p.tables e below (T6.setTop (mkF m 37 #[.val (.int p0), .val (.int p1), .val (.int i), .val (.int j), .val (.ref (own_m aS aE i)), .val (.ref (own_m aS aE j)), .unset, .unset, .unset, .unset] [(.int (3 : Int32)), (.ref o), (.ref o)])) _
    refine XS.iconst X6.here hx rfl (hb hby at_37) ?_
    exact k
  obtain ⟨cl7, Ar7, q7, S7, M7, H7, G7⟩ := V6
  have hin7 : ¬ ((3 : Int32) < 0 ∨ cl7.slots.size ≤ ((3 : Int32)).toNatClampNeg) := inb_of S7 ⟨by decide, by decide⟩
  obtain ⟨T7, h7, X7, e7, W7, st7⟩ := stZ X6 hx hZ e6 Ar7 (j := (3 : Int32)) hin7 (g := (mkF m 38 #[.val (.int p0), .val (.int p1), .val (.int i), .val (.int j), .val (.ref (own_m aS aE i)), .val (.ref (own_m aS aE j)), .unset, .unset, .unset, .unset] [(.int (1 : Int32)), (.int (3 : Int32)), (.ref o), (.ref o)])) rfl rfl (hb hby at_38)
  have V7 : Arv Z h7 o k3 .boolean (4 : Int32) [(.int (nar .boolean (0 : Int32))), (.int (nar .boolean (1 : Int32))), (.int (nar .boolean (1 : Int32))), (.int (nar .boolean (1 : Int32)))] (.int (0 : Int32)) := Arv.set Ar7 q7 S7 M7 H7 G7 (fits_nar_bool _) W7 3 rfl (Nat.le_of_ble_eq_true rfl)
  refine own_st (B := T7.setTop (mkF m 39 #[.val (.int p0), .val (.int p1), .val (.int i), .val (.int j), .val (.ref (own_m aS aE i)), .val (.ref (own_m aS aE j)), .unset, .unset, .unset, .unset] [(.ref o)])) (fun t k => st7 t k) ?_
  have N7 := Fr.snoc X7 N6 go
  have Kb7 : Keep h0 h7 [] := Kb6.wr W7 (Or.inr so)
  refine own_st (B := T7.setTop (mkF m 48 #[.val (.int p0), .val (.int p1), .val (.int i), .val (.int j), .val (.ref (own_m aS aE i)), .val (.ref (own_m aS aE j)), .val (.ref o), .unset, .unset, .unset] [(.int ((i * (2 : Int32)) + j)), (.ref o)])) (fun t k => ?_) ?_
  · show Steps p.tables e below (T7.setTop (mkF m 39 #[.val (.int p0), .val (.int p1), .val (.int i), .val (.int j), .val (.ref (own_m aS aE i)), .val (.ref (own_m aS aE j)), .unset, .unset, .unset, .unset] [(.ref o)])) _
    refine XS.astore X7.here hx rfl (hb hby at_39) rfl rfl (l' := #[.val (.int p0), .val (.int p1), .val (.int i), .val (.int j), .val (.ref (own_m aS aE i)), .val (.ref (own_m aS aE j)), .val (.ref o), .unset, .unset, .unset]) rfl ?_
    show Steps p.tables e below (T7.setTop (mkF m 41 #[.val (.int p0), .val (.int p1), .val (.int i), .val (.int j), .val (.ref (own_m aS aE i)), .val (.ref (own_m aS aE j)), .val (.ref o), .unset, .unset, .unset] [])) _
    refine XS.aload X7.here hx rfl (hb hby at_41) rfl rfl ?_
    show Steps p.tables e below (T7.setTop (mkF m 43 #[.val (.int p0), .val (.int p1), .val (.int i), .val (.int j), .val (.ref (own_m aS aE i)), .val (.ref (own_m aS aE j)), .val (.ref o), .unset, .unset, .unset] [(.ref o)])) _
    refine XS.iloadN X7.here hx rfl (hb hby at_43) rfl ?_
    show Steps p.tables e below (T7.setTop (mkF m 44 #[.val (.int p0), .val (.int p1), .val (.int i), .val (.int j), .val (.ref (own_m aS aE i)), .val (.ref (own_m aS aE j)), .val (.ref o), .unset, .unset, .unset] [(.int i), (.ref o)])) _
    refine XS.iconst X7.here hx rfl (hb hby at_44) ?_
    show Steps p.tables e below (T7.setTop (mkF m 45 #[.val (.int p0), .val (.int p1), .val (.int i), .val (.int j), .val (.ref (own_m aS aE i)), .val (.ref (own_m aS aE j)), .val (.ref o), .unset, .unset, .unset] [(.int (2 : Int32)), (.int i), (.ref o)])) _
    refine XS.imul X7.here hx rfl (hb hby at_45) rfl ?_
    show Steps p.tables e below (T7.setTop (mkF m 46 #[.val (.int p0), .val (.int p1), .val (.int i), .val (.int j), .val (.ref (own_m aS aE i)), .val (.ref (own_m aS aE j)), .val (.ref o), .unset, .unset, .unset] [(.int (i * (2 : Int32))), (.ref o)])) _
    refine XS.iloadN X7.here hx rfl (hb hby at_46) rfl ?_
    show Steps p.tables e below (T7.setTop (mkF m 47 #[.val (.int p0), .val (.int p1), .val (.int i), .val (.int j), .val (.ref (own_m aS aE i)), .val (.ref (own_m aS aE j)), .val (.ref o), .unset, .unset, .unset] [(.int j), (.int (i * (2 : Int32))), (.ref o)])) _
    refine XS.iadd X7.here hx rfl (hb hby at_47) rfl ?_
    exact k
  have hat := own_at i j hi' hj'
  obtain ⟨cl8, Ar8, q8, S8, M8, H8, G8⟩ := V7
  have hin8 : ¬ (((i * (2 : Int32)) + j) < 0 ∨ cl8.slots.size ≤ (((i * (2 : Int32)) + j)).toNatClampNeg) := inb_of S8 hat.1
  have hat8 : cl8.slots[(((i * (2 : Int32)) + j)).toNatClampNeg]? = some (.int (own_tab i j)) := H8.at hin8 hat.2
  refine own_st (B := T7.setTop (mkF m 55 #[.val (.int p0), .val (.int p1), .val (.int i), .val (.int j), .val (.ref (own_m aS aE i)), .val (.ref (own_m aS aE j)), .val (.ref o), .val (.int (own_tab i j)), .unset, .unset] [(.ref (own_m aS aE j)), (.ref (own_m aS aE i))])) (fun t k => ?_) ?_
  · show Steps p.tables e below (T7.setTop (mkF m 48 #[.val (.int p0), .val (.int p1), .val (.int i), .val (.int j), .val (.ref (own_m aS aE i)), .val (.ref (own_m aS aE j)), .val (.ref o), .unset, .unset, .unset] [(.int ((i * (2 : Int32)) + j)), (.ref o)])) _
    refine X7.baloadBooleans hx (j := ((i * (2 : Int32)) + j)) (v := (.int (own_tab i j))) (by rw [e7]; exact Ar8.1) (State.isArrayOf_alike hZ.alike Ar8.2.1) Ar8.2.2 hin8 hat8 (g := (mkF m 48 #[.val (.int p0), .val (.int p1), .val (.int i), .val (.int j), .val (.ref (own_m aS aE i)), .val (.ref (own_m aS aE j)), .val (.ref o), .unset, .unset, .unset] [(.int ((i * (2 : Int32)) + j)), (.ref o)])) rfl rfl (hb hby at_48) _ ?_
    show Steps p.tables e below (T7.setTop (mkF m 49 #[.val (.int p0), .val (.int p1), .val (.int i), .val (.int j), .val (.ref (own_m aS aE i)), .val (.ref (own_m aS aE j)), .val (.ref o), .unset, .unset, .unset] [(.int (own_tab i j))])) _
    refine XS.istore X7.here hx rfl (hb hby at_49) rfl (l' := #[.val (.int p0), .val (.int p1), .val (.int i), .val (.int j), .val (.ref (own_m aS aE i)), .val (.ref (own_m aS aE j)), .val (.ref o), .val (.int (own_tab i j)), .unset, .unset]) rfl ?_
    show Steps p.tables e below (T7.setTop (mkF m 51 #[.val (.int p0), .val (.int p1), .val (.int i), .val (.int j), .val (.ref (own_m aS aE i)), .val (.ref (own_m aS aE j)), .val (.ref o), .val (.int (own_tab i j)), .unset, .unset] [])) _
    refine XS.aload X7.here hx rfl (hb hby at_51) rfl rfl ?_
    show Steps p.tables e below (T7.setTop (mkF m 53 #[.val (.int p0), .val (.int p1), .val (.int i), .val (.int j), .val (.ref (own_m aS aE i)), .val (.ref (own_m aS aE j)), .val (.ref o), .val (.int (own_tab i j)), .unset, .unset] [(.ref (own_m aS aE i))])) _
    refine XS.aload X7.here hx rfl (hb hby at_53) rfl rfl ?_
    exact k
  have Zk : n0 ≤ h7.size := Nat.le_trans Z0 Kb7.1
  have SEk : Sta Z h7 "com/example/palimpsest/palimpsest/engine/LockTable$Mode" "EXCLUSIVE" "Lcom/example/palimpsest/palimpsest/engine/LockTable$Mode;" (.ref aE) := (own_staKeep SE Kb7)
  obtain ⟨cq9, kq9, q9a, q9b, q9c⟩ := isOf hZ e7 (X0_.keep Kb7)
  obtain ⟨_, _, ⟨T9, L9, k9, n9⟩, -, X9, ⟨Lc9, hQ9, l9, y9, z9⟩, st9⟩ := X7.virtualBack hx (y := (⟨"com/example/palimpsest/palimpsest/engine/LockTable$Mode", "conflictsWith", "(Lcom/example/palimpsest/palimpsest/engine/LockTable$Mode;)Z"⟩ : MethodName)) (z := (⟨"com/example/palimpsest/palimpsest/engine/LockTable$Mode", "conflictsWith", "(Lcom/example/palimpsest/palimpsest/engine/LockTable$Mode;)Z"⟩ : MethodName)) hown (mvT hZ (hw _ (List.mem_of_getElem? (i := 10) rfl))) (mvT hZ (hw _ (List.mem_of_getElem? (i := 11) rfl))) (notFace_of_selects (args := #[]) (mvT hZ (hw _ (List.mem_of_getElem? (i := 13) rfl)))) (mvT hZ (hw _ (List.mem_of_getElem? (i := 13) rfl))) (mvT hZ (hw _ (List.mem_of_getElem? (i := 12) rfl))) (by decide) (backOf (W := 0) (rm2 l Z a0 hw [] (own_m aS aE i) (own_m aS aE j) aE h7 n0 Zk SEk) hZ (hw _ (List.mem_of_getElem? (i := 14) rfl)) (hw _ (List.mem_of_getElem? (i := 5) rfl)) (by decide) (by decide)) q9a q9c (g := (mkF m 55 #[.val (.int p0), .val (.int p1), .val (.int i), .val (.int j), .val (.ref (own_m aS aE i)), .val (.ref (own_m aS aE j)), .val (.ref o), .val (.int (own_tab i j)), .unset, .unset] [(.ref (own_m aS aE j)), (.ref (own_m aS aE i))])) rfl (by rw [hml]; rfl) (Steps.refl _) (argsL := [(.ref (own_m aS aE j))]) (rest := []) (lenOf pd_1 rfl) rfl (by show 2 * 0 + _ ≤ _; exact Nat.le_of_eq rfl) (hb hby at_55) (fun _ _ => ⟨rfl, e7, (by decide : 1 + 0 ≤ _), (by decide : 4 + 0 ≤ _)⟩)
  dsimp only [Pt.U, Pt.locs, Pt.cells, Pt.slots] at X9 l9 y9 z9 st9 hQ9
  subst l9 y9 z9
  obtain ⟨rfl, N9q, e9⟩ := hQ9
  have N9 := Fr.app N7 N9q
  refine own_st (B := T9.setTop (mkF m 58 #[.val (.int p0), .val (.int p1), .val (.int i), .val (.int j), .val (.ref (own_m aS aE i)), .val (.ref (own_m aS aE j)), .val (.ref o), .val (.int (own_tab i j)), .unset, .unset] [(.int (own_b (own_conf aE (own_m aS aE i) (own_m aS aE j))))])) (fun t k => st9.trans k) ?_
  refine own_st (B := T9.setTop (mkF m 64 #[.val (.int p0), .val (.int p1), .val (.int i), .val (.int j), .val (.ref (own_m aS aE i)), .val (.ref (own_m aS aE j)), .val (.ref o), .val (.int (own_tab i j)), .val (.int (own_b (own_conf aE (own_m aS aE i) (own_m aS aE j)))), .unset] [(.ref (own_m aS aE i)), (.ref (own_m aS aE j))])) (fun t k => ?_) ?_
  · show Steps p.tables e below (T9.setTop (mkF m 58 #[.val (.int p0), .val (.int p1), .val (.int i), .val (.int j), .val (.ref (own_m aS aE i)), .val (.ref (own_m aS aE j)), .val (.ref o), .val (.int (own_tab i j)), .unset, .unset] [(.int (own_b (own_conf aE (own_m aS aE i) (own_m aS aE j))))])) _
    refine XS.istore X9.here hx rfl (hb hby at_58) rfl (l' := #[.val (.int p0), .val (.int p1), .val (.int i), .val (.int j), .val (.ref (own_m aS aE i)), .val (.ref (own_m aS aE j)), .val (.ref o), .val (.int (own_tab i j)), .val (.int (own_b (own_conf aE (own_m aS aE i) (own_m aS aE j)))), .unset]) rfl ?_
    show Steps p.tables e below (T9.setTop (mkF m 60 #[.val (.int p0), .val (.int p1), .val (.int i), .val (.int j), .val (.ref (own_m aS aE i)), .val (.ref (own_m aS aE j)), .val (.ref o), .val (.int (own_tab i j)), .val (.int (own_b (own_conf aE (own_m aS aE i) (own_m aS aE j)))), .unset] [])) _
    refine XS.aload X9.here hx rfl (hb hby at_60) rfl rfl ?_
    show Steps p.tables e below (T9.setTop (mkF m 62 #[.val (.int p0), .val (.int p1), .val (.int i), .val (.int j), .val (.ref (own_m aS aE i)), .val (.ref (own_m aS aE j)), .val (.ref o), .val (.int (own_tab i j)), .val (.int (own_b (own_conf aE (own_m aS aE i) (own_m aS aE j)))), .unset] [(.ref (own_m aS aE j))])) _
    refine XS.aload X9.here hx rfl (hb hby at_62) rfl rfl ?_
    exact k
  obtain ⟨cq10, kq10, q10a, q10b, q10c⟩ := isOf hZ e9 (X1_.keep Kb7)
  obtain ⟨_, _, ⟨T10, L10, k10, n10⟩, -, X10, ⟨Lc10, hQ10, l10, y10, z10⟩, st10⟩ := X9.virtualBack hx (y := (⟨"com/example/palimpsest/palimpsest/engine/LockTable$Mode", "conflictsWith", "(Lcom/example/palimpsest/palimpsest/engine/LockTable$Mode;)Z"⟩ : MethodName)) (z := (⟨"com/example/palimpsest/palimpsest/engine/LockTable$Mode", "conflictsWith", "(Lcom/example/palimpsest/palimpsest/engine/LockTable$Mode;)Z"⟩ : MethodName)) hown (mvT hZ (hw _ (List.mem_of_getElem? (i := 10) rfl))) (mvT hZ (hw _ (List.mem_of_getElem? (i := 11) rfl))) (notFace_of_selects (args := #[]) (mvT hZ (hw _ (List.mem_of_getElem? (i := 13) rfl)))) (mvT hZ (hw _ (List.mem_of_getElem? (i := 13) rfl))) (mvT hZ (hw _ (List.mem_of_getElem? (i := 12) rfl))) (by decide) (backOf (W := 0) (rm2 l Z a0 hw [] (own_m aS aE j) (own_m aS aE i) aE h7 n0 Zk SEk) hZ (hw _ (List.mem_of_getElem? (i := 14) rfl)) (hw _ (List.mem_of_getElem? (i := 5) rfl)) (by decide) (by decide)) q10a q10c (g := (mkF m 64 #[.val (.int p0), .val (.int p1), .val (.int i), .val (.int j), .val (.ref (own_m aS aE i)), .val (.ref (own_m aS aE j)), .val (.ref o), .val (.int (own_tab i j)), .val (.int (own_b (own_conf aE (own_m aS aE i) (own_m aS aE j)))), .unset] [(.ref (own_m aS aE i)), (.ref (own_m aS aE j))])) rfl (by rw [hml]; rfl) (Steps.refl _) (argsL := [(.ref (own_m aS aE i))]) (rest := []) (lenOf pd_1 rfl) rfl (by show 2 * 0 + _ ≤ _; exact Nat.le_of_eq rfl) (hb hby at_64) (fun _ _ => ⟨rfl, e9, (by decide : 1 + 0 ≤ _), (by decide : 4 + 0 ≤ _)⟩)
  dsimp only [Pt.U, Pt.locs, Pt.cells, Pt.slots] at X10 l10 y10 z10 st10 hQ10
  subst l10 y10 z10
  obtain ⟨rfl, N10q, e10⟩ := hQ10
  have N10 := Fr.app N9 N10q
  refine own_st (B := T10.setTop (mkF m 67 #[.val (.int p0), .val (.int p1), .val (.int i), .val (.int j), .val (.ref (own_m aS aE i)), .val (.ref (own_m aS aE j)), .val (.ref o), .val (.int (own_tab i j)), .val (.int (own_b (own_conf aE (own_m aS aE i) (own_m aS aE j)))), .unset] [(.int (own_b (own_conf aE (own_m aS aE j) (own_m aS aE i))))])) (fun t k => st10.trans k) ?_
  refine own_st (B := T10.setTop (mkF m 73 #[.val (.int p0), .val (.int p1), .val (.int i), .val (.int j), .val (.ref (own_m aS aE i)), .val (.ref (own_m aS aE j)), .val (.ref o), .val (.int (own_tab i j)), .val (.int (own_b (own_conf aE (own_m aS aE i) (own_m aS aE j)))), .val (.int (own_b (own_conf aE (own_m aS aE j) (own_m aS aE i))))] [(.int (own_tab i j)), (.int (own_b (own_conf aE (own_m aS aE i) (own_m aS aE j))))])) (fun t k => ?_) ?_
  · show Steps p.tables e below (T10.setTop (mkF m 67 #[.val (.int p0), .val (.int p1), .val (.int i), .val (.int j), .val (.ref (own_m aS aE i)), .val (.ref (own_m aS aE j)), .val (.ref o), .val (.int (own_tab i j)), .val (.int (own_b (own_conf aE (own_m aS aE i) (own_m aS aE j)))), .unset] [(.int (own_b (own_conf aE (own_m aS aE j) (own_m aS aE i))))])) _
    refine XS.istore X10.here hx rfl (hb hby at_67) rfl (l' := #[.val (.int p0), .val (.int p1), .val (.int i), .val (.int j), .val (.ref (own_m aS aE i)), .val (.ref (own_m aS aE j)), .val (.ref o), .val (.int (own_tab i j)), .val (.int (own_b (own_conf aE (own_m aS aE i) (own_m aS aE j)))), .val (.int (own_b (own_conf aE (own_m aS aE j) (own_m aS aE i))))]) rfl ?_
    show Steps p.tables e below (T10.setTop (mkF m 69 #[.val (.int p0), .val (.int p1), .val (.int i), .val (.int j), .val (.ref (own_m aS aE i)), .val (.ref (own_m aS aE j)), .val (.ref o), .val (.int (own_tab i j)), .val (.int (own_b (own_conf aE (own_m aS aE i) (own_m aS aE j)))), .val (.int (own_b (own_conf aE (own_m aS aE j) (own_m aS aE i))))] [])) _
    refine XS.iload X10.here hx rfl (hb hby at_69) rfl ?_
    show Steps p.tables e below (T10.setTop (mkF m 71 #[.val (.int p0), .val (.int p1), .val (.int i), .val (.int j), .val (.ref (own_m aS aE i)), .val (.ref (own_m aS aE j)), .val (.ref o), .val (.int (own_tab i j)), .val (.int (own_b (own_conf aE (own_m aS aE i) (own_m aS aE j)))), .val (.int (own_b (own_conf aE (own_m aS aE j) (own_m aS aE i))))] [(.int (own_b (own_conf aE (own_m aS aE i) (own_m aS aE j))))])) _
    refine XS.iload X10.here hx rfl (hb hby at_71) rfl ?_
    exact k
  refine own_st (B := T10.setTop (mkF m 80 #[.val (.int p0), .val (.int p1), .val (.int i), .val (.int j), .val (.ref (own_m aS aE i)), .val (.ref (own_m aS aE j)), .val (.ref o), .val (.int (own_tab i j)), .val (.int (own_b (own_conf aE (own_m aS aE i) (own_m aS aE j)))), .val (.int (own_b (own_conf aE (own_m aS aE j) (own_m aS aE i))))] [(.int (own_tab i j)), (.int (own_b (own_conf aE (own_m aS aE j) (own_m aS aE i))))])) (fun t k => ?_) ?_
  · show Steps p.tables e below (T10.setTop (mkF m 73 #[.val (.int p0), .val (.int p1), .val (.int i), .val (.int j), .val (.ref (own_m aS aE i)), .val (.ref (own_m aS aE j)), .val (.ref o), .val (.int (own_tab i j)), .val (.int (own_b (own_conf aE (own_m aS aE i) (own_m aS aE j)))), .val (.int (own_b (own_conf aE (own_m aS aE j) (own_m aS aE i))))] [(.int (own_tab i j)), (.int (own_b (own_conf aE (own_m aS aE i) (own_m aS aE j))))])) _
    refine XS.icmpNo X10.here hx rfl (hb hby at_73) rfl (teq (own_cf hne i j hi' hj')).2 ?_
    show Steps p.tables e below (T10.setTop (mkF m 76 #[.val (.int p0), .val (.int p1), .val (.int i), .val (.int j), .val (.ref (own_m aS aE i)), .val (.ref (own_m aS aE j)), .val (.ref o), .val (.int (own_tab i j)), .val (.int (own_b (own_conf aE (own_m aS aE i) (own_m aS aE j)))), .val (.int (own_b (own_conf aE (own_m aS aE j) (own_m aS aE i))))] [])) _
    refine XS.iload X10.here hx rfl (hb hby at_76) rfl ?_
    show Steps p.tables e below (T10.setTop (mkF m 78 #[.val (.int p0), .val (.int p1), .val (.int i), .val (.int j), .val (.ref (own_m aS aE i)), .val (.ref (own_m aS aE j)), .val (.ref o), .val (.int (own_tab i j)), .val (.int (own_b (own_conf aE (own_m aS aE i) (own_m aS aE j)))), .val (.int (own_b (own_conf aE (own_m aS aE j) (own_m aS aE i))))] [(.int (own_b (own_conf aE (own_m aS aE j) (own_m aS aE i))))])) _
    refine XS.iload X10.here hx rfl (hb hby at_78) rfl ?_
    exact k
  refine own_st (B := T10.setTop (mkF m 88 #[.val (.int p0), .val (.int p1), .val (.int i), .val (.int j), .val (.ref (own_m aS aE i)), .val (.ref (own_m aS aE j)), .val (.ref o), .val (.int (own_tab i j)), .val (.int (own_b (own_conf aE (own_m aS aE i) (own_m aS aE j)))), .val (.int (own_b (own_conf aE (own_m aS aE j) (own_m aS aE i))))] [(.int (1 : Int32))])) (fun t k => ?_) ?_
  · show Steps p.tables e below (T10.setTop (mkF m 80 #[.val (.int p0), .val (.int p1), .val (.int i), .val (.int j), .val (.ref (own_m aS aE i)), .val (.ref (own_m aS aE j)), .val (.ref o), .val (.int (own_tab i j)), .val (.int (own_b (own_conf aE (own_m aS aE i) (own_m aS aE j)))), .val (.int (own_b (own_conf aE (own_m aS aE j) (own_m aS aE i))))] [(.int (own_tab i j)), (.int (own_b (own_conf aE (own_m aS aE j) (own_m aS aE i))))])) _
    refine XS.icmpNo X10.here hx rfl (hb hby at_80) rfl (teq ((own_cf hne j i hj' hi').trans (own_tab_comm j i))).2 ?_
    show Steps p.tables e below (T10.setTop (mkF m 83 #[.val (.int p0), .val (.int p1), .val (.int i), .val (.int j), .val (.ref (own_m aS aE i)), .val (.ref (own_m aS aE j)), .val (.ref o), .val (.int (own_tab i j)), .val (.int (own_b (own_conf aE (own_m aS aE i) (own_m aS aE j)))), .val (.int (own_b (own_conf aE (own_m aS aE j) (own_m aS aE i))))] [])) _
    refine XS.iconst X10.here hx rfl (hb hby at_83) ?_
    show Steps p.tables e below (T10.setTop (mkF m 84 #[.val (.int p0), .val (.int p1), .val (.int i), .val (.int j), .val (.ref (own_m aS aE i)), .val (.ref (own_m aS aE j)), .val (.ref o), .val (.int (own_tab i j)), .val (.int (own_b (own_conf aE (own_m aS aE i) (own_m aS aE j)))), .val (.int (own_b (own_conf aE (own_m aS aE j) (own_m aS aE i))))] [(.int (1 : Int32))])) _
    refine XS.goto X10.here hx rfl (pc0 := 84) (pc' := 88) rfl (hb hby at_84) (by decide) (by decide) ?_
    exact k
  obtain ⟨fs, hr, hrun, hended, hW, hsame⟩ := X10.leave (v := some (.int (1 : Int32))) (fun h => by rw [Bd.returns] at h; cases h)
  refine ⟨_, _, ?_, hrun, hended, _, _, rfl, ?_, ⟨_, rfl⟩, hW, hsame.mono (by decide) (by decide)⟩
  · exact retOut X10 hx Bd.returns rfl (Or.inl ⟨rfl, by simp, _, rfl⟩) (hb hby at_88) hr
  · show Q0 Z p0 p1 aS aE h0 n0 _ T10.heap _
    rw [e10]
    exact ⟨rfl, N10⟩
set_option maxRecDepth 65536 in
set_option maxHeartbeats 40000000 in
theorem comes_1 {Post : Tables → Env → Array Value → State → Outcome → State → Prop} (hpost : ∀ tb e args s v u, (limb_1_1.after args s (.returned v) u = true ∧ limb_1_2.after args s (.returned v) u = true) → FrameEnd s (.returned v) u (Jvm.fieldLocs frame_1_writes args s ++ Jvm.arrayLocs frame_1_arrays args s ++ Jvm.staticLocs frame_1_statics s) 16 128 → Post tb e args s (.returned v) u) :
    ArmFor flags0 classFile x code maxLocals ret World_1 tables_1 room_1 Calls_1 rest_1 Pre_1 Post := by
  intro l hfl _ _ p e ha hc hk s m args below hf hA hF happ hP
  obtain ⟨hcalls, hrest, hpre⟩ := hP
  obtain ⟨-, -, -, hnamed, -, -, -, hat⟩ := (Spec.applies_iff hf).mp happ
  obtain ⟨hg, hn⟩ := and_e (Cond.before_iff.mp (show (Jvm.Cond.and given_1 narrow_1).before args s = true from hpre))
  obtain ⟨gc, g0⟩ := and_e hg
  obtain ⟨ga0, g1⟩ := and_e g0
  have ga1 := g1
  obtain ⟨w0, w1, rfl⟩ : ∃ w0 w1 : Value, args = #[w0, w1] := by
    have hs : args.size = 2 := by simpa [Cond.value, given_1] using gc
    obtain ⟨L⟩ := args
    match L, hs with
    | [w0, w1], _ => exact ⟨w0, w1, rfl⟩
  have hw := fun d (hd : d ∈ tables_1) => atoms_spec (ws := Jvm.Cond.code x code maxLocals ret :: tables_1) hat d (List.mem_cons_of_mem _ hd)
  obtain ⟨i0, ei0⟩ := is_v ga0
  obtain rfl : w0 = (.int i0) := Option.some.inj ei0
  obtain ⟨i1, ei1⟩ := is_v ga1
  obtain rfl : w1 = (.int i1) := Option.some.inj ei1
  obtain ⟨n1, hn'⟩ := and_e hn
  obtain ⟨n2, hn''⟩ := and_e hn'
  obtain ⟨n3, n4⟩ := and_e hn''
  obtain ⟨aS, eS⟩ := exa_v n1
  obtain ⟨aE, eE⟩ := exa_v n2
  have SS := Sta.start eS (Or.inr ⟨(hw _ (List.mem_of_getElem? (i := 5) rfl)), (hw _ (List.mem_of_getElem? (i := 6) rfl))⟩)
  have SE := Sta.start eE (Or.inr ⟨(hw _ (List.mem_of_getElem? (i := 5) rfl)), (hw _ (List.mem_of_getElem? (i := 8) rfl))⟩)
  have XS' := Exa.start eS n1
  have XE' := Exa.start eE n2
  have hne : ¬ aS = aE := by
    intro h
    subst h
    have q1 := fld_at (C := "java/lang/Enum") (n := "ordinal") (dd := "I") eS
    have q2 := fld_at (C := "java/lang/Enum") (n := "ordinal") (dd := "I") eE
    rw [← q1] at q2
    simp only [Cond.value, q2] at n3 n4
    cases hv : (Term.field (Term.static "com/example/palimpsest/palimpsest/engine/LockTable$Mode" "SHARED" "Lcom/example/palimpsest/palimpsest/engine/LockTable$Mode;") "java/lang/Enum" "ordinal" "I").eval #[.int i0, .int i1] s none [] s with
    | none => rw [hv] at n3; simp at n3
    | some v => rw [hv] at n3 n4; cases v <;> simp_all [Term.eval]
  obtain ⟨n, o, h1, h2, h3, _, L, rfl, ⟨rfl, N⟩, hq⟩ := rm0 l s _ hw tables_1 i0 i1 aS aE s.heap s.heap.size (Nat.le_refl _) SS SE XS' XE' hne p e ha hc hk s m _ below hf ((Spec.applies_iff_loose hf).mp happ).1 ⟨rfl, State.Warmed39.refl s, rfl⟩ trivial
  refine ⟨n, _, h1, h2, h3, hpost _ _ _ _ _ _ ⟨Cond.after_iff.mpr rfl, Cond.after_iff.mpr (eq_i res_at (Term.int_eval (1)) rfl)⟩ ⟨hq.1, hq.2.1, (hq.2.2.sift fun y hy => Or.inr (N y hy)).mono (by decide) (by decide)⟩⟩
theorem main_1_1 : Claimed_1_1 := comes_1 fun _ _ _ _ _ _ h hF => ⟨h.1, hF⟩
theorem main_1_2 : Claimed_1_2 := comes_1 fun _ _ _ _ _ _ h hF => ⟨h.2, hF⟩
end Jvm.Pilot.@@N@@
namespace Jvm.Pilot.@@N@@
open Jvm Jvm.ClassFile Sem Op Lib Jvm.Free Jvm.Stand Jvm.Pilot.@@N@@.Jvm.D
/-! MADE BY PROGRAM (witnessworld.py) out of the Statement's table words and the real class files: 14 classes; the members and pool entries that the words name. The judged class is class 1, her method 2. -/
namespace start1
open Jvm.ClassFile
def u (s : String) : CpInfo := .utf8 (stringToUtf16 s)
/-- a pool by its gaps: so many unusable entries, then the entry; so many at the end -/
def gap : Nat → List CpInfo → List CpInfo
  | 0, r => r
  | n + 1, r => .unusable :: gap n r
def poolList (es : List (Nat × CpInfo)) (last : Nat) : List CpInfo := es.foldr (fun e r => gap e.1 (e.2 :: r)) (gap last [])
def pool (es : List (Nat × CpInfo)) (last : Nat) : Array CpInfo := ⟨poolList es last⟩
def fileOf (pool : Array CpInfo) (this : Nat) (attrs : Array Attribute := #[]) (ms : Array MethodInfo := #[]) (fl : Nat := 33) (sup : Nat := 0) (ifs : Array Nat := #[]) (fds : Array FieldInfo := #[]) : ClassFile where
  minorVersion := 0
  majorVersion := 65
  constantPool := pool
  accessFlags := fl
  thisClass := this
  superClass := sup
  interfaces := ifs
  fields := fds
  methods := ms
  attributes := attrs
def plain (name : String) (sup : Option ClassId) : Class where
  name := name
  kind := .ordinary
  loader := none
  accessFlags := 33
  super := sup
  interfaces := #[]
  cf := none
  fields := #[]
  methods := #[]
  instanceTypes := #[]
  staticTypes := #[]
  resolved := #[]
  callSites := []
  init := .initialized
  statics := none
  mirror := none

def pool0 : Array CpInfo := pool [(5, u "<init>"), (0, u "()V"), (1, .class_ 10), (1, u "java/lang/Object")] 113

def k0m0 : Method := { name := "<init>", desc := "()V", sig := { parameters := [], returnType := none }, accessFlags := 1, code := none }
/-- java/lang/Object -/
def k0 : Class := { plain "java/lang/Object" none with
  accessFlags := 33
  interfaces := #[]
  cf := some (fileOf pool0 8 #[] #[{ accessFlags := 1, nameIndex := 5, descriptorIndex := 6, attributes := #[] }] 33 0 #[] #[])
  fields := #[]
  methods := #[k0m0]
  instanceTypes := #[]
  staticTypes := #[]
  resolved := Array.replicate 124 none
  statics := none }

def pool1 : Array CpInfo := pool [(2, .class_ 4), (1, u "java/lang/Object"), (0, u "<init>"), (0, u "()V"), (0, .fieldref 8 9), (0, .class_ 10), (0, .nameAndType 11 12), (0, u "com/example/palimpsest/palimpsest/engine/LockTable$Mode"), (0, u "SHARED"), (0, u "Lcom/example/palimpsest/palimpsest/engine/LockTable$Mode;"), (0, .fieldref 8 14), (0, .nameAndType 15 12), (0, u "EXCLUSIVE"), (0, .methodref 17 18), (0, .class_ 19), (0, .nameAndType 20 21), (0, u "com/example/palimpsest/palimpsest/engine/ModeConflictsWithPinLaw"), (0, u "mode"), (0, u "(I)Lcom/example/palimpsest/palimpsest/engine/LockTable$Mode;"), (0, .methodref 8 23), (0, .nameAndType 24 25), (0, u "conflictsWith"), (0, u "(Lcom/example/palimpsest/palimpsest/engine/LockTable$Mode;)Z"), (3, u "law"), (0, u "(II)Z")] 8

def k1m0 : Method := { name := "<init>", desc := "()V", sig := { parameters := [], returnType := none }, accessFlags := 1, code := none }
def k1c1 : Code := { maxStack := 1, maxLocals := 1, code := method_2_code, exceptionTable := #[], attributes := #[] }
def k1m1 : Method := { name := "mode", desc := "(I)Lcom/example/palimpsest/palimpsest/engine/LockTable$Mode;", sig := { parameters := [.int], returnType := some (.object "com/example/palimpsest/palimpsest/engine/LockTable$Mode") }, accessFlags := 10, code := some k1c1 }
def k1c2 : Code := { maxStack := 4, maxLocals := 10, code := code, exceptionTable := #[], attributes := #[] }
def k1m2 : Method := { name := "law", desc := "(II)Z", sig := { parameters := [.int, .int], returnType := some .boolean }, accessFlags := 9, code := some k1c2 }
/-- com/example/palimpsest/palimpsest/engine/ModeConflictsWithPinLaw -/
def k1 : Class := { plain "com/example/palimpsest/palimpsest/engine/ModeConflictsWithPinLaw" (some 0) with
  accessFlags := 49
  interfaces := #[]
  cf := some (fileOf pool1 17 #[] #[{ accessFlags := 1, nameIndex := 5, descriptorIndex := 6, attributes := #[] }, { accessFlags := 10, nameIndex := 20, descriptorIndex := 21, attributes := #[] }, { accessFlags := 9, nameIndex := 29, descriptorIndex := 30, attributes := #[] }] 49 2 #[] #[])
  fields := #[]
  methods := #[k1m0, k1m1, k1m2]
  instanceTypes := #[]
  staticTypes := #[]
  resolved := Array.replicate 39 none
  statics := none }

def pool2 : Array CpInfo := pool [(1, .class_ 2), (0, u "java/lang/constant/Constable"), (0, .class_ 4), (0, u "java/lang/Object")] 6

/-- java/lang/constant/Constable -/
def k2 : Class := { plain "java/lang/constant/Constable" (some 0) with
  accessFlags := 1537
  interfaces := #[]
  cf := some (fileOf pool2 1 #[] #[] 1537 3 #[] #[])
  fields := #[]
  methods := #[]
  instanceTypes := #[]
  staticTypes := #[]
  resolved := Array.replicate 11 none
  statics := none }

def pool3 : Array CpInfo := pool [(1, .class_ 2), (0, u "java/lang/Comparable"), (0, .class_ 4), (0, u "java/lang/Object")] 7

/-- java/lang/Comparable -/
def k3 : Class := { plain "java/lang/Comparable" (some 0) with
  accessFlags := 1537
  interfaces := #[]
  cf := some (fileOf pool3 1 #[] #[] 1537 3 #[] #[])
  fields := #[]
  methods := #[]
  instanceTypes := #[]
  staticTypes := #[]
  resolved := Array.replicate 12 none
  statics := none }

def pool4 : Array CpInfo := pool [(1, .class_ 2), (0, u "java/io/Serializable"), (0, .class_ 4), (0, u "java/lang/Object")] 2

/-- java/io/Serializable -/
def k4 : Class := { plain "java/io/Serializable" (some 0) with
  accessFlags := 1537
  interfaces := #[]
  cf := some (fileOf pool4 1 #[] #[] 1537 3 #[] #[])
  fields := #[]
  methods := #[]
  instanceTypes := #[]
  staticTypes := #[]
  resolved := Array.replicate 7 none
  statics := none }

def pool5 : Array CpInfo := pool [(2, .class_ 4), (1, u "java/lang/Enum"), (0, u "name"), (0, u "Ljava/lang/String;"), (2, u "ordinal"), (0, u "I"), (1, .class_ 14), (1, u "java/lang/Object"), (4, u "hash"), (86, .class_ 108), (1, u "java/lang/Enum$EnumDesc"), (2, .class_ 112), (0, u "java/lang/constant/Constable"), (0, .class_ 114), (0, u "java/lang/Comparable"), (0, .class_ 116), (0, u "java/io/Serializable")] 87

/-- java/lang/Enum -/
def k5 : Class := { plain "java/lang/Enum" (some 0) with
  accessFlags := 1057
  interfaces := #[2, 3, 4]
  cf := some (fileOf pool5 2 #[.nestMembers #[106]] #[] 1057 12 #[111, 113, 115] #[{ accessFlags := 18, nameIndex := 5, descriptorIndex := 6, attributes := #[] }, { accessFlags := 18, nameIndex := 9, descriptorIndex := 10, attributes := #[] }, { accessFlags := 2, nameIndex := 19, descriptorIndex := 10, attributes := #[] }])
  fields := #[{ name := "name", type := (.object "java/lang/String"), accessFlags := 18, slot := 0, constantValue := 0 }, { name := "ordinal", type := .int, accessFlags := 18, slot := 1, constantValue := 0 }, { name := "hash", type := .int, accessFlags := 2, slot := 2, constantValue := 0 }]
  methods := #[]
  instanceTypes := #[(.object "java/lang/String"), .int, .int]
  staticTypes := #[]
  resolved := Array.replicate 204 none
  statics := none }

def pool6 : Array CpInfo := pool [(1, .class_ 2), (0, u "com/example/palimpsest/palimpsest/engine/LockTable$Mode"), (2, u "SHARED"), (0, u "Lcom/example/palimpsest/palimpsest/engine/LockTable$Mode;"), (0, .fieldref 1 8), (0, .nameAndType 9 6), (0, u "EXCLUSIVE"), (2, u "$VALUES"), (0, u "[Lcom/example/palimpsest/palimpsest/engine/LockTable$Mode;"), (6, .class_ 22), (1, u "java/lang/Enum"), (20, u "conflictsWith"), (0, u "(Lcom/example/palimpsest/palimpsest/engine/LockTable$Mode;)Z"), (7, .class_ 53), (0, u "com/example/palimpsest/palimpsest/engine/LockTable")] 2

def k6c0 : Code := { maxStack := 2, maxLocals := 2, code := prog_34_method_4_code, exceptionTable := #[], attributes := #[] }
def k6m0 : Method := { name := "conflictsWith", desc := "(Lcom/example/palimpsest/palimpsest/engine/LockTable$Mode;)Z", sig := { parameters := [(.object "com/example/palimpsest/palimpsest/engine/LockTable$Mode")], returnType := some .boolean }, accessFlags := 0, code := some k6c0 }
/-- com/example/palimpsest/palimpsest/engine/LockTable$Mode -/
def k6 : Class := { plain "com/example/palimpsest/palimpsest/engine/LockTable$Mode" (some 5) with
  accessFlags := 16432
  interfaces := #[]
  cf := some (fileOf pool6 1 #[.nestHost 52] #[{ accessFlags := 0, nameIndex := 43, descriptorIndex := 44, attributes := #[] }] 16432 20 #[] #[{ accessFlags := 16409, nameIndex := 5, descriptorIndex := 6, attributes := #[] }, { accessFlags := 16409, nameIndex := 9, descriptorIndex := 6, attributes := #[] }, { accessFlags := 4122, nameIndex := 12, descriptorIndex := 13, attributes := #[] }])
  fields := #[{ name := "SHARED", type := (.object "com/example/palimpsest/palimpsest/engine/LockTable$Mode"), accessFlags := 16409, slot := 0, constantValue := 0 }, { name := "EXCLUSIVE", type := (.object "com/example/palimpsest/palimpsest/engine/LockTable$Mode"), accessFlags := 16409, slot := 1, constantValue := 0 }, { name := "$VALUES", type := (.array (.object "com/example/palimpsest/palimpsest/engine/LockTable$Mode")), accessFlags := 4122, slot := 2, constantValue := 0 }]
  methods := #[k6m0]
  instanceTypes := #[(.object "java/lang/String"), .int, .int]
  staticTypes := #[(.object "com/example/palimpsest/palimpsest/engine/LockTable$Mode"), (.object "com/example/palimpsest/palimpsest/engine/LockTable$Mode"), (.array (.object "com/example/palimpsest/palimpsest/engine/LockTable$Mode"))]
  resolved := Array.replicate 56 none
  statics := some 0 }

def pool7 : Array CpInfo := pool [(1, u "java/lang/Cloneable"), (0, .class_ 1), (0, u "java/lang/Object"), (0, .class_ 3)] 3

/-- java/lang/Cloneable -/
def k7 : Class := { plain "java/lang/Cloneable" (some 0) with
  accessFlags := 1537
  interfaces := #[]
  cf := some (fileOf pool7 2 #[] #[] 1537 4 #[] #[])
  fields := #[]
  methods := #[]
  instanceTypes := #[]
  staticTypes := #[]
  resolved := Array.replicate 8 none
  statics := none }

/-- the primitive boolean -/
def k8 : Class := { plain "boolean" none with kind := .primitive 'Z', accessFlags := 0x411 }
/-- [Z -/
def k9 : Class := { plain "[Z" (some 0) with kind := .array 8 .boolean, interfaces := #[7, 4], accessFlags := 1041 }

/-- the primitive byte -/
def k10 : Class := { plain "byte" none with kind := .primitive 'B', accessFlags := 0x411 }
/-- [B -/
def k11 : Class := { plain "[B" (some 0) with kind := .array 10 .byte, interfaces := #[7, 4], accessFlags := 1041 }

/-- the primitive int -/
def k12 : Class := { plain "int" none with kind := .primitive 'I', accessFlags := 0x411 }
/-- [I -/
def k13 : Class := { plain "[I" (some 0) with kind := .array 12 .int, interfaces := #[7, 4], accessFlags := 1041 }

def heap : Heap := #[{ cls := 6, slots := #[.ref 1, .ref 2, .null], vm := .statics 6 },
  { cls := 6, slots := #[.null, .int 0, .int 0], vm := .none },
  { cls := 6, slots := #[.null, .int 1, .int 0], vm := .none }]
def classes : Array Class := #[k0, k1, k2, k3, k4, k5, k6, k7, k8, k9, k10, k11, k12, k13]
def interned : List (Array UInt16 × Addr) := []
def slotsUsed : Nat := 9
def theMethod : MethodId := ⟨1, 2⟩
def args0 : Array Value := #[.int 5, .int 4]
def aboutOver (below : List Frame) : State where
  vm := { classes := classes, interned := interned.toArray }
  heap := heap
  slotsUsed := slotsUsed
  threads := #[{ frames := .invoking theMethod args0 :: below }]
def below0 : List Frame := [.native { method := ⟨0, 0⟩, args := #[] }]
def about1 : State := aboutOver below0
def p0 : Program := .bare "" "" ""
def e0 : Env := launch0.env 0 0 0
theorem w_frames : about1.frames = Frame.invoking theMethod args0 :: below0 := rfl
set_option maxRecDepth 65536 in
theorem w_args : argsFit about1.vm theMethod args0 = true := by decide +kernel
set_option maxRecDepth 65536 in
theorem w_heap : heapFits about1 = true := by decide +kernel
set_option maxRecDepth 65536 in
theorem w_runnable : about1.curStatus? = some .runnable := by decide +kernel
set_option maxRecDepth 65536 in
theorem w_alone : about1.alone = true := by decide +kernel
set_option maxRecDepth 65536 in
theorem w_named : about1.methodNamed? x = some theMethod := by decide +kernel
set_option maxRecDepth 65536 in
theorem w_hears : about1.hears theMethod below0 = true := by decide +kernel
set_option maxRecDepth 65536 in
theorem w_ripe : about1.ripe theMethod args0 below0 = true := by decide +kernel
theorem w_running : about1.status = .running := rfl
set_option maxRecDepth 65536 in
theorem w_room : about1.hasRoom e0.platform room_1 = true :=
  launch0.hasRoom_least _ room_1 (by decide +kernel) (by decide +kernel) (by decide +kernel) (by decide +kernel) (by decide +kernel) (by decide +kernel)
theorem allAtoms_all (ts : List Jvm.Cond) (a : Array Jvm.Value) (st : Jvm.State) : (allAtoms ts).before a st = ts.all (fun c => c.before a st) := by
  induction ts with
  | nil => rfl
  | cons c t ih =>
    show (Jvm.Cond.and c (allAtoms t)).before a st = _
    rw [Jvm.Cond.before_and, ih, List.all_cons]
def words1 : List Jvm.Cond := Jvm.Cond.code x code maxLocals ret :: tables_1
/-- a 'code' word, met by the world's own term for the bytes: nothing is compared byte by byte -/
theorem code_word {y : MethodName} {bytes : ByteArray} {mx : Nat} {rt : Option FieldType} {a : Array Value} {s : State} {m : MethodId} {meth : Method} {c : Code} (h1 : s.methodNamed? y = some m) (h2 : s.vm.method? m = some meth) (h3 : meth.code = some c) (h4 : c.code = bytes)
    (h5 : (c.maxLocals == mx && c.exceptionTable.isEmpty && decide (c.maxStack ≤ mostOperands) && decide (meth.sig.returnType = rt) && !meth.locks && decide (parseMethodDescriptor y.desc = some meth.sig)) = true) : (Jvm.Cond.code y bytes mx rt).before a s = true := by
  simp only [Bool.and_eq_true, beq_iff_eq, Bool.not_eq_true', decide_eq_true_eq] at h5
  obtain ⟨⟨⟨⟨⟨g1, g2⟩, g3⟩, g4⟩, g5⟩, g6⟩ := h5
  simp [Cond.before, Cond.holds, Cond.value, h1, h2, h3, h4, g1, g2, g3, g4, g5, g6]
def isCode : Jvm.Cond → Bool
  | .code _ _ _ _ => true
  | _ => false
theorem all_split {L : List Jvm.Cond} {P : Jvm.Cond → Bool} (h1 : L.all (fun c => isCode c || P c) = true) (h2 : ∀ c ∈ L.filter isCode, P c = true) : L.all P = true := by
  refine List.all_eq_true.mpr fun c hc => ?_
  have h := List.all_eq_true.mp h1 c hc
  rcases Bool.eq_false_or_eq_true (isCode c) with hi | hi
  · exact h2 c (List.mem_filter.mpr ⟨hc, hi⟩)
  · simpa [hi] using h
set_option maxRecDepth 65536 in
theorem w_c0 : (Jvm.Cond.code x code maxLocals ret).before args0 about1 = true := code_word (m := ⟨1, 2⟩) (meth := k1m2) (c := k1c2) (by decide +kernel) rfl rfl rfl (by decide +kernel)
set_option maxRecDepth 65536 in
theorem w_c1 : (Jvm.Cond.code ({ cls := "com/example/palimpsest/palimpsest/engine/ModeConflictsWithPinLaw", name := "mode", desc := "(I)Lcom/example/palimpsest/palimpsest/engine/LockTable$Mode;" } : Jvm.MethodName) method_2_code (1 : Nat) (Option.some (Jvm.ClassFile.FieldType.object "com/example/palimpsest/palimpsest/engine/LockTable$Mode"))).before args0 about1 = true := code_word (m := ⟨1, 1⟩) (meth := k1m1) (c := k1c1) (by decide +kernel) rfl rfl rfl (by decide +kernel)
set_option maxRecDepth 65536 in
theorem w_c2 : (Jvm.Cond.code ({ cls := "com/example/palimpsest/palimpsest/engine/LockTable$Mode", name := "conflictsWith", desc := "(Lcom/example/palimpsest/palimpsest/engine/LockTable$Mode;)Z" } : Jvm.MethodName) prog_34_method_4_code (2 : Nat) (Option.some Jvm.ClassFile.FieldType.boolean)).before args0 about1 = true := code_word (m := ⟨6, 0⟩) (meth := k6m0) (c := k6c0) (by decide +kernel) rfl rfl rfl (by decide +kernel)
def codes1 : List Jvm.Cond := [Jvm.Cond.code x code maxLocals ret, Jvm.Cond.code ({ cls := "com/example/palimpsest/palimpsest/engine/ModeConflictsWithPinLaw", name := "mode", desc := "(I)Lcom/example/palimpsest/palimpsest/engine/LockTable$Mode;" } : Jvm.MethodName) method_2_code (1 : Nat) (Option.some (Jvm.ClassFile.FieldType.object "com/example/palimpsest/palimpsest/engine/LockTable$Mode")), Jvm.Cond.code ({ cls := "com/example/palimpsest/palimpsest/engine/LockTable$Mode", name := "conflictsWith", desc := "(Lcom/example/palimpsest/palimpsest/engine/LockTable$Mode;)Z" } : Jvm.MethodName) prog_34_method_4_code (2 : Nat) (Option.some Jvm.ClassFile.FieldType.boolean)]
set_option maxRecDepth 65536 in
theorem codes_eq : words1.filter isCode = codes1 := rfl
theorem w_codes : ∀ c ∈ words1.filter isCode, c.before args0 about1 = true := by
  rw [codes_eq]
  intro c hc
  simp only [codes1, List.mem_cons, List.not_mem_nil, or_false] at hc
  rcases hc with rfl | rfl | rfl
  · exact w_c0
  · exact w_c1
  · exact w_c2
set_option maxRecDepth 65536 in
theorem w_t1 : words1.all (fun c => isCode c || c.before args0 about1) = true := by decide +kernel
theorem w_tables : (allAtoms (Jvm.Cond.code x code maxLocals ret :: tables_1)).before args0 about1 = true := by
  rw [allAtoms_all]
  show words1.all (fun c => c.before args0 about1) = true
  refine all_split ?_ w_codes
  rw [w_t1]
set_option maxRecDepth 65536 in
theorem w_case : (Jvm.Cond.and given_1 narrow_1).before args0 about1 = true := by decide +kernel
theorem w_applies : (headSpec (Jvm.Cond.code x code maxLocals ret :: tables_1) room_1).applies x e0.platform about1 = true :=
  (Spec.applies_iff w_frames).mpr ⟨w_running, w_runnable, w_alone, w_named, w_hears, w_ripe, w_room, w_tables⟩
theorem atStart : AtStart classFile x code maxLocals ret World_1 tables_1 room_1 Calls_1 rest_1 Pre_1 launch0 p0 e0 about1 theMethod args0 below0 :=
  ⟨lists_1, trivial, launch0.admits_env _ _ _, launch0.least_env, fairChoices_fair.cas, fairChoices_fair.clock, w_frames, w_args, w_heap, w_applies, trivial, trivial, w_case⟩
end start1
theorem witness_1 : WitnessClaimed_1 := ⟨start1.p0, start1.e0, start1.about1, start1.theMethod, start1.args0, start1.below0, start1.atStart⟩
end Jvm.Pilot.@@N@@
