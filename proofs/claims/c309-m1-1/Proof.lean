import JvmDerived
import JvmDerived.Pilot.@@N@@Statement
import JvmDerived.Pilot.@@N@@Code
set_option linter.unusedVariables false
set_option linter.unusedSimpArgs false
namespace Jvm.Pilot.@@N@@
open Jvm Jvm.ClassFile Sem Op Lib Jvm.Free Jvm.Stand Jvm.LawKit Jvm.RoadKit Bundle Jvm.Pilot.@@N@@.Jvm.D
def own_G (p : Program) (e : Env) (below : List Frame) (C : State → Outcome → Prop) (A : State) : Prop := ∃ (t : State) (o : Outcome), Steps p.tables e below A t ∧ C t o
theorem own_st {p : Program} {e : Env} {below : List Frame} {C : State → Outcome → Prop} {A B : State} (k : ∀ t, Steps p.tables e below B t → Steps p.tables e below A t) (h : own_G p e below C B) : own_G p e below C A := by
  obtain ⟨t, o, h1, h2⟩ := h
  exact ⟨t, o, k t h1, h2⟩
abbrev own_b (c : Bool) : Int32 := bif c then 1 else 0
theorem own_nb (c : Bool) : narrow .boolean (.int (own_b c)) = .int (own_b c) := by cases c <;> rfl
theorem own_b_ne {c : Bool} : (own_b c = 0) ↔ c = false := by cases c <;> decide
theorem own_bor (a b : Bool) : (own_b a ||| own_b b) = own_b (a || b) := by cases a <;> cases b <;> decide
def own_ends (r : Int32) (b : Int64) : Bool := !decide (r < 6) || !decide (b < 80)
def own_Gr (Z : State) (h : Heap) (a : Addr) (g : Int64) (r : Int32) (b : Int64) (en : Int32) (pl : Int32) : Prop := Exa Z h a "com/example/cairn/cairn/Groups" ∧ Fld Z h a "com/example/cairn/cairn/Groups" "group" "J" (.long g) ∧ Fld Z h a "com/example/cairn/cairn/Groups" "records" "I" (.int r) ∧ Fld Z h a "com/example/cairn/cairn/Groups" "bytes" "J" (.long b) ∧ Fld Z h a "com/example/cairn/cairn/Groups" "ended" "Z" (.int en) ∧ Fld Z h a "com/example/cairn/cairn/Groups" "place" "I" (.int pl)
theorem own_Gr.put_group {Z : State} {a0 : Array Value} (hw : ∀ d ∈ tables_1, d.before a0 Z = true) {h h' : Heap} {a : Addr} {g : Int64} {r : Int32} {b : Int64} {en : Int32} {pl : Int32} {y : Int64} (G : own_Gr Z h a g r b en pl) (W : Wr h h' a (Jvm.RoadKit.slotOf Z "com/example/cairn/cairn/Groups" "group" "J") (.long y)) : own_Gr Z h' a y r b en pl := by
  obtain ⟨E, F0, F1, F2, F3, F4⟩ := G
  exact ⟨E.wr W, F0.same W, F1.other W (Or.inr (slot_ne (Or.inl (hw _ (List.mem_of_getElem? (i := 20) rfl))) (Or.inl (hw _ (List.mem_of_getElem? (i := 18) rfl))) (by decide) (t := .int) (t' := .long) (by decide) (by decide))), F2.other W (Or.inr (slot_ne (Or.inl (hw _ (List.mem_of_getElem? (i := 22) rfl))) (Or.inl (hw _ (List.mem_of_getElem? (i := 18) rfl))) (by decide) (t := .long) (t' := .long) (by decide) (by decide))), F3.other W (Or.inr (slot_ne (Or.inl (hw _ (List.mem_of_getElem? (i := 11) rfl))) (Or.inl (hw _ (List.mem_of_getElem? (i := 18) rfl))) (by decide) (t := .boolean) (t' := .long) (by decide) (by decide))), F4.other W (Or.inr (slot_ne (Or.inl (hw _ (List.mem_of_getElem? (i := 24) rfl))) (Or.inl (hw _ (List.mem_of_getElem? (i := 18) rfl))) (by decide) (t := .int) (t' := .long) (by decide) (by decide)))⟩
theorem own_Gr.put_records {Z : State} {a0 : Array Value} (hw : ∀ d ∈ tables_1, d.before a0 Z = true) {h h' : Heap} {a : Addr} {g : Int64} {r : Int32} {b : Int64} {en : Int32} {pl : Int32} {y : Int32} (G : own_Gr Z h a g r b en pl) (W : Wr h h' a (Jvm.RoadKit.slotOf Z "com/example/cairn/cairn/Groups" "records" "I") (.int y)) : own_Gr Z h' a g y b en pl := by
  obtain ⟨E, F0, F1, F2, F3, F4⟩ := G
  exact ⟨E.wr W, F0.other W (Or.inr (slot_ne (Or.inl (hw _ (List.mem_of_getElem? (i := 18) rfl))) (Or.inl (hw _ (List.mem_of_getElem? (i := 20) rfl))) (by decide) (t := .long) (t' := .int) (by decide) (by decide))), F1.same W, F2.other W (Or.inr (slot_ne (Or.inl (hw _ (List.mem_of_getElem? (i := 22) rfl))) (Or.inl (hw _ (List.mem_of_getElem? (i := 20) rfl))) (by decide) (t := .long) (t' := .int) (by decide) (by decide))), F3.other W (Or.inr (slot_ne (Or.inl (hw _ (List.mem_of_getElem? (i := 11) rfl))) (Or.inl (hw _ (List.mem_of_getElem? (i := 20) rfl))) (by decide) (t := .boolean) (t' := .int) (by decide) (by decide))), F4.other W (Or.inr (slot_ne (Or.inl (hw _ (List.mem_of_getElem? (i := 24) rfl))) (Or.inl (hw _ (List.mem_of_getElem? (i := 20) rfl))) (by decide) (t := .int) (t' := .int) (by decide) (by decide)))⟩
theorem own_Gr.put_bytes {Z : State} {a0 : Array Value} (hw : ∀ d ∈ tables_1, d.before a0 Z = true) {h h' : Heap} {a : Addr} {g : Int64} {r : Int32} {b : Int64} {en : Int32} {pl : Int32} {y : Int64} (G : own_Gr Z h a g r b en pl) (W : Wr h h' a (Jvm.RoadKit.slotOf Z "com/example/cairn/cairn/Groups" "bytes" "J") (.long y)) : own_Gr Z h' a g r y en pl := by
  obtain ⟨E, F0, F1, F2, F3, F4⟩ := G
  exact ⟨E.wr W, F0.other W (Or.inr (slot_ne (Or.inl (hw _ (List.mem_of_getElem? (i := 18) rfl))) (Or.inl (hw _ (List.mem_of_getElem? (i := 22) rfl))) (by decide) (t := .long) (t' := .long) (by decide) (by decide))), F1.other W (Or.inr (slot_ne (Or.inl (hw _ (List.mem_of_getElem? (i := 20) rfl))) (Or.inl (hw _ (List.mem_of_getElem? (i := 22) rfl))) (by decide) (t := .int) (t' := .long) (by decide) (by decide))), F2.same W, F3.other W (Or.inr (slot_ne (Or.inl (hw _ (List.mem_of_getElem? (i := 11) rfl))) (Or.inl (hw _ (List.mem_of_getElem? (i := 22) rfl))) (by decide) (t := .boolean) (t' := .long) (by decide) (by decide))), F4.other W (Or.inr (slot_ne (Or.inl (hw _ (List.mem_of_getElem? (i := 24) rfl))) (Or.inl (hw _ (List.mem_of_getElem? (i := 22) rfl))) (by decide) (t := .int) (t' := .long) (by decide) (by decide)))⟩
theorem own_Gr.put_ended {Z : State} {a0 : Array Value} (hw : ∀ d ∈ tables_1, d.before a0 Z = true) {h h' : Heap} {a : Addr} {g : Int64} {r : Int32} {b : Int64} {en : Int32} {pl : Int32} {y : Int32} (G : own_Gr Z h a g r b en pl) (W : Wr h h' a (Jvm.RoadKit.slotOf Z "com/example/cairn/cairn/Groups" "ended" "Z") (.int y)) : own_Gr Z h' a g r b y pl := by
  obtain ⟨E, F0, F1, F2, F3, F4⟩ := G
  exact ⟨E.wr W, F0.other W (Or.inr (slot_ne (Or.inl (hw _ (List.mem_of_getElem? (i := 18) rfl))) (Or.inl (hw _ (List.mem_of_getElem? (i := 11) rfl))) (by decide) (t := .long) (t' := .boolean) (by decide) (by decide))), F1.other W (Or.inr (slot_ne (Or.inl (hw _ (List.mem_of_getElem? (i := 20) rfl))) (Or.inl (hw _ (List.mem_of_getElem? (i := 11) rfl))) (by decide) (t := .int) (t' := .boolean) (by decide) (by decide))), F2.other W (Or.inr (slot_ne (Or.inl (hw _ (List.mem_of_getElem? (i := 22) rfl))) (Or.inl (hw _ (List.mem_of_getElem? (i := 11) rfl))) (by decide) (t := .long) (t' := .boolean) (by decide) (by decide))), F3.same W, F4.other W (Or.inr (slot_ne (Or.inl (hw _ (List.mem_of_getElem? (i := 24) rfl))) (Or.inl (hw _ (List.mem_of_getElem? (i := 11) rfl))) (by decide) (t := .int) (t' := .boolean) (by decide) (by decide)))⟩
theorem own_Gr.put_place {Z : State} {a0 : Array Value} (hw : ∀ d ∈ tables_1, d.before a0 Z = true) {h h' : Heap} {a : Addr} {g : Int64} {r : Int32} {b : Int64} {en : Int32} {pl : Int32} {y : Int32} (G : own_Gr Z h a g r b en pl) (W : Wr h h' a (Jvm.RoadKit.slotOf Z "com/example/cairn/cairn/Groups" "place" "I") (.int y)) : own_Gr Z h' a g r b en y := by
  obtain ⟨E, F0, F1, F2, F3, F4⟩ := G
  exact ⟨E.wr W, F0.other W (Or.inr (slot_ne (Or.inl (hw _ (List.mem_of_getElem? (i := 18) rfl))) (Or.inl (hw _ (List.mem_of_getElem? (i := 24) rfl))) (by decide) (t := .long) (t' := .int) (by decide) (by decide))), F1.other W (Or.inr (slot_ne (Or.inl (hw _ (List.mem_of_getElem? (i := 20) rfl))) (Or.inl (hw _ (List.mem_of_getElem? (i := 24) rfl))) (by decide) (t := .int) (t' := .int) (by decide) (by decide))), F2.other W (Or.inr (slot_ne (Or.inl (hw _ (List.mem_of_getElem? (i := 22) rfl))) (Or.inl (hw _ (List.mem_of_getElem? (i := 24) rfl))) (by decide) (t := .long) (t' := .int) (by decide) (by decide))), F3.other W (Or.inr (slot_ne (Or.inl (hw _ (List.mem_of_getElem? (i := 11) rfl))) (Or.inl (hw _ (List.mem_of_getElem? (i := 24) rfl))) (by decide) (t := .boolean) (t' := .int) (by decide) (by decide))), F4.same W⟩
theorem own_Gr.ext {Z : State} {h h' : Heap} {a : Addr} {g : Int64} {r : Int32} {b : Int64} {en : Int32} {pl : Int32} (G : own_Gr Z h a g r b en pl) (E' : Ext h h') : own_Gr Z h' a g r b en pl := by
  obtain ⟨E, F0, F1, F2, F3, F4⟩ := G
  exact ⟨E.ext E', F0.ext E', F1.ext E', F2.ext E', F3.ext E', F4.ext E'⟩
theorem own_Gr.keep {Z : State} {h h' : Heap} {a : Addr} {ws : List Addr} {g : Int64} {r : Int32} {b : Int64} {en : Int32} {pl : Int32} (G : own_Gr Z h a g r b en pl) (K : Keep h h' ws) (hn : a ∉ ws) : own_Gr Z h' a g r b en pl := by
  obtain ⟨E, F0, F1, F2, F3, F4⟩ := G
  exact ⟨E.keep K, F0.keep K hn, F1.keep K hn, F2.keep K hn, F3.keep K hn, F4.keep K hn⟩
theorem own_Gr.new {Z : State} {a0 : Array Value} (hw : ∀ d ∈ tables_1, d.before a0 Z = true) {h : Heap} {a : Addr} (A : Exa Z h a "com/example/cairn/cairn/Groups") (D : ∀ {O nm d : String} {ty : FieldType}, Laid Z a0 "com/example/cairn/cairn/Groups" O nm d → parseFieldDescriptor d = some ty → Fld Z h a O nm d (defaultValue ty)) : own_Gr Z h a 0 0 0 0 0 :=
  ⟨A, D (Or.inl (hw _ (List.mem_of_getElem? (i := 18) rfl))) (ty := .long) (by decide), D (Or.inl (hw _ (List.mem_of_getElem? (i := 20) rfl))) (ty := .int) (by decide), D (Or.inl (hw _ (List.mem_of_getElem? (i := 22) rfl))) (ty := .long) (by decide), D (Or.inl (hw _ (List.mem_of_getElem? (i := 11) rfl))) (ty := .boolean) (by decide), D (Or.inl (hw _ (List.mem_of_getElem? (i := 24) rfl))) (ty := .int) (by decide)⟩
theorem d5_0 : decode prog_88_method_2_code 0 = .ok (.iload_n 0, 1) := by decide +kernel
theorem d5_1 : decode prog_88_method_2_code 1 = .ok (.bipush 6, 2) := by decide +kernel
theorem d5_3 : decode prog_88_method_2_code 3 = .ok (.if_icmp .ge 11, 3) := by decide +kernel
theorem d5_6 : decode prog_88_method_2_code 6 = .ok (.lload_n 1, 1) := by decide +kernel
theorem d5_7 : decode prog_88_method_2_code 7 = .ok (.ldc2_w 46, 3) := by decide +kernel
theorem d5_10 : decode prog_88_method_2_code 10 = .ok (.lcmp, 1) := by decide +kernel
theorem d5_11 : decode prog_88_method_2_code 11 = .ok (.ifCond .lt 7, 3) := by decide +kernel
theorem d5_14 : decode prog_88_method_2_code 14 = .ok (.iconst 1, 1) := by decide +kernel
theorem d5_15 : decode prog_88_method_2_code 15 = .ok (.goto 4, 3) := by decide +kernel
theorem d5_18 : decode prog_88_method_2_code 18 = .ok (.iconst 0, 1) := by decide +kernel
theorem d5_19 : decode prog_88_method_2_code 19 = .ok (.ireturn, 1) := by decide +kernel
theorem pn_5 : plainName "com/example/cairn/cairn/Records" = true := by first | (simp [plainName, overriddenIn]; done) | decide +kernel
theorem ef_5 (m : MethodId) (x0 : Int32) (x1 : Int64) : entryFrame m #[(.int x0), (.long x1)] 3 = mkF m 0 #[.val (.int x0), .val (.long x1), .second] [] := by first | (simp [entryFrame, mkF, argsToLocals, Value.category]; done) | rfl
def Q5 (Z : State) (p0 : Int32) (q1 : Int64) (h0 : Heap) (n0 : Nat) (v : Option Value) (h : Heap) (L : List Loc) : Prop := v = some (.int (own_b (own_ends p0 q1))) ∧ Fr n0 L ∧ h = h0
set_option maxRecDepth 65536 in
set_option maxHeartbeats 40000000 in
theorem rm5 (l : Launch) (Z : State) (a0 : Array Value) (hw : ∀ d ∈ tables_1, d.before a0 Z = true) (ws : List Jvm.Cond) (p0 : Int32) (q1 : Int64) (h0 : Heap) (n0 : Nat) (Z0 : n0 ≤ h0.size) :
    MetFree l (⟨"com/example/cairn/cairn/Records", "endsGroup", "(IJ)Z"⟩ : MethodName) (head1 (Jvm.Cond.code (⟨"com/example/cairn/cairn/Records", "endsGroup", "(IJ)Z"⟩ : MethodName) prog_88_method_2_code 3 (some .boolean) :: ws) ({ frames := 0, cells := 0, slots := 0, locals := 0 } : Room)) (fun a U => a = #[(.int p0), (.long q1)] ∧ Z.Warmed39 U.vm ∧ U.heap = h0) (fun _ _ _ _ _ => True) (fun _ U o U' => ∃ v L, o = .returned v ∧ Q5 Z p0 q1 h0 n0 v U'.heap L ∧ FrameEnd U o U' L ({ frames := 0, cells := 0, slots := 0, locals := 0 } : Room).cells ({ frames := 0, cells := 0, slots := 0, locals := 0 } : Room).slots) := by
  refine MetFree.of_bodySF (plainFor_of_name pn_5) hisR ?_
  intro p e s m args below meth c s₁ Bd hml0 hP hK
  obtain ⟨rfl, hZ, hh⟩ := hP
  have hx := Bd.exec
  have hby := Bd.bytes
  have hml : c.maxLocals = 3 := hml0
  have hown : s.vm.findClass "com/example/cairn/cairn/Records" = some m.cls := findClass_of_methodNamed Bd.named
  have hnm := (name_of_methodNamed Bd.named Bd.method).1
  have X0 : Stand p l e ({ frames := 0, cells := 0, slots := 0, locals := 0 } : Room) s m #[(.int p0), (.long q1)] below meth c s₁ [] 0 0 := Stand.of_body Bd
  have e0 : s₁.heap = h0 := by rw [← hh, Bd.state]; rfl
  have N0 := Fr.nil n0
  show own_G p e below (fun (t : State) (o : Outcome) => t.status = .running ∧ Ended t below o ∧ ∃ v L, o = .returned v ∧ Q5 Z p0 q1 h0 n0 v t.heap L ∧ FrameEnd s o t L ({ frames := 0, cells := 0, slots := 0, locals := 0 } : Room).cells ({ frames := 0, cells := 0, slots := 0, locals := 0 } : Room).slots) (s₁.setTop (entryFrame m #[(.int p0), (.long q1)] 3))
  rw [ef_5 m p0 q1]
  refine own_st (B := s₁.setTop (mkF m 3 #[.val (.int p0), .val (.long q1), .second] [(.int (6 : Int32)), (.int p0)])) (fun t k => ?_) ?_
  · show Steps p.tables e below (s₁.setTop (mkF m 0 #[.val (.int p0), .val (.long q1), .second] [])) _
    refine XS.iloadN X0.here hx rfl (hb hby d5_0) rfl ?_
    show Steps p.tables e below (s₁.setTop (mkF m 1 #[.val (.int p0), .val (.long q1), .second] [(.int p0)])) _
    refine XS.bipush X0.here hx rfl (hb hby d5_1) ?_
    exact k
  by_cases h3 : p0 < (6 : Int32)
  · refine own_st (B := s₁.setTop (mkF m 11 #[.val (.int p0), .val (.long q1), .second] [(.int (lcmpW q1 (80 : Int64)))])) (fun t k => ?_) ?_
    · show Steps p.tables e below (s₁.setTop (mkF m 3 #[.val (.int p0), .val (.long q1), .second] [(.int (6 : Int32)), (.int p0)])) _
      refine XS.icmpNo X0.here hx rfl (hb hby d5_3) rfl (tlt h3).2.1 ?_
      show Steps p.tables e below (s₁.setTop (mkF m 6 #[.val (.int p0), .val (.long q1), .second] [])) _
      refine XS.lloadN X0.here hx rfl (hb hby d5_6) rfl ?_
      show Steps p.tables e below (s₁.setTop (mkF m 7 #[.val (.int p0), .val (.long q1), .second] [(.long q1)])) _
      refine X0.ldc2Long hx hown (mvT hZ (hw _ (List.mem_of_getElem? (i := 34) rfl))) (g := (mkF m 7 #[.val (.int p0), .val (.long q1), .second] [(.long q1)])) rfl (hb hby d5_7) _ ?_
      show Steps p.tables e below (s₁.setTop (mkF m 10 #[.val (.int p0), .val (.long q1), .second] [(.long (80 : Int64)), (.long q1)])) _
      refine XS.lcmp X0.here hx rfl (hb hby d5_10) rfl ?_
      exact k
    by_cases h11 : q1 < 80
    · refine own_st (B := s₁.setTop (mkF m 19 #[.val (.int p0), .val (.long q1), .second] [(.int (0 : Int32))])) (fun t k => ?_) ?_
      · show Steps p.tables e below (s₁.setTop (mkF m 11 #[.val (.int p0), .val (.long q1), .second] [(.int (lcmpW q1 (80 : Int64)))])) _
        refine XS.ifYes X0.here hx rfl (pc0 := 11) (pc' := 18) rfl (hb hby d5_11) rfl ((if0 _ _).trans (tlt ((lw_lt _ _).mpr h11)).1) (by decide) (by decide) ?_
        show Steps p.tables e below (s₁.setTop (mkF m 18 #[.val (.int p0), .val (.long q1), .second] [])) _
        refine XS.iconst X0.here hx rfl (hb hby d5_18) ?_
        exact k
      obtain ⟨fs, hr, hrun, hended, hW, hsame⟩ := X0.leave (v := some (.int (0 : Int32))) (fun h => by rw [Bd.returns] at h; cases h)
      refine ⟨_, _, ?_, hrun, hended, _, _, rfl, ?_, ⟨_, rfl⟩, hW, hsame.mono (by decide) (by decide)⟩
      · exact retOut X0 hx Bd.returns rfl (Or.inl ⟨rfl, by simp, _, rfl⟩) (hb hby d5_19) hr
      · show Q5 Z p0 q1 h0 n0 _ s₁.heap _
        rw [e0]
        exact ⟨by simp [own_ends, h3, h11], N0, rfl⟩
    · refine own_st (B := s₁.setTop (mkF m 19 #[.val (.int p0), .val (.long q1), .second] [(.int (1 : Int32))])) (fun t k => ?_) ?_
      · show Steps p.tables e below (s₁.setTop (mkF m 11 #[.val (.int p0), .val (.long q1), .second] [(.int (lcmpW q1 (80 : Int64)))])) _
        refine XS.ifNo X0.here hx rfl (hb hby d5_11) rfl ((if0 _ _).trans (flt (fun q => h11 ((lw_lt _ _).mp q))).1) ?_
        show Steps p.tables e below (s₁.setTop (mkF m 14 #[.val (.int p0), .val (.long q1), .second] [])) _
        refine XS.iconst X0.here hx rfl (hb hby d5_14) ?_
        show Steps p.tables e below (s₁.setTop (mkF m 15 #[.val (.int p0), .val (.long q1), .second] [(.int (1 : Int32))])) _
        refine XS.goto X0.here hx rfl (pc0 := 15) (pc' := 19) rfl (hb hby d5_15) (by decide) (by decide) ?_
        exact k
      obtain ⟨fs, hr, hrun, hended, hW, hsame⟩ := X0.leave (v := some (.int (1 : Int32))) (fun h => by rw [Bd.returns] at h; cases h)
      refine ⟨_, _, ?_, hrun, hended, _, _, rfl, ?_, ⟨_, rfl⟩, hW, hsame.mono (by decide) (by decide)⟩
      · exact retOut X0 hx Bd.returns rfl (Or.inl ⟨rfl, by simp, _, rfl⟩) (hb hby d5_19) hr
      · show Q5 Z p0 q1 h0 n0 _ s₁.heap _
        rw [e0]
        exact ⟨by simp [own_ends, h3, h11], N0, rfl⟩
  · refine own_st (B := s₁.setTop (mkF m 19 #[.val (.int p0), .val (.long q1), .second] [(.int (1 : Int32))])) (fun t k => ?_) ?_
    · show Steps p.tables e below (s₁.setTop (mkF m 3 #[.val (.int p0), .val (.long q1), .second] [(.int (6 : Int32)), (.int p0)])) _
      refine XS.icmpYes X0.here hx rfl (pc0 := 3) (pc' := 14) rfl (hb hby d5_3) rfl (flt h3).2.1 (by decide) (by decide) ?_
      show Steps p.tables e below (s₁.setTop (mkF m 14 #[.val (.int p0), .val (.long q1), .second] [])) _
      refine XS.iconst X0.here hx rfl (hb hby d5_14) ?_
      show Steps p.tables e below (s₁.setTop (mkF m 15 #[.val (.int p0), .val (.long q1), .second] [(.int (1 : Int32))])) _
      refine XS.goto X0.here hx rfl (pc0 := 15) (pc' := 19) rfl (hb hby d5_15) (by decide) (by decide) ?_
      exact k
    obtain ⟨fs, hr, hrun, hended, hW, hsame⟩ := X0.leave (v := some (.int (1 : Int32))) (fun h => by rw [Bd.returns] at h; cases h)
    refine ⟨_, _, ?_, hrun, hended, _, _, rfl, ?_, ⟨_, rfl⟩, hW, hsame.mono (by decide) (by decide)⟩
    · exact retOut X0 hx Bd.returns rfl (Or.inl ⟨rfl, by simp, _, rfl⟩) (hb hby d5_19) hr
    · show Q5 Z p0 q1 h0 n0 _ s₁.heap _
      rw [e0]
      exact ⟨by simp [own_ends, h3], N0, rfl⟩
theorem d9_0 : decode method_3_code 0 = .ok (.iload_n 0, 1) := by decide +kernel
theorem d9_1 : decode method_3_code 1 = .ok (.bipush 6, 2) := by decide +kernel
theorem d9_3 : decode method_3_code 3 = .ok (.if_icmp .ge 11, 3) := by decide +kernel
theorem d9_6 : decode method_3_code 6 = .ok (.lload_n 1, 1) := by decide +kernel
theorem d9_7 : decode method_3_code 7 = .ok (.ldc2_w 40, 3) := by decide +kernel
theorem d9_10 : decode method_3_code 10 = .ok (.lcmp, 1) := by decide +kernel
theorem d9_11 : decode method_3_code 11 = .ok (.ifCond .lt 7, 3) := by decide +kernel
theorem d9_14 : decode method_3_code 14 = .ok (.iconst 1, 1) := by decide +kernel
theorem d9_15 : decode method_3_code 15 = .ok (.goto 4, 3) := by decide +kernel
theorem d9_18 : decode method_3_code 18 = .ok (.iconst 0, 1) := by decide +kernel
theorem d9_19 : decode method_3_code 19 = .ok (.ireturn, 1) := by decide +kernel
theorem pn_9 : plainName "com/example/cairn/cairn/GroupsStartPinLaw" = true := by first | (simp [plainName, overriddenIn]; done) | decide +kernel
theorem ef_9 (m : MethodId) (x0 : Int32) (x1 : Int64) : entryFrame m #[(.int x0), (.long x1)] 3 = mkF m 0 #[.val (.int x0), .val (.long x1), .second] [] := by first | (simp [entryFrame, mkF, argsToLocals, Value.category]; done) | rfl
def Q9 (Z : State) (p0 : Int32) (q1 : Int64) (h0 : Heap) (n0 : Nat) (v : Option Value) (h : Heap) (L : List Loc) : Prop := v = some (.int (own_b (own_ends p0 q1))) ∧ Fr n0 L ∧ h = h0
set_option maxRecDepth 65536 in
set_option maxHeartbeats 40000000 in
theorem rm9 (l : Launch) (Z : State) (a0 : Array Value) (hw : ∀ d ∈ tables_1, d.before a0 Z = true) (ws : List Jvm.Cond) (p0 : Int32) (q1 : Int64) (h0 : Heap) (n0 : Nat) (Z0 : n0 ≤ h0.size) :
    MetFree l (⟨"com/example/cairn/cairn/GroupsStartPinLaw", "ends", "(IJ)Z"⟩ : MethodName) (head1 (Jvm.Cond.code (⟨"com/example/cairn/cairn/GroupsStartPinLaw", "ends", "(IJ)Z"⟩ : MethodName) method_3_code 3 (some .boolean) :: ws) ({ frames := 0, cells := 0, slots := 0, locals := 0 } : Room)) (fun a U => a = #[(.int p0), (.long q1)] ∧ Z.Warmed39 U.vm ∧ U.heap = h0) (fun _ _ _ _ _ => True) (fun _ U o U' => ∃ v L, o = .returned v ∧ Q9 Z p0 q1 h0 n0 v U'.heap L ∧ FrameEnd U o U' L ({ frames := 0, cells := 0, slots := 0, locals := 0 } : Room).cells ({ frames := 0, cells := 0, slots := 0, locals := 0 } : Room).slots) := by
  refine MetFree.of_bodySF (plainFor_of_name pn_9) hisR ?_
  intro p e s m args below meth c s₁ Bd hml0 hP hK
  obtain ⟨rfl, hZ, hh⟩ := hP
  have hx := Bd.exec
  have hby := Bd.bytes
  have hml : c.maxLocals = 3 := hml0
  have hown : s.vm.findClass "com/example/cairn/cairn/GroupsStartPinLaw" = some m.cls := findClass_of_methodNamed Bd.named
  have hnm := (name_of_methodNamed Bd.named Bd.method).1
  have X0 : Stand p l e ({ frames := 0, cells := 0, slots := 0, locals := 0 } : Room) s m #[(.int p0), (.long q1)] below meth c s₁ [] 0 0 := Stand.of_body Bd
  have e0 : s₁.heap = h0 := by rw [← hh, Bd.state]; rfl
  have N0 := Fr.nil n0
  show own_G p e below (fun (t : State) (o : Outcome) => t.status = .running ∧ Ended t below o ∧ ∃ v L, o = .returned v ∧ Q9 Z p0 q1 h0 n0 v t.heap L ∧ FrameEnd s o t L ({ frames := 0, cells := 0, slots := 0, locals := 0 } : Room).cells ({ frames := 0, cells := 0, slots := 0, locals := 0 } : Room).slots) (s₁.setTop (entryFrame m #[(.int p0), (.long q1)] 3))
  rw [ef_9 m p0 q1]
  refine own_st (B := s₁.setTop (mkF m 3 #[.val (.int p0), .val (.long q1), .second] [(.int (6 : Int32)), (.int p0)])) (fun t k => ?_) ?_
  · show Steps p.tables e below (s₁.setTop (mkF m 0 #[.val (.int p0), .val (.long q1), .second] [])) _
    refine XS.iloadN X0.here hx rfl (hb hby d9_0) rfl ?_
    show Steps p.tables e below (s₁.setTop (mkF m 1 #[.val (.int p0), .val (.long q1), .second] [(.int p0)])) _
    refine XS.bipush X0.here hx rfl (hb hby d9_1) ?_
    exact k
  by_cases h3 : p0 < (6 : Int32)
  · refine own_st (B := s₁.setTop (mkF m 11 #[.val (.int p0), .val (.long q1), .second] [(.int (lcmpW q1 (80 : Int64)))])) (fun t k => ?_) ?_
    · show Steps p.tables e below (s₁.setTop (mkF m 3 #[.val (.int p0), .val (.long q1), .second] [(.int (6 : Int32)), (.int p0)])) _
      refine XS.icmpNo X0.here hx rfl (hb hby d9_3) rfl (tlt h3).2.1 ?_
      show Steps p.tables e below (s₁.setTop (mkF m 6 #[.val (.int p0), .val (.long q1), .second] [])) _
      refine XS.lloadN X0.here hx rfl (hb hby d9_6) rfl ?_
      show Steps p.tables e below (s₁.setTop (mkF m 7 #[.val (.int p0), .val (.long q1), .second] [(.long q1)])) _
      refine X0.ldc2Long hx hown (mvT hZ (hw _ (List.mem_of_getElem? (i := 54) rfl))) (g := (mkF m 7 #[.val (.int p0), .val (.long q1), .second] [(.long q1)])) rfl (hb hby d9_7) _ ?_
      show Steps p.tables e below (s₁.setTop (mkF m 10 #[.val (.int p0), .val (.long q1), .second] [(.long (80 : Int64)), (.long q1)])) _
      refine XS.lcmp X0.here hx rfl (hb hby d9_10) rfl ?_
      exact k
    by_cases h11 : q1 < 80
    · refine own_st (B := s₁.setTop (mkF m 19 #[.val (.int p0), .val (.long q1), .second] [(.int (0 : Int32))])) (fun t k => ?_) ?_
      · show Steps p.tables e below (s₁.setTop (mkF m 11 #[.val (.int p0), .val (.long q1), .second] [(.int (lcmpW q1 (80 : Int64)))])) _
        refine XS.ifYes X0.here hx rfl (pc0 := 11) (pc' := 18) rfl (hb hby d9_11) rfl ((if0 _ _).trans (tlt ((lw_lt _ _).mpr h11)).1) (by decide) (by decide) ?_
        show Steps p.tables e below (s₁.setTop (mkF m 18 #[.val (.int p0), .val (.long q1), .second] [])) _
        refine XS.iconst X0.here hx rfl (hb hby d9_18) ?_
        exact k
      obtain ⟨fs, hr, hrun, hended, hW, hsame⟩ := X0.leave (v := some (.int (0 : Int32))) (fun h => by rw [Bd.returns] at h; cases h)
      refine ⟨_, _, ?_, hrun, hended, _, _, rfl, ?_, ⟨_, rfl⟩, hW, hsame.mono (by decide) (by decide)⟩
      · exact retOut X0 hx Bd.returns rfl (Or.inl ⟨rfl, by simp, _, rfl⟩) (hb hby d9_19) hr
      · show Q9 Z p0 q1 h0 n0 _ s₁.heap _
        rw [e0]
        exact ⟨by simp [own_ends, h3, h11], N0, rfl⟩
    · refine own_st (B := s₁.setTop (mkF m 19 #[.val (.int p0), .val (.long q1), .second] [(.int (1 : Int32))])) (fun t k => ?_) ?_
      · show Steps p.tables e below (s₁.setTop (mkF m 11 #[.val (.int p0), .val (.long q1), .second] [(.int (lcmpW q1 (80 : Int64)))])) _
        refine XS.ifNo X0.here hx rfl (hb hby d9_11) rfl ((if0 _ _).trans (flt (fun q => h11 ((lw_lt _ _).mp q))).1) ?_
        show Steps p.tables e below (s₁.setTop (mkF m 14 #[.val (.int p0), .val (.long q1), .second] [])) _
        refine XS.iconst X0.here hx rfl (hb hby d9_14) ?_
        show Steps p.tables e below (s₁.setTop (mkF m 15 #[.val (.int p0), .val (.long q1), .second] [(.int (1 : Int32))])) _
        refine XS.goto X0.here hx rfl (pc0 := 15) (pc' := 19) rfl (hb hby d9_15) (by decide) (by decide) ?_
        exact k
      obtain ⟨fs, hr, hrun, hended, hW, hsame⟩ := X0.leave (v := some (.int (1 : Int32))) (fun h => by rw [Bd.returns] at h; cases h)
      refine ⟨_, _, ?_, hrun, hended, _, _, rfl, ?_, ⟨_, rfl⟩, hW, hsame.mono (by decide) (by decide)⟩
      · exact retOut X0 hx Bd.returns rfl (Or.inl ⟨rfl, by simp, _, rfl⟩) (hb hby d9_19) hr
      · show Q9 Z p0 q1 h0 n0 _ s₁.heap _
        rw [e0]
        exact ⟨by simp [own_ends, h3, h11], N0, rfl⟩
  · refine own_st (B := s₁.setTop (mkF m 19 #[.val (.int p0), .val (.long q1), .second] [(.int (1 : Int32))])) (fun t k => ?_) ?_
    · show Steps p.tables e below (s₁.setTop (mkF m 3 #[.val (.int p0), .val (.long q1), .second] [(.int (6 : Int32)), (.int p0)])) _
      refine XS.icmpYes X0.here hx rfl (pc0 := 3) (pc' := 14) rfl (hb hby d9_3) rfl (flt h3).2.1 (by decide) (by decide) ?_
      show Steps p.tables e below (s₁.setTop (mkF m 14 #[.val (.int p0), .val (.long q1), .second] [])) _
      refine XS.iconst X0.here hx rfl (hb hby d9_14) ?_
      show Steps p.tables e below (s₁.setTop (mkF m 15 #[.val (.int p0), .val (.long q1), .second] [(.int (1 : Int32))])) _
      refine XS.goto X0.here hx rfl (pc0 := 15) (pc' := 19) rfl (hb hby d9_15) (by decide) (by decide) ?_
      exact k
    obtain ⟨fs, hr, hrun, hended, hW, hsame⟩ := X0.leave (v := some (.int (1 : Int32))) (fun h => by rw [Bd.returns] at h; cases h)
    refine ⟨_, _, ?_, hrun, hended, _, _, rfl, ?_, ⟨_, rfl⟩, hW, hsame.mono (by decide) (by decide)⟩
    · exact retOut X0 hx Bd.returns rfl (Or.inl ⟨rfl, by simp, _, rfl⟩) (hb hby d9_19) hr
    · show Q9 Z p0 q1 h0 n0 _ s₁.heap _
      rw [e0]
      exact ⟨by simp [own_ends, h3], N0, rfl⟩
theorem d1_0 : decode prog_45_method_1_code 0 = .ok (.aload_n 0, 1) := by decide +kernel
theorem d1_1 : decode prog_45_method_1_code 1 = .ok (.invokespecial 1, 3) := by decide +kernel
theorem d1_4 : decode prog_45_method_1_code 4 = .ok (.aload_n 0, 1) := by decide +kernel
theorem d1_5 : decode prog_45_method_1_code 5 = .ok (.iconst 1, 1) := by decide +kernel
theorem d1_6 : decode prog_45_method_1_code 6 = .ok (.putfield 7, 3) := by decide +kernel
theorem d1_9 : decode prog_45_method_1_code 9 = .ok (.return_, 1) := by decide +kernel
theorem pn_1 : plainName "com/example/cairn/cairn/Groups" = true := by first | (simp [plainName, overriddenIn]; done) | decide +kernel
theorem ef_1 (m : MethodId) (x0 : Addr) : entryFrame m #[(.ref x0)] 1 = mkF m 0 #[.val (.ref x0)] [] := by first | (simp [entryFrame, mkF, argsToLocals, Value.category]; done) | rfl
def Q1 (Z : State) (r0 : Addr) (h0 : Heap) (n0 : Nat) (v : Option Value) (h : Heap) (L : List Loc) : Prop := v = none ∧ Fr n0 L ∧ Keep h0 h [r0] ∧ own_Gr Z h r0 0 0 0 (own_b true) 0
set_option maxRecDepth 65536 in
set_option maxHeartbeats 40000000 in
theorem rm1 (l : Launch) (Z : State) (a0 : Array Value) (hw : ∀ d ∈ tables_1, d.before a0 Z = true) (ws : List Jvm.Cond) (r0 : Addr) (h0 : Heap) (n0 : Nat) (Z0 : n0 ≤ h0.size) (G : own_Gr Z h0 r0 0 0 0 0 0) (ge : n0 ≤ r0) :
    MetFree l (⟨"com/example/cairn/cairn/Groups", "<init>", "()V"⟩ : MethodName) (head1 (Jvm.Cond.code (⟨"com/example/cairn/cairn/Groups", "<init>", "()V"⟩ : MethodName) prog_45_method_1_code 1 none :: ws) ({ frames := 1, cells := 0, slots := 0, locals := 12 } : Room)) (fun a U => a = #[(.ref r0)] ∧ Z.Warmed39 U.vm ∧ U.heap = h0) (fun _ _ _ _ _ => True) (fun _ U o U' => ∃ v L, o = .returned v ∧ Q1 Z r0 h0 n0 v U'.heap L ∧ FrameEnd U o U' L ({ frames := 1, cells := 0, slots := 0, locals := 12 } : Room).cells ({ frames := 1, cells := 0, slots := 0, locals := 12 } : Room).slots) := by
  refine MetFree.of_bodySF (plainFor_of_name pn_1) hisR ?_
  intro p e s m args below meth c s₁ Bd hml0 hP hK
  obtain ⟨rfl, hZ, hh⟩ := hP
  have hx := Bd.exec
  have hby := Bd.bytes
  have hml : c.maxLocals = 1 := hml0
  have hown : s.vm.findClass "com/example/cairn/cairn/Groups" = some m.cls := findClass_of_methodNamed Bd.named
  have hnm := (name_of_methodNamed Bd.named Bd.method).1
  have X0 : Stand p l e ({ frames := 1, cells := 0, slots := 0, locals := 12 } : Room) s m #[(.ref r0)] below meth c s₁ [] 0 0 := Stand.of_body Bd
  have e0 : s₁.heap = h0 := by rw [← hh, Bd.state]; rfl
  have N0 := Fr.nil n0
  show own_G p e below (fun (t : State) (o : Outcome) => t.status = .running ∧ Ended t below o ∧ ∃ v L, o = .returned v ∧ Q1 Z r0 h0 n0 v t.heap L ∧ FrameEnd s o t L ({ frames := 1, cells := 0, slots := 0, locals := 12 } : Room).cells ({ frames := 1, cells := 0, slots := 0, locals := 12 } : Room).slots) (s₁.setTop (entryFrame m #[(.ref r0)] 1))
  rw [ef_1 m r0]
  have K := Keep.refl h0 [r0]
  refine own_st (B := s₁.setTop (mkF m 1 #[.val (.ref r0)] [(.ref r0)])) (fun t k => ?_) ?_
  · show Steps p.tables e below (s₁.setTop (mkF m 0 #[.val (.ref r0)] [])) _
    refine XS.aloadN X0.here hx rfl (hb hby d1_0) rfl rfl ?_
    exact k
  obtain ⟨T1, X1, e1, st1⟩ := initO X0 hx hZ hown (hw _ (List.mem_of_getElem? (i := 7) rfl)) (hw _ (List.mem_of_getElem? (i := 8) rfl)) (hw _ (List.mem_of_getElem? (i := 9) rfl)) e0 (g := (mkF m 1 #[.val (.ref r0)] [(.ref r0)])) rfl (by rw [hml]; rfl) rfl (hb hby d1_1) (by decide) (W := 0) (by show 2 * 0 + _ ≤ _; exact Nat.le_of_eq rfl) (by decide)
  refine own_st (B := T1.setTop (mkF m 4 #[.val (.ref r0)] [])) (fun t k => st1 t k) ?_
  refine own_st (B := T1.setTop (mkF m 6 #[.val (.ref r0)] [(.int (1 : Int32)), (.ref r0)])) (fun t k => ?_) ?_
  · show Steps p.tables e below (T1.setTop (mkF m 4 #[.val (.ref r0)] [])) _
    refine XS.aloadN X1.here hx rfl (hb hby d1_4) rfl rfl ?_
    show Steps p.tables e below (T1.setTop (mkF m 5 #[.val (.ref r0)] [(.ref r0)])) _
    refine XS.iconst X1.here hx rfl (hb hby d1_5) ?_
    exact k
  obtain ⟨T2, h2, X2, e2, W2, st2⟩ := putFN X1 hx hZ hown (hw _ (List.mem_of_getElem? (i := 10) rfl)) Via.refl e1 G.2.2.2.2.1 G.1 (Or.inl (hw _ (List.mem_of_getElem? (i := 11) rfl))) (hw _ (List.mem_of_getElem? (i := 2) rfl)) (ty := .boolean) (v' := (.int (1 : Int32))) (by decide) rfl rfl (g := (mkF m 6 #[.val (.ref r0)] [(.int (1 : Int32)), (.ref r0)])) rfl rfl (hb hby d1_6)
  refine own_st (B := T2.setTop (mkF m 9 #[.val (.ref r0)] [])) (fun t k => st2 t k) ?_
  have N2 := Fr.snoc X2 N0 ge
  have Gs2 := G.put_ended hw W2
  have Ks2 : Keep h0 h2 [r0] := K.wr W2 (Or.inl (List.mem_of_getElem? (i := 0) rfl))
  obtain ⟨fs, hr, hrun, hended, hW, hsame⟩ := X2.leave (v := none) (fun _ => rfl)
  refine ⟨_, _, ?_, hrun, hended, _, _, rfl, ?_, ⟨_, rfl⟩, hW, hsame.mono (by decide) (by decide)⟩
  · exact X2.returnOut hx Bd.returns (hb hby d1_9) hr
  · show Q1 Z r0 h0 n0 _ T2.heap _
    rw [e2]
    exact ⟨rfl, N2, Ks2, Gs2⟩
theorem d3_0 : decode prog_45_method_2_code 0 = .ok (.aload_n 0, 1) := by decide +kernel
theorem d3_1 : decode prog_45_method_2_code 1 = .ok (.getfield 7, 3) := by decide +kernel
theorem d3_4 : decode prog_45_method_2_code 4 = .ok (.ifCond .ne 7, 3) := by decide +kernel
theorem d3_7 : decode prog_45_method_2_code 7 = .ok (.iload_n 3, 1) := by decide +kernel
theorem d3_8 : decode prog_45_method_2_code 8 = .ok (.ifCond .eq 7, 3) := by decide +kernel
theorem d3_11 : decode prog_45_method_2_code 11 = .ok (.iconst 1, 1) := by decide +kernel
theorem d3_12 : decode prog_45_method_2_code 12 = .ok (.goto 4, 3) := by decide +kernel
theorem d3_15 : decode prog_45_method_2_code 15 = .ok (.iconst 0, 1) := by decide +kernel
theorem d3_16 : decode prog_45_method_2_code 16 = .ok (.istore 4, 2) := by decide +kernel
theorem d3_18 : decode prog_45_method_2_code 18 = .ok (.iload 4, 2) := by decide +kernel
theorem d3_20 : decode prog_45_method_2_code 20 = .ok (.ifCond .eq 23, 3) := by decide +kernel
theorem d3_23 : decode prog_45_method_2_code 23 = .ok (.aload_n 0, 1) := by decide +kernel
theorem d3_24 : decode prog_45_method_2_code 24 = .ok (.lload_n 1, 1) := by decide +kernel
theorem d3_25 : decode prog_45_method_2_code 25 = .ok (.putfield 13, 3) := by decide +kernel
theorem d3_28 : decode prog_45_method_2_code 28 = .ok (.aload_n 0, 1) := by decide +kernel
theorem d3_29 : decode prog_45_method_2_code 29 = .ok (.iconst 0, 1) := by decide +kernel
theorem d3_30 : decode prog_45_method_2_code 30 = .ok (.putfield 17, 3) := by decide +kernel
theorem d3_33 : decode prog_45_method_2_code 33 = .ok (.aload_n 0, 1) := by decide +kernel
theorem d3_34 : decode prog_45_method_2_code 34 = .ok (.lconst 0, 1) := by decide +kernel
theorem d3_35 : decode prog_45_method_2_code 35 = .ok (.putfield 21, 3) := by decide +kernel
theorem d3_38 : decode prog_45_method_2_code 38 = .ok (.aload_n 0, 1) := by decide +kernel
theorem d3_39 : decode prog_45_method_2_code 39 = .ok (.iconst 0, 1) := by decide +kernel
theorem d3_40 : decode prog_45_method_2_code 40 = .ok (.putfield 7, 3) := by decide +kernel
theorem d3_43 : decode prog_45_method_2_code 43 = .ok (.aload_n 0, 1) := by decide +kernel
theorem d3_44 : decode prog_45_method_2_code 44 = .ok (.aload_n 0, 1) := by decide +kernel
theorem d3_45 : decode prog_45_method_2_code 45 = .ok (.getfield 17, 3) := by decide +kernel
theorem d3_48 : decode prog_45_method_2_code 48 = .ok (.putfield 24, 3) := by decide +kernel
theorem d3_51 : decode prog_45_method_2_code 51 = .ok (.iload 4, 2) := by decide +kernel
theorem d3_53 : decode prog_45_method_2_code 53 = .ok (.ireturn, 1) := by decide +kernel
theorem ef_3 (m : MethodId) (x0 : Addr) (x1 : Int64) (x2 : Int32) : entryFrame m #[(.ref x0), (.long x1), (.int x2)] 5 = mkF m 0 #[.val (.ref x0), .val (.long x1), .second, .val (.int x2), .unset] [] := by first | (simp [entryFrame, mkF, argsToLocals, Value.category]; done) | rfl
def Q3 (Z : State) (r0 : Addr) (q1 : Int64) (p2 : Int32) (g : Int64) (r : Int32) (b : Int64) (ee : Bool) (pl : Int32) (bb : Bool) (h0 : Heap) (n0 : Nat) (v : Option Value) (h : Heap) (L : List Loc) : Prop := v = some (.int (own_b (ee || bb))) ∧ Fr n0 L ∧ Keep h0 h [r0] ∧ own_Gr Z h r0 (bif (ee || bb) then q1 else g) (bif (ee || bb) then 0 else r) (bif (ee || bb) then 0 else b) (own_b (bif (ee || bb) then false else ee)) (bif (ee || bb) then 0 else r)
set_option maxRecDepth 65536 in
set_option maxHeartbeats 40000000 in
theorem rm3 (l : Launch) (Z : State) (a0 : Array Value) (hw : ∀ d ∈ tables_1, d.before a0 Z = true) (ws : List Jvm.Cond) (r0 : Addr) (q1 : Int64) (p2 : Int32) (g : Int64) (r : Int32) (b : Int64) (ee : Bool) (pl : Int32) (bb : Bool) (h0 : Heap) (n0 : Nat) (Z0 : n0 ≤ h0.size) (G : own_Gr Z h0 r0 g r b (own_b ee) pl) (ge : n0 ≤ r0) (hbb : p2 = own_b bb) :
    MetFree l (⟨"com/example/cairn/cairn/Groups", "start", "(JZ)Z"⟩ : MethodName) (head1 (Jvm.Cond.code (⟨"com/example/cairn/cairn/Groups", "start", "(JZ)Z"⟩ : MethodName) prog_45_method_2_code 5 (some .boolean) :: ws) ({ frames := 0, cells := 0, slots := 0, locals := 0 } : Room)) (fun a U => a = #[(.ref r0), (.long q1), (.int p2)] ∧ Z.Warmed39 U.vm ∧ U.heap = h0) (fun _ _ _ _ _ => True) (fun _ U o U' => ∃ v L, o = .returned v ∧ Q3 Z r0 q1 p2 g r b ee pl bb h0 n0 v U'.heap L ∧ FrameEnd U o U' L ({ frames := 0, cells := 0, slots := 0, locals := 0 } : Room).cells ({ frames := 0, cells := 0, slots := 0, locals := 0 } : Room).slots) := by
  refine MetFree.of_bodySF (plainFor_of_name pn_1) hisR ?_
  intro p e s m args below meth c s₁ Bd hml0 hP hK
  obtain ⟨rfl, hZ, hh⟩ := hP
  have hx := Bd.exec
  have hby := Bd.bytes
  have hml : c.maxLocals = 5 := hml0
  have hown : s.vm.findClass "com/example/cairn/cairn/Groups" = some m.cls := findClass_of_methodNamed Bd.named
  have hnm := (name_of_methodNamed Bd.named Bd.method).1
  have X0 : Stand p l e ({ frames := 0, cells := 0, slots := 0, locals := 0 } : Room) s m #[(.ref r0), (.long q1), (.int p2)] below meth c s₁ [] 0 0 := Stand.of_body Bd
  have e0 : s₁.heap = h0 := by rw [← hh, Bd.state]; rfl
  have N0 := Fr.nil n0
  show own_G p e below (fun (t : State) (o : Outcome) => t.status = .running ∧ Ended t below o ∧ ∃ v L, o = .returned v ∧ Q3 Z r0 q1 p2 g r b ee pl bb h0 n0 v t.heap L ∧ FrameEnd s o t L ({ frames := 0, cells := 0, slots := 0, locals := 0 } : Room).cells ({ frames := 0, cells := 0, slots := 0, locals := 0 } : Room).slots) (s₁.setTop (entryFrame m #[(.ref r0), (.long q1), (.int p2)] 5))
  rw [ef_3 m r0 q1 p2]
  have K := Keep.refl h0 [r0]
  refine own_st (B := s₁.setTop (mkF m 1 #[.val (.ref r0), .val (.long q1), .second, .val (.int p2), .unset] [(.ref r0)])) (fun t k => ?_) ?_
  · show Steps p.tables e below (s₁.setTop (mkF m 0 #[.val (.ref r0), .val (.long q1), .second, .val (.int p2), .unset] [])) _
    refine XS.aloadN X0.here hx rfl (hb hby d3_0) rfl rfl ?_
    exact k
  obtain ⟨T1, X1, e1, st1⟩ := getF X0 hx hZ hown (host := "") (Or.inl (hw _ (List.mem_of_getElem? (i := 10) rfl))) Via.refl e0 G.2.2.2.2.1 (g := (mkF m 1 #[.val (.ref r0), .val (.long q1), .second, .val (.int p2), .unset] [(.ref r0)])) rfl rfl (hb hby d3_1)
  refine own_st (B := T1.setTop (mkF m 4 #[.val (.ref r0), .val (.long q1), .second, .val (.int p2), .unset] [(.int (own_b ee))])) (fun t k => st1 t k) ?_
  have kt : ∀ (hs : (ee || bb) = true), own_G p e below (fun (t : State) (o : Outcome) => t.status = .running ∧ Ended t below o ∧ ∃ v L, o = .returned v ∧ Q3 Z r0 q1 p2 g r b ee pl bb h0 n0 v t.heap L ∧ FrameEnd s o t L ({ frames := 0, cells := 0, slots := 0, locals := 0 } : Room).cells ({ frames := 0, cells := 0, slots := 0, locals := 0 } : Room).slots) (T1.setTop (mkF m 16 #[.val (.ref r0), .val (.long q1), .second, .val (.int p2), .unset] [(.int (1 : Int32))])) := by
    intro hs
    refine own_st (B := T1.setTop (mkF m 20 #[.val (.ref r0), .val (.long q1), .second, .val (.int p2), .val (.int (1 : Int32))] [(.int (1 : Int32))])) (fun t k => ?_) ?_
    · show Steps p.tables e below (T1.setTop (mkF m 16 #[.val (.ref r0), .val (.long q1), .second, .val (.int p2), .unset] [(.int (1 : Int32))])) _
      refine XS.istore X1.here hx rfl (hb hby d3_16) rfl (l' := #[.val (.ref r0), .val (.long q1), .second, .val (.int p2), .val (.int (1 : Int32))]) rfl ?_
      show Steps p.tables e below (T1.setTop (mkF m 18 #[.val (.ref r0), .val (.long q1), .second, .val (.int p2), .val (.int (1 : Int32))] [])) _
      refine XS.iload X1.here hx rfl (hb hby d3_18) rfl ?_
      exact k
    refine own_st (B := T1.setTop (mkF m 25 #[.val (.ref r0), .val (.long q1), .second, .val (.int p2), .val (.int (1 : Int32))] [(.long q1), (.ref r0)])) (fun t k => ?_) ?_
    · show Steps p.tables e below (T1.setTop (mkF m 20 #[.val (.ref r0), .val (.long q1), .second, .val (.int p2), .val (.int (1 : Int32))] [(.int (1 : Int32))])) _
      refine XS.ifNo X1.here hx rfl (hb hby d3_20) rfl ((if0 _ _).trans (feq (by decide)).1) ?_
      show Steps p.tables e below (T1.setTop (mkF m 23 #[.val (.ref r0), .val (.long q1), .second, .val (.int p2), .val (.int (1 : Int32))] [])) _
      refine XS.aloadN X1.here hx rfl (hb hby d3_23) rfl rfl ?_
      show Steps p.tables e below (T1.setTop (mkF m 24 #[.val (.ref r0), .val (.long q1), .second, .val (.int p2), .val (.int (1 : Int32))] [(.ref r0)])) _
      refine XS.lloadN X1.here hx rfl (hb hby d3_24) rfl ?_
      exact k
    obtain ⟨T2, h2, X2, e2, W2, st2⟩ := putF X1 hx hZ hown (host := "") (Or.inl (hw _ (List.mem_of_getElem? (i := 17) rfl))) Via.refl e1 G.2.1 G.1 (Or.inl (hw _ (List.mem_of_getElem? (i := 18) rfl))) (hw _ (List.mem_of_getElem? (i := 2) rfl)) (ty := .long) (by decide) rfl rfl (g := (mkF m 25 #[.val (.ref r0), .val (.long q1), .second, .val (.int p2), .val (.int (1 : Int32))] [(.long q1), (.ref r0)])) rfl rfl (hb hby d3_25)
    refine own_st (B := T2.setTop (mkF m 28 #[.val (.ref r0), .val (.long q1), .second, .val (.int p2), .val (.int (1 : Int32))] [])) (fun t k => st2 t k) ?_
    have N2 := Fr.snoc X2 N0 ge
    have Gs2 := G.put_group hw W2
    have Ks2 : Keep h0 h2 [r0] := K.wr W2 (Or.inl (List.mem_of_getElem? (i := 0) rfl))
    refine own_st (B := T2.setTop (mkF m 30 #[.val (.ref r0), .val (.long q1), .second, .val (.int p2), .val (.int (1 : Int32))] [(.int (0 : Int32)), (.ref r0)])) (fun t k => ?_) ?_
    · show Steps p.tables e below (T2.setTop (mkF m 28 #[.val (.ref r0), .val (.long q1), .second, .val (.int p2), .val (.int (1 : Int32))] [])) _
      refine XS.aloadN X2.here hx rfl (hb hby d3_28) rfl rfl ?_
      show Steps p.tables e below (T2.setTop (mkF m 29 #[.val (.ref r0), .val (.long q1), .second, .val (.int p2), .val (.int (1 : Int32))] [(.ref r0)])) _
      refine XS.iconst X2.here hx rfl (hb hby d3_29) ?_
      exact k
    obtain ⟨T3, h3, X3, e3, W3, st3⟩ := putF X2 hx hZ hown (host := "") (Or.inl (hw _ (List.mem_of_getElem? (i := 19) rfl))) Via.refl e2 Gs2.2.2.1 Gs2.1 (Or.inl (hw _ (List.mem_of_getElem? (i := 20) rfl))) (hw _ (List.mem_of_getElem? (i := 2) rfl)) (ty := .int) (by decide) rfl rfl (g := (mkF m 30 #[.val (.ref r0), .val (.long q1), .second, .val (.int p2), .val (.int (1 : Int32))] [(.int (0 : Int32)), (.ref r0)])) rfl rfl (hb hby d3_30)
    refine own_st (B := T3.setTop (mkF m 33 #[.val (.ref r0), .val (.long q1), .second, .val (.int p2), .val (.int (1 : Int32))] [])) (fun t k => st3 t k) ?_
    have N3 := Fr.snoc X3 N2 ge
    have Gs3 := Gs2.put_records hw W3
    have Ks3 : Keep h0 h3 [r0] := Ks2.wr W3 (Or.inl (List.mem_of_getElem? (i := 0) rfl))
    refine own_st (B := T3.setTop (mkF m 35 #[.val (.ref r0), .val (.long q1), .second, .val (.int p2), .val (.int (1 : Int32))] [(.long (0 : Int64)), (.ref r0)])) (fun t k => ?_) ?_
    · show Steps p.tables e below (T3.setTop (mkF m 33 #[.val (.ref r0), .val (.long q1), .second, .val (.int p2), .val (.int (1 : Int32))] [])) _
      refine XS.aloadN X3.here hx rfl (hb hby d3_33) rfl rfl ?_
      show Steps p.tables e below (T3.setTop (mkF m 34 #[.val (.ref r0), .val (.long q1), .second, .val (.int p2), .val (.int (1 : Int32))] [(.ref r0)])) _
      refine XS.lconst X3.here hx rfl (hb hby d3_34) ?_
      exact k
    obtain ⟨T4, h4, X4, e4, W4, st4⟩ := putF X3 hx hZ hown (host := "") (Or.inl (hw _ (List.mem_of_getElem? (i := 21) rfl))) Via.refl e3 Gs3.2.2.2.1 Gs3.1 (Or.inl (hw _ (List.mem_of_getElem? (i := 22) rfl))) (hw _ (List.mem_of_getElem? (i := 2) rfl)) (ty := .long) (by decide) rfl rfl (g := (mkF m 35 #[.val (.ref r0), .val (.long q1), .second, .val (.int p2), .val (.int (1 : Int32))] [(.long (0 : Int64)), (.ref r0)])) rfl rfl (hb hby d3_35)
    refine own_st (B := T4.setTop (mkF m 38 #[.val (.ref r0), .val (.long q1), .second, .val (.int p2), .val (.int (1 : Int32))] [])) (fun t k => st4 t k) ?_
    have N4 := Fr.snoc X4 N3 ge
    have Gs4 := Gs3.put_bytes hw W4
    have Ks4 : Keep h0 h4 [r0] := Ks3.wr W4 (Or.inl (List.mem_of_getElem? (i := 0) rfl))
    refine own_st (B := T4.setTop (mkF m 40 #[.val (.ref r0), .val (.long q1), .second, .val (.int p2), .val (.int (1 : Int32))] [(.int (0 : Int32)), (.ref r0)])) (fun t k => ?_) ?_
    · show Steps p.tables e below (T4.setTop (mkF m 38 #[.val (.ref r0), .val (.long q1), .second, .val (.int p2), .val (.int (1 : Int32))] [])) _
      refine XS.aloadN X4.here hx rfl (hb hby d3_38) rfl rfl ?_
      show Steps p.tables e below (T4.setTop (mkF m 39 #[.val (.ref r0), .val (.long q1), .second, .val (.int p2), .val (.int (1 : Int32))] [(.ref r0)])) _
      refine XS.iconst X4.here hx rfl (hb hby d3_39) ?_
      exact k
    obtain ⟨T5, h5, X5, e5, W5, st5⟩ := putFN X4 hx hZ hown (hw _ (List.mem_of_getElem? (i := 10) rfl)) Via.refl e4 Gs4.2.2.2.2.1 Gs4.1 (Or.inl (hw _ (List.mem_of_getElem? (i := 11) rfl))) (hw _ (List.mem_of_getElem? (i := 2) rfl)) (ty := .boolean) (v' := (.int (0 : Int32))) (by decide) rfl rfl (g := (mkF m 40 #[.val (.ref r0), .val (.long q1), .second, .val (.int p2), .val (.int (1 : Int32))] [(.int (0 : Int32)), (.ref r0)])) rfl rfl (hb hby d3_40)
    refine own_st (B := T5.setTop (mkF m 43 #[.val (.ref r0), .val (.long q1), .second, .val (.int p2), .val (.int (1 : Int32))] [])) (fun t k => st5 t k) ?_
    have N5 := Fr.snoc X5 N4 ge
    have Gs5 := Gs4.put_ended hw W5
    have Ks5 : Keep h0 h5 [r0] := Ks4.wr W5 (Or.inl (List.mem_of_getElem? (i := 0) rfl))
    refine own_st (B := T5.setTop (mkF m 45 #[.val (.ref r0), .val (.long q1), .second, .val (.int p2), .val (.int (1 : Int32))] [(.ref r0), (.ref r0)])) (fun t k => ?_) ?_
    · show Steps p.tables e below (T5.setTop (mkF m 43 #[.val (.ref r0), .val (.long q1), .second, .val (.int p2), .val (.int (1 : Int32))] [])) _
      refine XS.aloadN X5.here hx rfl (hb hby d3_43) rfl rfl ?_
      show Steps p.tables e below (T5.setTop (mkF m 44 #[.val (.ref r0), .val (.long q1), .second, .val (.int p2), .val (.int (1 : Int32))] [(.ref r0)])) _
      refine XS.aloadN X5.here hx rfl (hb hby d3_44) rfl rfl ?_
      exact k
    obtain ⟨T6, X6, e6, st6⟩ := getF X5 hx hZ hown (host := "") (Or.inl (hw _ (List.mem_of_getElem? (i := 19) rfl))) Via.refl e5 Gs5.2.2.1 (g := (mkF m 45 #[.val (.ref r0), .val (.long q1), .second, .val (.int p2), .val (.int (1 : Int32))] [(.ref r0), (.ref r0)])) rfl rfl (hb hby d3_45)
    refine own_st (B := T6.setTop (mkF m 48 #[.val (.ref r0), .val (.long q1), .second, .val (.int p2), .val (.int (1 : Int32))] [(.int (0 : Int32)), (.ref r0)])) (fun t k => st6 t k) ?_
    obtain ⟨T7, h7, X7, e7, W7, st7⟩ := putF X6 hx hZ hown (host := "") (Or.inl (hw _ (List.mem_of_getElem? (i := 23) rfl))) Via.refl e6 Gs5.2.2.2.2.2 Gs5.1 (Or.inl (hw _ (List.mem_of_getElem? (i := 24) rfl))) (hw _ (List.mem_of_getElem? (i := 2) rfl)) (ty := .int) (by decide) rfl rfl (g := (mkF m 48 #[.val (.ref r0), .val (.long q1), .second, .val (.int p2), .val (.int (1 : Int32))] [(.int (0 : Int32)), (.ref r0)])) rfl rfl (hb hby d3_48)
    refine own_st (B := T7.setTop (mkF m 51 #[.val (.ref r0), .val (.long q1), .second, .val (.int p2), .val (.int (1 : Int32))] [])) (fun t k => st7 t k) ?_
    have N7 := Fr.snoc X7 N5 ge
    have Gs7 := Gs5.put_place hw W7
    have Ks7 : Keep h0 h7 [r0] := Ks5.wr W7 (Or.inl (List.mem_of_getElem? (i := 0) rfl))
    refine own_st (B := T7.setTop (mkF m 53 #[.val (.ref r0), .val (.long q1), .second, .val (.int p2), .val (.int (1 : Int32))] [(.int (1 : Int32))])) (fun t k => ?_) ?_
    · show Steps p.tables e below (T7.setTop (mkF m 51 #[.val (.ref r0), .val (.long q1), .second, .val (.int p2), .val (.int (1 : Int32))] [])) _
      refine XS.iload X7.here hx rfl (hb hby d3_51) rfl ?_
      exact k
    obtain ⟨fs, hr, hrun, hended, hW, hsame⟩ := X7.leave (v := some (.int (1 : Int32))) (fun h => by rw [Bd.returns] at h; cases h)
    refine ⟨_, _, ?_, hrun, hended, _, _, rfl, ?_, ⟨_, rfl⟩, hW, hsame.mono (by decide) (by decide)⟩
    · exact retOut X7 hx Bd.returns rfl (Or.inl ⟨rfl, by simp, _, rfl⟩) (hb hby d3_53) hr
    · show Q3 Z r0 q1 p2 g r b ee pl bb h0 n0 _ T7.heap _
      rw [e7]
      exact (by rw [Q3, hs]; exact ⟨rfl, N7, Ks7, Gs7⟩)
  have kf : ∀ (hs : (ee || bb) = false), own_G p e below (fun (t : State) (o : Outcome) => t.status = .running ∧ Ended t below o ∧ ∃ v L, o = .returned v ∧ Q3 Z r0 q1 p2 g r b ee pl bb h0 n0 v t.heap L ∧ FrameEnd s o t L ({ frames := 0, cells := 0, slots := 0, locals := 0 } : Room).cells ({ frames := 0, cells := 0, slots := 0, locals := 0 } : Room).slots) (T1.setTop (mkF m 16 #[.val (.ref r0), .val (.long q1), .second, .val (.int p2), .unset] [(.int (0 : Int32))])) := by
    intro hs
    refine own_st (B := T1.setTop (mkF m 20 #[.val (.ref r0), .val (.long q1), .second, .val (.int p2), .val (.int (0 : Int32))] [(.int (0 : Int32))])) (fun t k => ?_) ?_
    · show Steps p.tables e below (T1.setTop (mkF m 16 #[.val (.ref r0), .val (.long q1), .second, .val (.int p2), .unset] [(.int (0 : Int32))])) _
      refine XS.istore X1.here hx rfl (hb hby d3_16) rfl (l' := #[.val (.ref r0), .val (.long q1), .second, .val (.int p2), .val (.int (0 : Int32))]) rfl ?_
      show Steps p.tables e below (T1.setTop (mkF m 18 #[.val (.ref r0), .val (.long q1), .second, .val (.int p2), .val (.int (0 : Int32))] [])) _
      refine XS.iload X1.here hx rfl (hb hby d3_18) rfl ?_
      exact k
    refine own_st (B := T1.setTop (mkF m 45 #[.val (.ref r0), .val (.long q1), .second, .val (.int p2), .val (.int (0 : Int32))] [(.ref r0), (.ref r0)])) (fun t k => ?_) ?_
    · show Steps p.tables e below (T1.setTop (mkF m 20 #[.val (.ref r0), .val (.long q1), .second, .val (.int p2), .val (.int (0 : Int32))] [(.int (0 : Int32))])) _
      refine XS.ifYes X1.here hx rfl (pc0 := 20) (pc' := 43) rfl (hb hby d3_20) rfl ((if0 _ _).trans (teq rfl).1) (by decide) (by decide) ?_
      show Steps p.tables e below (T1.setTop (mkF m 43 #[.val (.ref r0), .val (.long q1), .second, .val (.int p2), .val (.int (0 : Int32))] [])) _
      refine XS.aloadN X1.here hx rfl (hb hby d3_43) rfl rfl ?_
      show Steps p.tables e below (T1.setTop (mkF m 44 #[.val (.ref r0), .val (.long q1), .second, .val (.int p2), .val (.int (0 : Int32))] [(.ref r0)])) _
      refine XS.aloadN X1.here hx rfl (hb hby d3_44) rfl rfl ?_
      exact k
    obtain ⟨T8, X8, e8, st8⟩ := getF X1 hx hZ hown (host := "") (Or.inl (hw _ (List.mem_of_getElem? (i := 19) rfl))) Via.refl e1 G.2.2.1 (g := (mkF m 45 #[.val (.ref r0), .val (.long q1), .second, .val (.int p2), .val (.int (0 : Int32))] [(.ref r0), (.ref r0)])) rfl rfl (hb hby d3_45)
    refine own_st (B := T8.setTop (mkF m 48 #[.val (.ref r0), .val (.long q1), .second, .val (.int p2), .val (.int (0 : Int32))] [(.int r), (.ref r0)])) (fun t k => st8 t k) ?_
    obtain ⟨T9, h9, X9, e9, W9, st9⟩ := putF X8 hx hZ hown (host := "") (Or.inl (hw _ (List.mem_of_getElem? (i := 23) rfl))) Via.refl e8 G.2.2.2.2.2 G.1 (Or.inl (hw _ (List.mem_of_getElem? (i := 24) rfl))) (hw _ (List.mem_of_getElem? (i := 2) rfl)) (ty := .int) (by decide) rfl rfl (g := (mkF m 48 #[.val (.ref r0), .val (.long q1), .second, .val (.int p2), .val (.int (0 : Int32))] [(.int r), (.ref r0)])) rfl rfl (hb hby d3_48)
    refine own_st (B := T9.setTop (mkF m 51 #[.val (.ref r0), .val (.long q1), .second, .val (.int p2), .val (.int (0 : Int32))] [])) (fun t k => st9 t k) ?_
    have N9 := Fr.snoc X9 N0 ge
    have Gs9 := G.put_place hw W9
    have Ks9 : Keep h0 h9 [r0] := K.wr W9 (Or.inl (List.mem_of_getElem? (i := 0) rfl))
    refine own_st (B := T9.setTop (mkF m 53 #[.val (.ref r0), .val (.long q1), .second, .val (.int p2), .val (.int (0 : Int32))] [(.int (0 : Int32))])) (fun t k => ?_) ?_
    · show Steps p.tables e below (T9.setTop (mkF m 51 #[.val (.ref r0), .val (.long q1), .second, .val (.int p2), .val (.int (0 : Int32))] [])) _
      refine XS.iload X9.here hx rfl (hb hby d3_51) rfl ?_
      exact k
    obtain ⟨fs, hr, hrun, hended, hW, hsame⟩ := X9.leave (v := some (.int (0 : Int32))) (fun h => by rw [Bd.returns] at h; cases h)
    refine ⟨_, _, ?_, hrun, hended, _, _, rfl, ?_, ⟨_, rfl⟩, hW, hsame.mono (by decide) (by decide)⟩
    · exact retOut X9 hx Bd.returns rfl (Or.inl ⟨rfl, by simp, _, rfl⟩) (hb hby d3_53) hr
    · show Q3 Z r0 q1 p2 g r b ee pl bb h0 n0 _ T9.heap _
      rw [e9]
      exact (by rw [Q3, hs]; exact ⟨rfl, N9, Ks9, Gs9⟩)
  by_cases h4 : ee = false
  · refine own_st (B := T1.setTop (mkF m 8 #[.val (.ref r0), .val (.long q1), .second, .val (.int p2), .unset] [(.int p2)])) (fun t k => ?_) ?_
    · show Steps p.tables e below (T1.setTop (mkF m 4 #[.val (.ref r0), .val (.long q1), .second, .val (.int p2), .unset] [(.int (own_b ee))])) _
      refine XS.ifNo X1.here hx rfl (hb hby d3_4) rfl ((if0 _ _).trans (teq (own_b_ne.mpr h4)).2) ?_
      show Steps p.tables e below (T1.setTop (mkF m 7 #[.val (.ref r0), .val (.long q1), .second, .val (.int p2), .unset] [])) _
      refine XS.iloadN X1.here hx rfl (hb hby d3_7) rfl ?_
      exact k
    by_cases h8 : bb = false
    · refine own_st (B := T1.setTop (mkF m 16 #[.val (.ref r0), .val (.long q1), .second, .val (.int p2), .unset] [(.int (0 : Int32))])) (fun t k => ?_) ?_
      · show Steps p.tables e below (T1.setTop (mkF m 8 #[.val (.ref r0), .val (.long q1), .second, .val (.int p2), .unset] [(.int p2)])) _
        refine XS.ifYes X1.here hx rfl (pc0 := 8) (pc' := 15) rfl (hb hby d3_8) rfl ((if0 _ _).trans (teq (hbb.trans (own_b_ne.mpr h8))).1) (by decide) (by decide) ?_
        show Steps p.tables e below (T1.setTop (mkF m 15 #[.val (.ref r0), .val (.long q1), .second, .val (.int p2), .unset] [])) _
        refine XS.iconst X1.here hx rfl (hb hby d3_15) ?_
        exact k
      exact kf (by simp [h4, h8])
    · refine own_st (B := T1.setTop (mkF m 16 #[.val (.ref r0), .val (.long q1), .second, .val (.int p2), .unset] [(.int (1 : Int32))])) (fun t k => ?_) ?_
      · show Steps p.tables e below (T1.setTop (mkF m 8 #[.val (.ref r0), .val (.long q1), .second, .val (.int p2), .unset] [(.int p2)])) _
        refine XS.ifNo X1.here hx rfl (hb hby d3_8) rfl ((if0 _ _).trans (feq (fun q => h8 (own_b_ne.mp (hbb.symm.trans q)))).1) ?_
        show Steps p.tables e below (T1.setTop (mkF m 11 #[.val (.ref r0), .val (.long q1), .second, .val (.int p2), .unset] [])) _
        refine XS.iconst X1.here hx rfl (hb hby d3_11) ?_
        show Steps p.tables e below (T1.setTop (mkF m 12 #[.val (.ref r0), .val (.long q1), .second, .val (.int p2), .unset] [(.int (1 : Int32))])) _
        refine XS.goto X1.here hx rfl (pc0 := 12) (pc' := 16) rfl (hb hby d3_12) (by decide) (by decide) ?_
        exact k
      exact kt (by simp [h8])
  · refine own_st (B := T1.setTop (mkF m 16 #[.val (.ref r0), .val (.long q1), .second, .val (.int p2), .unset] [(.int (1 : Int32))])) (fun t k => ?_) ?_
    · show Steps p.tables e below (T1.setTop (mkF m 4 #[.val (.ref r0), .val (.long q1), .second, .val (.int p2), .unset] [(.int (own_b ee))])) _
      refine XS.ifYes X1.here hx rfl (pc0 := 4) (pc' := 11) rfl (hb hby d3_4) rfl ((if0 _ _).trans (feq (fun q => h4 (own_b_ne.mp q))).2) (by decide) (by decide) ?_
      show Steps p.tables e below (T1.setTop (mkF m 11 #[.val (.ref r0), .val (.long q1), .second, .val (.int p2), .unset] [])) _
      refine XS.iconst X1.here hx rfl (hb hby d3_11) ?_
      show Steps p.tables e below (T1.setTop (mkF m 12 #[.val (.ref r0), .val (.long q1), .second, .val (.int p2), .unset] [(.int (1 : Int32))])) _
      refine XS.goto X1.here hx rfl (pc0 := 12) (pc' := 16) rfl (hb hby d3_12) (by decide) (by decide) ?_
      exact k
    exact kt (by simp [h4])
theorem d4_0 : decode prog_45_method_4_code 0 = .ok (.aload_n 0, 1) := by decide +kernel
theorem d4_1 : decode prog_45_method_4_code 1 = .ok (.dup, 1) := by decide +kernel
theorem d4_2 : decode prog_45_method_4_code 2 = .ok (.getfield 17, 3) := by decide +kernel
theorem d4_5 : decode prog_45_method_4_code 5 = .ok (.iconst 1, 1) := by decide +kernel
theorem d4_6 : decode prog_45_method_4_code 6 = .ok (.iadd, 1) := by decide +kernel
theorem d4_7 : decode prog_45_method_4_code 7 = .ok (.putfield 17, 3) := by decide +kernel
theorem d4_10 : decode prog_45_method_4_code 10 = .ok (.aload_n 0, 1) := by decide +kernel
theorem d4_11 : decode prog_45_method_4_code 11 = .ok (.dup, 1) := by decide +kernel
theorem d4_12 : decode prog_45_method_4_code 12 = .ok (.getfield 21, 3) := by decide +kernel
theorem d4_15 : decode prog_45_method_4_code 15 = .ok (.lload_n 1, 1) := by decide +kernel
theorem d4_16 : decode prog_45_method_4_code 16 = .ok (.ladd, 1) := by decide +kernel
theorem d4_17 : decode prog_45_method_4_code 17 = .ok (.putfield 21, 3) := by decide +kernel
theorem d4_20 : decode prog_45_method_4_code 20 = .ok (.aload_n 0, 1) := by decide +kernel
theorem d4_21 : decode prog_45_method_4_code 21 = .ok (.dup, 1) := by decide +kernel
theorem d4_22 : decode prog_45_method_4_code 22 = .ok (.getfield 7, 3) := by decide +kernel
theorem d4_25 : decode prog_45_method_4_code 25 = .ok (.aload_n 0, 1) := by decide +kernel
theorem d4_26 : decode prog_45_method_4_code 26 = .ok (.getfield 17, 3) := by decide +kernel
theorem d4_29 : decode prog_45_method_4_code 29 = .ok (.aload_n 0, 1) := by decide +kernel
theorem d4_30 : decode prog_45_method_4_code 30 = .ok (.getfield 21, 3) := by decide +kernel
theorem d4_33 : decode prog_45_method_4_code 33 = .ok (.invokestatic 27, 3) := by decide +kernel
theorem d4_36 : decode prog_45_method_4_code 36 = .ok (.ior, 1) := by decide +kernel
theorem d4_37 : decode prog_45_method_4_code 37 = .ok (.putfield 7, 3) := by decide +kernel
theorem d4_40 : decode prog_45_method_4_code 40 = .ok (.return_, 1) := by decide +kernel
theorem ef_4 (m : MethodId) (x0 : Addr) (x1 : Int64) : entryFrame m #[(.ref x0), (.long x1)] 3 = mkF m 0 #[.val (.ref x0), .val (.long x1), .second] [] := by first | (simp [entryFrame, mkF, argsToLocals, Value.category]; done) | rfl
def Q4 (Z : State) (r0 : Addr) (q1 : Int64) (g : Int64) (r : Int32) (b : Int64) (ee : Bool) (pl : Int32) (h0 : Heap) (n0 : Nat) (v : Option Value) (h : Heap) (L : List Loc) : Prop := v = none ∧ Fr n0 L ∧ Keep h0 h [r0] ∧ own_Gr Z h r0 g (r + 1) (b + q1) (own_b (ee || own_ends (r + 1) (b + q1))) pl
theorem pd_0 : parseMethodDescriptor "(IJ)Z" = some ⟨[.int, .long], some .boolean⟩ := by decide +kernel
set_option maxRecDepth 65536 in
set_option maxHeartbeats 40000000 in
theorem rm4 (l : Launch) (Z : State) (a0 : Array Value) (hw : ∀ d ∈ tables_1, d.before a0 Z = true) (ws : List Jvm.Cond) (r0 : Addr) (q1 : Int64) (g : Int64) (r : Int32) (b : Int64) (ee : Bool) (pl : Int32) (h0 : Heap) (n0 : Nat) (Z0 : n0 ≤ h0.size) (G : own_Gr Z h0 r0 g r b (own_b ee) pl) (ge : n0 ≤ r0) :
    MetFree l (⟨"com/example/cairn/cairn/Groups", "end", "(J)V"⟩ : MethodName) (head1 (Jvm.Cond.code (⟨"com/example/cairn/cairn/Groups", "end", "(J)V"⟩ : MethodName) prog_45_method_4_code 3 none :: ws) ({ frames := 1, cells := 0, slots := 0, locals := 16 } : Room)) (fun a U => a = #[(.ref r0), (.long q1)] ∧ Z.Warmed39 U.vm ∧ U.heap = h0) (fun _ _ _ _ _ => True) (fun _ U o U' => ∃ v L, o = .returned v ∧ Q4 Z r0 q1 g r b ee pl h0 n0 v U'.heap L ∧ FrameEnd U o U' L ({ frames := 1, cells := 0, slots := 0, locals := 16 } : Room).cells ({ frames := 1, cells := 0, slots := 0, locals := 16 } : Room).slots) := by
  refine MetFree.of_bodySF (plainFor_of_name pn_1) hisR ?_
  intro p e s m args below meth c s₁ Bd hml0 hP hK
  obtain ⟨rfl, hZ, hh⟩ := hP
  have hx := Bd.exec
  have hby := Bd.bytes
  have hml : c.maxLocals = 3 := hml0
  have hown : s.vm.findClass "com/example/cairn/cairn/Groups" = some m.cls := findClass_of_methodNamed Bd.named
  have hnm := (name_of_methodNamed Bd.named Bd.method).1
  have X0 : Stand p l e ({ frames := 1, cells := 0, slots := 0, locals := 16 } : Room) s m #[(.ref r0), (.long q1)] below meth c s₁ [] 0 0 := Stand.of_body Bd
  have e0 : s₁.heap = h0 := by rw [← hh, Bd.state]; rfl
  have N0 := Fr.nil n0
  show own_G p e below (fun (t : State) (o : Outcome) => t.status = .running ∧ Ended t below o ∧ ∃ v L, o = .returned v ∧ Q4 Z r0 q1 g r b ee pl h0 n0 v t.heap L ∧ FrameEnd s o t L ({ frames := 1, cells := 0, slots := 0, locals := 16 } : Room).cells ({ frames := 1, cells := 0, slots := 0, locals := 16 } : Room).slots) (s₁.setTop (entryFrame m #[(.ref r0), (.long q1)] 3))
  rw [ef_4 m r0 q1]
  have K := Keep.refl h0 [r0]
  refine own_st (B := s₁.setTop (mkF m 2 #[.val (.ref r0), .val (.long q1), .second] [(.ref r0), (.ref r0)])) (fun t k => ?_) ?_
  · show Steps p.tables e below (s₁.setTop (mkF m 0 #[.val (.ref r0), .val (.long q1), .second] [])) _
    refine XS.aloadN X0.here hx rfl (hb hby d4_0) rfl rfl ?_
    show Steps p.tables e below (s₁.setTop (mkF m 1 #[.val (.ref r0), .val (.long q1), .second] [(.ref r0)])) _
    refine XS.dup X0.here hx rfl (hb hby d4_1) rfl rfl ?_
    exact k
  obtain ⟨T1, X1, e1, st1⟩ := getF X0 hx hZ hown (host := "") (Or.inl (hw _ (List.mem_of_getElem? (i := 19) rfl))) Via.refl e0 G.2.2.1 (g := (mkF m 2 #[.val (.ref r0), .val (.long q1), .second] [(.ref r0), (.ref r0)])) rfl rfl (hb hby d4_2)
  refine own_st (B := T1.setTop (mkF m 5 #[.val (.ref r0), .val (.long q1), .second] [(.int r), (.ref r0)])) (fun t k => st1 t k) ?_
  refine own_st (B := T1.setTop (mkF m 7 #[.val (.ref r0), .val (.long q1), .second] [(.int (r + (1 : Int32))), (.ref r0)])) (fun t k => ?_) ?_
  · show Steps p.tables e below (T1.setTop (mkF m 5 #[.val (.ref r0), .val (.long q1), .second] [(.int r), (.ref r0)])) _
    refine XS.iconst X1.here hx rfl (hb hby d4_5) ?_
    show Steps p.tables e below (T1.setTop (mkF m 6 #[.val (.ref r0), .val (.long q1), .second] [(.int (1 : Int32)), (.int r), (.ref r0)])) _
    refine XS.iadd X1.here hx rfl (hb hby d4_6) rfl ?_
    exact k
  obtain ⟨T2, h2, X2, e2, W2, st2⟩ := putF X1 hx hZ hown (host := "") (Or.inl (hw _ (List.mem_of_getElem? (i := 19) rfl))) Via.refl e1 G.2.2.1 G.1 (Or.inl (hw _ (List.mem_of_getElem? (i := 20) rfl))) (hw _ (List.mem_of_getElem? (i := 2) rfl)) (ty := .int) (by decide) rfl rfl (g := (mkF m 7 #[.val (.ref r0), .val (.long q1), .second] [(.int (r + (1 : Int32))), (.ref r0)])) rfl rfl (hb hby d4_7)
  refine own_st (B := T2.setTop (mkF m 10 #[.val (.ref r0), .val (.long q1), .second] [])) (fun t k => st2 t k) ?_
  have N2 := Fr.snoc X2 N0 ge
  have Gs2 := G.put_records hw W2
  have Ks2 : Keep h0 h2 [r0] := K.wr W2 (Or.inl (List.mem_of_getElem? (i := 0) rfl))
  refine own_st (B := T2.setTop (mkF m 12 #[.val (.ref r0), .val (.long q1), .second] [(.ref r0), (.ref r0)])) (fun t k => ?_) ?_
  · show Steps p.tables e below (T2.setTop (mkF m 10 #[.val (.ref r0), .val (.long q1), .second] [])) _
    refine XS.aloadN X2.here hx rfl (hb hby d4_10) rfl rfl ?_
    show Steps p.tables e below (T2.setTop (mkF m 11 #[.val (.ref r0), .val (.long q1), .second] [(.ref r0)])) _
    refine XS.dup X2.here hx rfl (hb hby d4_11) rfl rfl ?_
    exact k
  obtain ⟨T3, X3, e3, st3⟩ := getF X2 hx hZ hown (host := "") (Or.inl (hw _ (List.mem_of_getElem? (i := 21) rfl))) Via.refl e2 Gs2.2.2.2.1 (g := (mkF m 12 #[.val (.ref r0), .val (.long q1), .second] [(.ref r0), (.ref r0)])) rfl rfl (hb hby d4_12)
  refine own_st (B := T3.setTop (mkF m 15 #[.val (.ref r0), .val (.long q1), .second] [(.long b), (.ref r0)])) (fun t k => st3 t k) ?_
  refine own_st (B := T3.setTop (mkF m 17 #[.val (.ref r0), .val (.long q1), .second] [(.long (b + q1)), (.ref r0)])) (fun t k => ?_) ?_
  · show Steps p.tables e below (T3.setTop (mkF m 15 #[.val (.ref r0), .val (.long q1), .second] [(.long b), (.ref r0)])) _
    refine XS.lloadN X3.here hx rfl (hb hby d4_15) rfl ?_
    show Steps p.tables e below (T3.setTop (mkF m 16 #[.val (.ref r0), .val (.long q1), .second] [(.long q1), (.long b), (.ref r0)])) _
    refine XS.ladd X3.here hx rfl (hb hby d4_16) rfl ?_
    exact k
  obtain ⟨T4, h4, X4, e4, W4, st4⟩ := putF X3 hx hZ hown (host := "") (Or.inl (hw _ (List.mem_of_getElem? (i := 21) rfl))) Via.refl e3 Gs2.2.2.2.1 Gs2.1 (Or.inl (hw _ (List.mem_of_getElem? (i := 22) rfl))) (hw _ (List.mem_of_getElem? (i := 2) rfl)) (ty := .long) (by decide) rfl rfl (g := (mkF m 17 #[.val (.ref r0), .val (.long q1), .second] [(.long (b + q1)), (.ref r0)])) rfl rfl (hb hby d4_17)
  refine own_st (B := T4.setTop (mkF m 20 #[.val (.ref r0), .val (.long q1), .second] [])) (fun t k => st4 t k) ?_
  have N4 := Fr.snoc X4 N2 ge
  have Gs4 := Gs2.put_bytes hw W4
  have Ks4 : Keep h0 h4 [r0] := Ks2.wr W4 (Or.inl (List.mem_of_getElem? (i := 0) rfl))
  refine own_st (B := T4.setTop (mkF m 22 #[.val (.ref r0), .val (.long q1), .second] [(.ref r0), (.ref r0)])) (fun t k => ?_) ?_
  · show Steps p.tables e below (T4.setTop (mkF m 20 #[.val (.ref r0), .val (.long q1), .second] [])) _
    refine XS.aloadN X4.here hx rfl (hb hby d4_20) rfl rfl ?_
    show Steps p.tables e below (T4.setTop (mkF m 21 #[.val (.ref r0), .val (.long q1), .second] [(.ref r0)])) _
    refine XS.dup X4.here hx rfl (hb hby d4_21) rfl rfl ?_
    exact k
  obtain ⟨T5, X5, e5, st5⟩ := getF X4 hx hZ hown (host := "") (Or.inl (hw _ (List.mem_of_getElem? (i := 10) rfl))) Via.refl e4 Gs4.2.2.2.2.1 (g := (mkF m 22 #[.val (.ref r0), .val (.long q1), .second] [(.ref r0), (.ref r0)])) rfl rfl (hb hby d4_22)
  refine own_st (B := T5.setTop (mkF m 25 #[.val (.ref r0), .val (.long q1), .second] [(.int (own_b ee)), (.ref r0)])) (fun t k => st5 t k) ?_
  refine own_st (B := T5.setTop (mkF m 26 #[.val (.ref r0), .val (.long q1), .second] [(.ref r0), (.int (own_b ee)), (.ref r0)])) (fun t k => ?_) ?_
  · show Steps p.tables e below (T5.setTop (mkF m 25 #[.val (.ref r0), .val (.long q1), .second] [(.int (own_b ee)), (.ref r0)])) _
    refine XS.aloadN X5.here hx rfl (hb hby d4_25) rfl rfl ?_
    exact k
  obtain ⟨T6, X6, e6, st6⟩ := getF X5 hx hZ hown (host := "") (Or.inl (hw _ (List.mem_of_getElem? (i := 19) rfl))) Via.refl e5 Gs4.2.2.1 (g := (mkF m 26 #[.val (.ref r0), .val (.long q1), .second] [(.ref r0), (.int (own_b ee)), (.ref r0)])) rfl rfl (hb hby d4_26)
  refine own_st (B := T6.setTop (mkF m 29 #[.val (.ref r0), .val (.long q1), .second] [(.int (r + (1 : Int32))), (.int (own_b ee)), (.ref r0)])) (fun t k => st6 t k) ?_
  refine own_st (B := T6.setTop (mkF m 30 #[.val (.ref r0), .val (.long q1), .second] [(.ref r0), (.int (r + (1 : Int32))), (.int (own_b ee)), (.ref r0)])) (fun t k => ?_) ?_
  · show Steps p.tables e below (T6.setTop (mkF m 29 #[.val (.ref r0), .val (.long q1), .second] [(.int (r + (1 : Int32))), (.int (own_b ee)), (.ref r0)])) _
    refine XS.aloadN X6.here hx rfl (hb hby d4_29) rfl rfl ?_
    exact k
  obtain ⟨T7, X7, e7, st7⟩ := getF X6 hx hZ hown (host := "") (Or.inl (hw _ (List.mem_of_getElem? (i := 21) rfl))) Via.refl e6 Gs4.2.2.2.1 (g := (mkF m 30 #[.val (.ref r0), .val (.long q1), .second] [(.ref r0), (.int (r + (1 : Int32))), (.int (own_b ee)), (.ref r0)])) rfl rfl (hb hby d4_30)
  refine own_st (B := T7.setTop (mkF m 33 #[.val (.ref r0), .val (.long q1), .second] [(.long (b + q1)), (.int (r + (1 : Int32))), (.int (own_b ee)), (.ref r0)])) (fun t k => st7 t k) ?_
  have Zs : n0 ≤ h4.size := Nat.le_trans Z0 Ks4.1
  obtain ⟨_, _, ⟨T8, L8, k8, n8⟩, -, X8, ⟨Lc8, hQ8, l8, y8, z8⟩, st8⟩ := Jvm.LawKit.callS X7 hx (y := (⟨"com/example/cairn/cairn/Records", "endsGroup", "(IJ)Z"⟩ : MethodName)) hown (mvT hZ (hw _ (List.mem_of_getElem? (i := 30) rfl))) (mvT hZ (hw _ (List.mem_of_getElem? (i := 31) rfl))) (mvT hZ (hw _ (List.mem_of_getElem? (i := 32) rfl))) (mvT hZ (hw _ (List.mem_of_getElem? (i := 33) rfl))) (by decide) (backOf (W := 2) (rm5 l Z a0 hw [] (r + (1 : Int32)) (b + q1) h4 n0 Zs) hZ (hw _ (List.mem_of_getElem? (i := 33) rfl)) (hw _ (List.mem_of_getElem? (i := 32) rfl)) (by decide) (by decide)) (g := (mkF m 33 #[.val (.ref r0), .val (.long q1), .second] [(.long (b + q1)), (.int (r + (1 : Int32))), (.int (own_b ee)), (.ref r0)])) rfl (by rw [hml]; rfl) (argsL := [(.int (r + (1 : Int32))), (.long (b + q1))]) (rest := [(.int (own_b ee)), (.ref r0)]) (lenOf pd_0 rfl) rfl (by show 2 * 0 + _ ≤ _; exact Nat.le_of_eq rfl) (hb hby d4_33) (fun _ _ => ⟨rfl, e7, (by decide : 0 + 0 ≤ _), (by decide : 0 + 0 ≤ _)⟩)
  dsimp only [Pt.U, Pt.locs, Pt.cells, Pt.slots] at X8 l8 y8 z8 st8 hQ8
  subst l8 y8 z8
  obtain ⟨rfl, N8q, e8⟩ := hQ8
  have N8 := Fr.app N4 N8q
  refine own_st (B := T8.setTop (mkF m 36 #[.val (.ref r0), .val (.long q1), .second] [(.int (own_b (own_ends (r + (1 : Int32)) (b + q1)))), (.int (own_b ee)), (.ref r0)])) (fun t k => st8 _ k) ?_
  refine own_st (B := T8.setTop (mkF m 37 #[.val (.ref r0), .val (.long q1), .second] [(.int ((own_b ee) ||| (own_b (own_ends (r + (1 : Int32)) (b + q1))))), (.ref r0)])) (fun t k => ?_) ?_
  · show Steps p.tables e below (T8.setTop (mkF m 36 #[.val (.ref r0), .val (.long q1), .second] [(.int (own_b (own_ends (r + (1 : Int32)) (b + q1)))), (.int (own_b ee)), (.ref r0)])) _
    refine XS.ior X8.here hx rfl (hb hby d4_36) rfl ?_
    exact k
  rw [show ((own_b ee) ||| (own_b (own_ends (r + (1 : Int32)) (b + q1)))) = (own_b (ee || own_ends (r + (1 : Int32)) (b + q1))) from own_bor _ _]
  obtain ⟨T9, h9, X9, e9, W9, st9⟩ := putFN X8 hx hZ hown (hw _ (List.mem_of_getElem? (i := 10) rfl)) Via.refl e8 Gs4.2.2.2.2.1 Gs4.1 (Or.inl (hw _ (List.mem_of_getElem? (i := 11) rfl))) (hw _ (List.mem_of_getElem? (i := 2) rfl)) (ty := .boolean) (v' := (.int (own_b (ee || own_ends (r + (1 : Int32)) (b + q1))))) (by decide) (own_nb _) (by first | rfl | (cases (ee || own_ends (r + (1 : Int32)) (b + q1)) <;> rfl)) (g := (mkF m 37 #[.val (.ref r0), .val (.long q1), .second] [(.int (own_b (ee || own_ends (r + (1 : Int32)) (b + q1)))), (.ref r0)])) rfl rfl (hb hby d4_37)
  refine own_st (B := T9.setTop (mkF m 40 #[.val (.ref r0), .val (.long q1), .second] [])) (fun t k => st9 t k) ?_
  have N9 := Fr.snoc X9 N8 ge
  have Gs9 := Gs4.put_ended hw W9
  have Ks9 : Keep h0 h9 [r0] := Ks4.wr W9 (Or.inl (List.mem_of_getElem? (i := 0) rfl))
  obtain ⟨fs, hr, hrun, hended, hW, hsame⟩ := X9.leave (v := none) (fun _ => rfl)
  refine ⟨_, _, ?_, hrun, hended, _, _, rfl, ?_, ⟨_, rfl⟩, hW, hsame.mono (by decide) (by decide)⟩
  · exact X9.returnOut hx Bd.returns (hb hby d4_40) hr
  · show Q4 Z r0 q1 g r b ee pl h0 n0 _ T9.heap _
    rw [e9]
    exact ⟨rfl, N9, Ks9, Gs9⟩
theorem d6_0 : decode prog_45_method_5_code 0 = .ok (.aload_n 0, 1) := by decide +kernel
theorem d6_1 : decode prog_45_method_5_code 1 = .ok (.getfield 7, 3) := by decide +kernel
theorem d6_4 : decode prog_45_method_5_code 4 = .ok (.ireturn, 1) := by decide +kernel
theorem ef_6 (m : MethodId) (x0 : Addr) : entryFrame m #[(.ref x0)] 1 = mkF m 0 #[.val (.ref x0)] [] := by first | (simp [entryFrame, mkF, argsToLocals, Value.category]; done) | rfl
def Q6 (Z : State) (r0 : Addr) (g : Int64) (r : Int32) (b : Int64) (ee : Bool) (pl : Int32) (h0 : Heap) (n0 : Nat) (v : Option Value) (h : Heap) (L : List Loc) : Prop := v = some (.int (own_b ee)) ∧ Fr n0 L ∧ h = h0
set_option maxRecDepth 65536 in
set_option maxHeartbeats 40000000 in
theorem rm6 (l : Launch) (Z : State) (a0 : Array Value) (hw : ∀ d ∈ tables_1, d.before a0 Z = true) (ws : List Jvm.Cond) (r0 : Addr) (g : Int64) (r : Int32) (b : Int64) (ee : Bool) (pl : Int32) (h0 : Heap) (n0 : Nat) (Z0 : n0 ≤ h0.size) (G : own_Gr Z h0 r0 g r b (own_b ee) pl) :
    MetFree l (⟨"com/example/cairn/cairn/Groups", "ended", "()Z"⟩ : MethodName) (head1 (Jvm.Cond.code (⟨"com/example/cairn/cairn/Groups", "ended", "()Z"⟩ : MethodName) prog_45_method_5_code 1 (some .boolean) :: ws) ({ frames := 0, cells := 0, slots := 0, locals := 0 } : Room)) (fun a U => a = #[(.ref r0)] ∧ Z.Warmed39 U.vm ∧ U.heap = h0) (fun _ _ _ _ _ => True) (fun _ U o U' => ∃ v L, o = .returned v ∧ Q6 Z r0 g r b ee pl h0 n0 v U'.heap L ∧ FrameEnd U o U' L ({ frames := 0, cells := 0, slots := 0, locals := 0 } : Room).cells ({ frames := 0, cells := 0, slots := 0, locals := 0 } : Room).slots) := by
  refine MetFree.of_bodySF (plainFor_of_name pn_1) hisR ?_
  intro p e s m args below meth c s₁ Bd hml0 hP hK
  obtain ⟨rfl, hZ, hh⟩ := hP
  have hx := Bd.exec
  have hby := Bd.bytes
  have hml : c.maxLocals = 1 := hml0
  have hown : s.vm.findClass "com/example/cairn/cairn/Groups" = some m.cls := findClass_of_methodNamed Bd.named
  have hnm := (name_of_methodNamed Bd.named Bd.method).1
  have X0 : Stand p l e ({ frames := 0, cells := 0, slots := 0, locals := 0 } : Room) s m #[(.ref r0)] below meth c s₁ [] 0 0 := Stand.of_body Bd
  have e0 : s₁.heap = h0 := by rw [← hh, Bd.state]; rfl
  have N0 := Fr.nil n0
  show own_G p e below (fun (t : State) (o : Outcome) => t.status = .running ∧ Ended t below o ∧ ∃ v L, o = .returned v ∧ Q6 Z r0 g r b ee pl h0 n0 v t.heap L ∧ FrameEnd s o t L ({ frames := 0, cells := 0, slots := 0, locals := 0 } : Room).cells ({ frames := 0, cells := 0, slots := 0, locals := 0 } : Room).slots) (s₁.setTop (entryFrame m #[(.ref r0)] 1))
  rw [ef_6 m r0]
  refine own_st (B := s₁.setTop (mkF m 1 #[.val (.ref r0)] [(.ref r0)])) (fun t k => ?_) ?_
  · show Steps p.tables e below (s₁.setTop (mkF m 0 #[.val (.ref r0)] [])) _
    refine XS.aloadN X0.here hx rfl (hb hby d6_0) rfl rfl ?_
    exact k
  obtain ⟨T1, X1, e1, st1⟩ := getF X0 hx hZ hown (host := "") (Or.inl (hw _ (List.mem_of_getElem? (i := 10) rfl))) Via.refl e0 G.2.2.2.2.1 (g := (mkF m 1 #[.val (.ref r0)] [(.ref r0)])) rfl rfl (hb hby d6_1)
  refine own_st (B := T1.setTop (mkF m 4 #[.val (.ref r0)] [(.int (own_b ee))])) (fun t k => st1 t k) ?_
  obtain ⟨fs, hr, hrun, hended, hW, hsame⟩ := X1.leave (v := some (.int (own_b ee))) (fun h => by rw [Bd.returns] at h; cases h)
  refine ⟨_, _, ?_, hrun, hended, _, _, rfl, ?_, ⟨_, rfl⟩, hW, hsame.mono (by decide) (by decide)⟩
  · exact retOut X1 hx Bd.returns (own_nb _) (Or.inl ⟨rfl, by simp, _, rfl⟩) (hb hby d6_4) hr
  · show Q6 Z r0 g r b ee pl h0 n0 _ T1.heap _
    rw [e1]
    exact ⟨rfl, N0, rfl⟩
theorem d7_0 : decode prog_45_method_6_code 0 = .ok (.aload_n 0, 1) := by decide +kernel
theorem d7_1 : decode prog_45_method_6_code 1 = .ok (.getfield 13, 3) := by decide +kernel
theorem d7_4 : decode prog_45_method_6_code 4 = .ok (.lreturn, 1) := by decide +kernel
theorem ef_7 (m : MethodId) (x0 : Addr) : entryFrame m #[(.ref x0)] 1 = mkF m 0 #[.val (.ref x0)] [] := by first | (simp [entryFrame, mkF, argsToLocals, Value.category]; done) | rfl
def Q7 (Z : State) (r0 : Addr) (g : Int64) (r : Int32) (b : Int64) (ee : Bool) (pl : Int32) (h0 : Heap) (n0 : Nat) (v : Option Value) (h : Heap) (L : List Loc) : Prop := v = some (.long g) ∧ Fr n0 L ∧ h = h0
set_option maxRecDepth 65536 in
set_option maxHeartbeats 40000000 in
theorem rm7 (l : Launch) (Z : State) (a0 : Array Value) (hw : ∀ d ∈ tables_1, d.before a0 Z = true) (ws : List Jvm.Cond) (r0 : Addr) (g : Int64) (r : Int32) (b : Int64) (ee : Bool) (pl : Int32) (h0 : Heap) (n0 : Nat) (Z0 : n0 ≤ h0.size) (G : own_Gr Z h0 r0 g r b (own_b ee) pl) :
    MetFree l (⟨"com/example/cairn/cairn/Groups", "group", "()J"⟩ : MethodName) (head1 (Jvm.Cond.code (⟨"com/example/cairn/cairn/Groups", "group", "()J"⟩ : MethodName) prog_45_method_6_code 1 (some .long) :: ws) ({ frames := 0, cells := 0, slots := 0, locals := 0 } : Room)) (fun a U => a = #[(.ref r0)] ∧ Z.Warmed39 U.vm ∧ U.heap = h0) (fun _ _ _ _ _ => True) (fun _ U o U' => ∃ v L, o = .returned v ∧ Q7 Z r0 g r b ee pl h0 n0 v U'.heap L ∧ FrameEnd U o U' L ({ frames := 0, cells := 0, slots := 0, locals := 0 } : Room).cells ({ frames := 0, cells := 0, slots := 0, locals := 0 } : Room).slots) := by
  refine MetFree.of_bodySF (plainFor_of_name pn_1) hisR ?_
  intro p e s m args below meth c s₁ Bd hml0 hP hK
  obtain ⟨rfl, hZ, hh⟩ := hP
  have hx := Bd.exec
  have hby := Bd.bytes
  have hml : c.maxLocals = 1 := hml0
  have hown : s.vm.findClass "com/example/cairn/cairn/Groups" = some m.cls := findClass_of_methodNamed Bd.named
  have hnm := (name_of_methodNamed Bd.named Bd.method).1
  have X0 : Stand p l e ({ frames := 0, cells := 0, slots := 0, locals := 0 } : Room) s m #[(.ref r0)] below meth c s₁ [] 0 0 := Stand.of_body Bd
  have e0 : s₁.heap = h0 := by rw [← hh, Bd.state]; rfl
  have N0 := Fr.nil n0
  show own_G p e below (fun (t : State) (o : Outcome) => t.status = .running ∧ Ended t below o ∧ ∃ v L, o = .returned v ∧ Q7 Z r0 g r b ee pl h0 n0 v t.heap L ∧ FrameEnd s o t L ({ frames := 0, cells := 0, slots := 0, locals := 0 } : Room).cells ({ frames := 0, cells := 0, slots := 0, locals := 0 } : Room).slots) (s₁.setTop (entryFrame m #[(.ref r0)] 1))
  rw [ef_7 m r0]
  refine own_st (B := s₁.setTop (mkF m 1 #[.val (.ref r0)] [(.ref r0)])) (fun t k => ?_) ?_
  · show Steps p.tables e below (s₁.setTop (mkF m 0 #[.val (.ref r0)] [])) _
    refine XS.aloadN X0.here hx rfl (hb hby d7_0) rfl rfl ?_
    exact k
  obtain ⟨T1, X1, e1, st1⟩ := getF X0 hx hZ hown (host := "") (Or.inl (hw _ (List.mem_of_getElem? (i := 17) rfl))) Via.refl e0 G.2.1 (g := (mkF m 1 #[.val (.ref r0)] [(.ref r0)])) rfl rfl (hb hby d7_1)
  refine own_st (B := T1.setTop (mkF m 4 #[.val (.ref r0)] [(.long g)])) (fun t k => st1 t k) ?_
  obtain ⟨fs, hr, hrun, hended, hW, hsame⟩ := X1.leave (v := some (.long g)) (fun h => by rw [Bd.returns] at h; cases h)
  refine ⟨_, _, ?_, hrun, hended, _, _, rfl, ?_, ⟨_, rfl⟩, hW, hsame.mono (by decide) (by decide)⟩
  · exact retOut X1 hx Bd.returns rfl (Or.inr (Or.inl ⟨rfl, rfl, _, rfl⟩)) (hb hby d7_4) hr
  · show Q7 Z r0 g r b ee pl h0 n0 _ T1.heap _
    rw [e1]
    exact ⟨rfl, N0, rfl⟩
theorem d8_0 : decode prog_45_method_7_code 0 = .ok (.aload_n 0, 1) := by decide +kernel
theorem d8_1 : decode prog_45_method_7_code 1 = .ok (.getfield 24, 3) := by decide +kernel
theorem d8_4 : decode prog_45_method_7_code 4 = .ok (.ireturn, 1) := by decide +kernel
theorem ef_8 (m : MethodId) (x0 : Addr) : entryFrame m #[(.ref x0)] 1 = mkF m 0 #[.val (.ref x0)] [] := by first | (simp [entryFrame, mkF, argsToLocals, Value.category]; done) | rfl
def Q8 (Z : State) (r0 : Addr) (g : Int64) (r : Int32) (b : Int64) (ee : Bool) (pl : Int32) (h0 : Heap) (n0 : Nat) (v : Option Value) (h : Heap) (L : List Loc) : Prop := v = some (.int pl) ∧ Fr n0 L ∧ h = h0
set_option maxRecDepth 65536 in
set_option maxHeartbeats 40000000 in
theorem rm8 (l : Launch) (Z : State) (a0 : Array Value) (hw : ∀ d ∈ tables_1, d.before a0 Z = true) (ws : List Jvm.Cond) (r0 : Addr) (g : Int64) (r : Int32) (b : Int64) (ee : Bool) (pl : Int32) (h0 : Heap) (n0 : Nat) (Z0 : n0 ≤ h0.size) (G : own_Gr Z h0 r0 g r b (own_b ee) pl) :
    MetFree l (⟨"com/example/cairn/cairn/Groups", "place", "()I"⟩ : MethodName) (head1 (Jvm.Cond.code (⟨"com/example/cairn/cairn/Groups", "place", "()I"⟩ : MethodName) prog_45_method_7_code 1 (some .int) :: ws) ({ frames := 0, cells := 0, slots := 0, locals := 0 } : Room)) (fun a U => a = #[(.ref r0)] ∧ Z.Warmed39 U.vm ∧ U.heap = h0) (fun _ _ _ _ _ => True) (fun _ U o U' => ∃ v L, o = .returned v ∧ Q8 Z r0 g r b ee pl h0 n0 v U'.heap L ∧ FrameEnd U o U' L ({ frames := 0, cells := 0, slots := 0, locals := 0 } : Room).cells ({ frames := 0, cells := 0, slots := 0, locals := 0 } : Room).slots) := by
  refine MetFree.of_bodySF (plainFor_of_name pn_1) hisR ?_
  intro p e s m args below meth c s₁ Bd hml0 hP hK
  obtain ⟨rfl, hZ, hh⟩ := hP
  have hx := Bd.exec
  have hby := Bd.bytes
  have hml : c.maxLocals = 1 := hml0
  have hown : s.vm.findClass "com/example/cairn/cairn/Groups" = some m.cls := findClass_of_methodNamed Bd.named
  have hnm := (name_of_methodNamed Bd.named Bd.method).1
  have X0 : Stand p l e ({ frames := 0, cells := 0, slots := 0, locals := 0 } : Room) s m #[(.ref r0)] below meth c s₁ [] 0 0 := Stand.of_body Bd
  have e0 : s₁.heap = h0 := by rw [← hh, Bd.state]; rfl
  have N0 := Fr.nil n0
  show own_G p e below (fun (t : State) (o : Outcome) => t.status = .running ∧ Ended t below o ∧ ∃ v L, o = .returned v ∧ Q8 Z r0 g r b ee pl h0 n0 v t.heap L ∧ FrameEnd s o t L ({ frames := 0, cells := 0, slots := 0, locals := 0 } : Room).cells ({ frames := 0, cells := 0, slots := 0, locals := 0 } : Room).slots) (s₁.setTop (entryFrame m #[(.ref r0)] 1))
  rw [ef_8 m r0]
  refine own_st (B := s₁.setTop (mkF m 1 #[.val (.ref r0)] [(.ref r0)])) (fun t k => ?_) ?_
  · show Steps p.tables e below (s₁.setTop (mkF m 0 #[.val (.ref r0)] [])) _
    refine XS.aloadN X0.here hx rfl (hb hby d8_0) rfl rfl ?_
    exact k
  obtain ⟨T1, X1, e1, st1⟩ := getF X0 hx hZ hown (host := "") (Or.inl (hw _ (List.mem_of_getElem? (i := 23) rfl))) Via.refl e0 G.2.2.2.2.2 (g := (mkF m 1 #[.val (.ref r0)] [(.ref r0)])) rfl rfl (hb hby d8_1)
  refine own_st (B := T1.setTop (mkF m 4 #[.val (.ref r0)] [(.int pl)])) (fun t k => st1 t k) ?_
  obtain ⟨fs, hr, hrun, hended, hW, hsame⟩ := X1.leave (v := some (.int pl)) (fun h => by rw [Bd.returns] at h; cases h)
  refine ⟨_, _, ?_, hrun, hended, _, _, rfl, ?_, ⟨_, rfl⟩, hW, hsame.mono (by decide) (by decide)⟩
  · exact retOut X1 hx Bd.returns rfl (Or.inl ⟨rfl, by simp, _, rfl⟩) (hb hby d8_4) hr
  · show Q8 Z r0 g r b ee pl h0 n0 _ T1.heap _
    rw [e1]
    exact ⟨rfl, N0, rfl⟩
theorem ef_0 (m : MethodId) (x0 : Int64) (x1 : Int64) (x2 : Int32) (x3 : Int64) (x4 : Int64) (x5 : Int64) : entryFrame m #[(.long x0), (.long x1), (.int x2), (.long x3), (.long x4), (.long x5)] maxLocals = mkF m 0 #[.val (.long x0), .second, .val (.long x1), .second, .val (.int x2), .val (.long x3), .second, .val (.long x4), .second, .val (.long x5), .second, .unset, .unset, .unset, .unset, .unset, .unset, .unset, .unset, .unset, .unset, .unset, .unset, .unset, .unset, .unset, .unset, .unset, .unset, .unset, .unset, .unset] [] := by first | (simp [entryFrame, mkF, argsToLocals, Value.category, maxLocals]; done) | rfl
def Q0 (Z : State) (q0 : Int64) (q1 : Int64) (fl : Int32) (q3 : Int64) (q4 : Int64) (q5 : Int64) (h0 : Heap) (n0 : Nat) (v : Option Value) (h : Heap) (L : List Loc) : Prop := v = some (.int (1 : Int32)) ∧ Fr n0 L
theorem pd_1 : parseMethodDescriptor "()V" = some ⟨[], none⟩ := by decide +kernel
theorem pd_2 : parseMethodDescriptor "(JZ)Z" = some ⟨[.long, .boolean], some .boolean⟩ := by decide +kernel
theorem pd_3 : parseMethodDescriptor "(J)V" = some ⟨[.long], none⟩ := by decide +kernel
theorem pd_4 : parseMethodDescriptor "()Z" = some ⟨[], some .boolean⟩ := by decide +kernel
theorem pd_5 : parseMethodDescriptor "()J" = some ⟨[], some .long⟩ := by decide +kernel
theorem pd_6 : parseMethodDescriptor "()I" = some ⟨[], some .int⟩ := by decide +kernel
set_option maxRecDepth 65536 in
set_option maxHeartbeats 40000000 in
theorem rm0 (l : Launch) (Z : State) (a0 : Array Value) (hw : ∀ d ∈ tables_1, d.before a0 Z = true) (ws : List Jvm.Cond) (q0 : Int64) (q1 : Int64) (fl : Int32) (q3 : Int64) (q4 : Int64) (q5 : Int64) (h0 : Heap) (n0 : Nat) (Z0 : n0 ≤ h0.size) :
    MetFree l x (head1 (Jvm.Cond.code x code maxLocals ret :: ws) room_1) (fun a U => a = #[(.long q0), (.long q1), (.int fl), (.long q3), (.long q4), (.long q5)] ∧ Z.Warmed39 U.vm ∧ U.heap = h0) (fun _ _ _ _ _ => True) (fun _ U o U' => ∃ v L, o = .returned v ∧ Q0 Z q0 q1 fl q3 q4 q5 h0 n0 v U'.heap L ∧ FrameEnd U o U' L room_1.cells room_1.slots) := by
  refine MetFree.of_bodySF (plainFor_of_name pn_9) hisR ?_
  intro p e s m args below meth c s₁ Bd hml0 hP hK
  obtain ⟨rfl, hZ, hh⟩ := hP
  have hx := Bd.exec
  have hby := Bd.bytes
  have hml : c.maxLocals = 32 := hml0
  have hown : s.vm.findClass "com/example/cairn/cairn/GroupsStartPinLaw" = some m.cls := findClass_of_methodNamed Bd.named
  have hnm := (name_of_methodNamed Bd.named Bd.method).1
  have X0 : Stand p l e room_1 s m #[(.long q0), (.long q1), (.int fl), (.long q3), (.long q4), (.long q5)] below meth c s₁ [] 0 0 := Stand.of_body Bd
  have e0 : s₁.heap = h0 := by rw [← hh, Bd.state]; rfl
  have N0 := Fr.nil n0
  show own_G p e below (fun (t : State) (o : Outcome) => t.status = .running ∧ Ended t below o ∧ ∃ v L, o = .returned v ∧ Q0 Z q0 q1 fl q3 q4 q5 h0 n0 v t.heap L ∧ FrameEnd s o t L room_1.cells room_1.slots) (s₁.setTop (entryFrame m #[(.long q0), (.long q1), (.int fl), (.long q3), (.long q4), (.long q5)] maxLocals))
  rw [ef_0 m q0 q1 fl q3 q4 q5]
  refine own_st (B := s₁.setTop (mkF m 4 #[.val (.long q0), .second, .val (.long q1), .second, .val (.int fl), .val (.long q3), .second, .val (.long q4), .second, .val (.long q5), .second, .unset, .unset, .unset, .unset, .unset, .unset, .unset, .unset, .unset, .unset, .unset, .unset, .unset, .unset, .unset, .unset, .unset, .unset, .unset, .unset, .unset] [(.int (fl &&& (1 : Int32)))])) (fun t k => ?_) ?_
  · show Steps p.tables e below (s₁.setTop (mkF m 0 #[.val (.long q0), .second, .val (.long q1), .second, .val (.int fl), .val (.long q3), .second, .val (.long q4), .second, .val (.long q5), .second, .unset, .unset, .unset, .unset, .unset, .unset, .unset, .unset, .unset, .unset, .unset, .unset, .unset, .unset, .unset, .unset, .unset, .unset, .unset, .unset, .unset] [])) _
    refine XS.iload X0.here hx rfl (hb hby at_0) rfl ?_
    show Steps p.tables e below (s₁.setTop (mkF m 2 #[.val (.long q0), .second, .val (.long q1), .second, .val (.int fl), .val (.long q3), .second, .val (.long q4), .second, .val (.long q5), .second, .unset, .unset, .unset, .unset, .unset, .unset, .unset, .unset, .unset, .unset, .unset, .unset, .unset, .unset, .unset, .unset, .unset, .unset, .unset, .unset, .unset] [(.int fl)])) _
    refine XS.iconst X0.here hx rfl (hb hby at_2) ?_
    show Steps p.tables e below (s₁.setTop (mkF m 3 #[.val (.long q0), .second, .val (.long q1), .second, .val (.int fl), .val (.long q3), .second, .val (.long q4), .second, .val (.long q5), .second, .unset, .unset, .unset, .unset, .unset, .unset, .unset, .unset, .unset, .unset, .unset, .unset, .unset, .unset, .unset, .unset, .unset, .unset, .unset, .unset, .unset] [(.int (1 : Int32)), (.int fl)])) _
    refine XS.iand X0.here hx rfl (hb hby at_3) rfl ?_
    exact k
  have k12 : ∀ b1 : Bool, own_G p e below (fun (t : State) (o : Outcome) => t.status = .running ∧ Ended t below o ∧ ∃ v L, o = .returned v ∧ Q0 Z q0 q1 fl q3 q4 q5 h0 n0 v t.heap L ∧ FrameEnd s o t L room_1.cells room_1.slots) (s₁.setTop (mkF m 12 #[.val (.long q0), .second, .val (.long q1), .second, .val (.int fl), .val (.long q3), .second, .val (.long q4), .second, .val (.long q5), .second, .unset, .unset, .unset, .unset, .unset, .unset, .unset, .unset, .unset, .unset, .unset, .unset, .unset, .unset, .unset, .unset, .unset, .unset, .unset, .unset, .unset] [(.int (own_b b1))])) := by
    intro b1
    refine own_st (B := s₁.setTop (mkF m 18 #[.val (.long q0), .second, .val (.long q1), .second, .val (.int fl), .val (.long q3), .second, .val (.long q4), .second, .val (.long q5), .second, .val (.int (own_b b1)), .unset, .unset, .unset, .unset, .unset, .unset, .unset, .unset, .unset, .unset, .unset, .unset, .unset, .unset, .unset, .unset, .unset, .unset, .unset, .unset] [(.int (fl &&& (2 : Int32)))])) (fun t k => ?_) ?_
    · show Steps p.tables e below (s₁.setTop (mkF m 12 #[.val (.long q0), .second, .val (.long q1), .second, .val (.int fl), .val (.long q3), .second, .val (.long q4), .second, .val (.long q5), .second, .unset, .unset, .unset, .unset, .unset, .unset, .unset, .unset, .unset, .unset, .unset, .unset, .unset, .unset, .unset, .unset, .unset, .unset, .unset, .unset, .unset] [(.int (own_b b1))])) _
      refine XS.istore X0.here hx rfl (hb hby at_12) rfl (l' := #[.val (.long q0), .second, .val (.long q1), .second, .val (.int fl), .val (.long q3), .second, .val (.long q4), .second, .val (.long q5), .second, .val (.int (own_b b1)), .unset, .unset, .unset, .unset, .unset, .unset, .unset, .unset, .unset, .unset, .unset, .unset, .unset, .unset, .unset, .unset, .unset, .unset, .unset, .unset]) rfl ?_
      show Steps p.tables e below (s₁.setTop (mkF m 14 #[.val (.long q0), .second, .val (.long q1), .second, .val (.int fl), .val (.long q3), .second, .val (.long q4), .second, .val (.long q5), .second, .val (.int (own_b b1)), .unset, .unset, .unset, .unset, .unset, .unset, .unset, .unset, .unset, .unset, .unset, .unset, .unset, .unset, .unset, .unset, .unset, .unset, .unset, .unset] [])) _
      refine XS.iload X0.here hx rfl (hb hby at_14) rfl ?_
      show Steps p.tables e below (s₁.setTop (mkF m 16 #[.val (.long q0), .second, .val (.long q1), .second, .val (.int fl), .val (.long q3), .second, .val (.long q4), .second, .val (.long q5), .second, .val (.int (own_b b1)), .unset, .unset, .unset, .unset, .unset, .unset, .unset, .unset, .unset, .unset, .unset, .unset, .unset, .unset, .unset, .unset, .unset, .unset, .unset, .unset] [(.int fl)])) _
      refine XS.iconst X0.here hx rfl (hb hby at_16) ?_
      show Steps p.tables e below (s₁.setTop (mkF m 17 #[.val (.long q0), .second, .val (.long q1), .second, .val (.int fl), .val (.long q3), .second, .val (.long q4), .second, .val (.long q5), .second, .val (.int (own_b b1)), .unset, .unset, .unset, .unset, .unset, .unset, .unset, .unset, .unset, .unset, .unset, .unset, .unset, .unset, .unset, .unset, .unset, .unset, .unset, .unset] [(.int (2 : Int32)), (.int fl)])) _
      refine XS.iand X0.here hx rfl (hb hby at_17) rfl ?_
      exact k
    have k26 : ∀ b2 : Bool, own_G p e below (fun (t : State) (o : Outcome) => t.status = .running ∧ Ended t below o ∧ ∃ v L, o = .returned v ∧ Q0 Z q0 q1 fl q3 q4 q5 h0 n0 v t.heap L ∧ FrameEnd s o t L room_1.cells room_1.slots) (s₁.setTop (mkF m 26 #[.val (.long q0), .second, .val (.long q1), .second, .val (.int fl), .val (.long q3), .second, .val (.long q4), .second, .val (.long q5), .second, .val (.int (own_b b1)), .unset, .unset, .unset, .unset, .unset, .unset, .unset, .unset, .unset, .unset, .unset, .unset, .unset, .unset, .unset, .unset, .unset, .unset, .unset, .unset] [(.int (own_b b2))])) := by
      intro b2
      refine own_st (B := s₁.setTop (mkF m 32 #[.val (.long q0), .second, .val (.long q1), .second, .val (.int fl), .val (.long q3), .second, .val (.long q4), .second, .val (.long q5), .second, .val (.int (own_b b1)), .val (.int (own_b b2)), .unset, .unset, .unset, .unset, .unset, .unset, .unset, .unset, .unset, .unset, .unset, .unset, .unset, .unset, .unset, .unset, .unset, .unset, .unset] [(.int (fl &&& (4 : Int32)))])) (fun t k => ?_) ?_
      · show Steps p.tables e below (s₁.setTop (mkF m 26 #[.val (.long q0), .second, .val (.long q1), .second, .val (.int fl), .val (.long q3), .second, .val (.long q4), .second, .val (.long q5), .second, .val (.int (own_b b1)), .unset, .unset, .unset, .unset, .unset, .unset, .unset, .unset, .unset, .unset, .unset, .unset, .unset, .unset, .unset, .unset, .unset, .unset, .unset, .unset] [(.int (own_b b2))])) _
        refine XS.istore X0.here hx rfl (hb hby at_26) rfl (l' := #[.val (.long q0), .second, .val (.long q1), .second, .val (.int fl), .val (.long q3), .second, .val (.long q4), .second, .val (.long q5), .second, .val (.int (own_b b1)), .val (.int (own_b b2)), .unset, .unset, .unset, .unset, .unset, .unset, .unset, .unset, .unset, .unset, .unset, .unset, .unset, .unset, .unset, .unset, .unset, .unset, .unset]) rfl ?_
        show Steps p.tables e below (s₁.setTop (mkF m 28 #[.val (.long q0), .second, .val (.long q1), .second, .val (.int fl), .val (.long q3), .second, .val (.long q4), .second, .val (.long q5), .second, .val (.int (own_b b1)), .val (.int (own_b b2)), .unset, .unset, .unset, .unset, .unset, .unset, .unset, .unset, .unset, .unset, .unset, .unset, .unset, .unset, .unset, .unset, .unset, .unset, .unset] [])) _
        refine XS.iload X0.here hx rfl (hb hby at_28) rfl ?_
        show Steps p.tables e below (s₁.setTop (mkF m 30 #[.val (.long q0), .second, .val (.long q1), .second, .val (.int fl), .val (.long q3), .second, .val (.long q4), .second, .val (.long q5), .second, .val (.int (own_b b1)), .val (.int (own_b b2)), .unset, .unset, .unset, .unset, .unset, .unset, .unset, .unset, .unset, .unset, .unset, .unset, .unset, .unset, .unset, .unset, .unset, .unset, .unset] [(.int fl)])) _
        refine XS.iconst X0.here hx rfl (hb hby at_30) ?_
        show Steps p.tables e below (s₁.setTop (mkF m 31 #[.val (.long q0), .second, .val (.long q1), .second, .val (.int fl), .val (.long q3), .second, .val (.long q4), .second, .val (.long q5), .second, .val (.int (own_b b1)), .val (.int (own_b b2)), .unset, .unset, .unset, .unset, .unset, .unset, .unset, .unset, .unset, .unset, .unset, .unset, .unset, .unset, .unset, .unset, .unset, .unset, .unset] [(.int (4 : Int32)), (.int fl)])) _
        refine XS.iand X0.here hx rfl (hb hby at_31) rfl ?_
        exact k
      have k40 : ∀ two : Bool, own_G p e below (fun (t : State) (o : Outcome) => t.status = .running ∧ Ended t below o ∧ ∃ v L, o = .returned v ∧ Q0 Z q0 q1 fl q3 q4 q5 h0 n0 v t.heap L ∧ FrameEnd s o t L room_1.cells room_1.slots) (s₁.setTop (mkF m 40 #[.val (.long q0), .second, .val (.long q1), .second, .val (.int fl), .val (.long q3), .second, .val (.long q4), .second, .val (.long q5), .second, .val (.int (own_b b1)), .val (.int (own_b b2)), .unset, .unset, .unset, .unset, .unset, .unset, .unset, .unset, .unset, .unset, .unset, .unset, .unset, .unset, .unset, .unset, .unset, .unset, .unset] [(.int (own_b two))])) := by
        intro two
        refine own_st (B := s₁.setTop (mkF m 66 #[.val (.long q0), .second, .val (.long q1), .second, .val (.int fl), .val (.long q3), .second, .val (.long q4), .second, .val (.long q5), .second, .val (.int (own_b b1)), .val (.int (own_b b2)), .val (.int (own_b two)), .val (.long (q3 &&& (127 : Int64))), .second, .val (.long (q4 &&& (127 : Int64))), .second, .val (.long (q5 &&& (127 : Int64))), .second, .unset, .unset, .unset, .unset, .unset, .unset, .unset, .unset, .unset, .unset, .unset, .unset] [])) (fun t k => ?_) ?_
        · show Steps p.tables e below (s₁.setTop (mkF m 40 #[.val (.long q0), .second, .val (.long q1), .second, .val (.int fl), .val (.long q3), .second, .val (.long q4), .second, .val (.long q5), .second, .val (.int (own_b b1)), .val (.int (own_b b2)), .unset, .unset, .unset, .unset, .unset, .unset, .unset, .unset, .unset, .unset, .unset, .unset, .unset, .unset, .unset, .unset, .unset, .unset, .unset] [(.int (own_b two))])) _
          refine XS.istore X0.here hx rfl (hb hby at_40) rfl (l' := #[.val (.long q0), .second, .val (.long q1), .second, .val (.int fl), .val (.long q3), .second, .val (.long q4), .second, .val (.long q5), .second, .val (.int (own_b b1)), .val (.int (own_b b2)), .val (.int (own_b two)), .unset, .unset, .unset, .unset, .unset, .unset, .unset, .unset, .unset, .unset, .unset, .unset, .unset, .unset, .unset, .unset, .unset, .unset]) rfl ?_
          show Steps p.tables e below (s₁.setTop (mkF m 42 #[.val (.long q0), .second, .val (.long q1), .second, .val (.int fl), .val (.long q3), .second, .val (.long q4), .second, .val (.long q5), .second, .val (.int (own_b b1)), .val (.int (own_b b2)), .val (.int (own_b two)), .unset, .unset, .unset, .unset, .unset, .unset, .unset, .unset, .unset, .unset, .unset, .unset, .unset, .unset, .unset, .unset, .unset, .unset] [])) _
          refine XS.lload X0.here hx rfl (hb hby at_42) rfl ?_
          show Steps p.tables e below (s₁.setTop (mkF m 44 #[.val (.long q0), .second, .val (.long q1), .second, .val (.int fl), .val (.long q3), .second, .val (.long q4), .second, .val (.long q5), .second, .val (.int (own_b b1)), .val (.int (own_b b2)), .val (.int (own_b two)), .unset, .unset, .unset, .unset, .unset, .unset, .unset, .unset, .unset, .unset, .unset, .unset, .unset, .unset, .unset, .unset, .unset, .unset] [(.long q3)])) _
          refine X0.ldc2Long hx hown (mvT hZ (hw _ (List.mem_of_getElem? (i := 0) rfl))) (g := (mkF m 44 #[.val (.long q0), .second, .val (.long q1), .second, .val (.int fl), .val (.long q3), .second, .val (.long q4), .second, .val (.long q5), .second, .val (.int (own_b b1)), .val (.int (own_b b2)), .val (.int (own_b two)), .unset, .unset, .unset, .unset, .unset, .unset, .unset, .unset, .unset, .unset, .unset, .unset, .unset, .unset, .unset, .unset, .unset, .unset] [(.long q3)])) rfl (hb hby at_44) _ ?_
          show Steps p.tables e below (s₁.setTop (mkF m 47 #[.val (.long q0), .second, .val (.long q1), .second, .val (.int fl), .val (.long q3), .second, .val (.long q4), .second, .val (.long q5), .second, .val (.int (own_b b1)), .val (.int (own_b b2)), .val (.int (own_b two)), .unset, .unset, .unset, .unset, .unset, .unset, .unset, .unset, .unset, .unset, .unset, .unset, .unset, .unset, .unset, .unset, .unset, .unset] [(.long (127 : Int64)), (.long q3)])) _
          refine XS.land X0.here hx rfl (hb hby at_47) rfl ?_
          show Steps p.tables e below (s₁.setTop (mkF m 48 #[.val (.long q0), .second, .val (.long q1), .second, .val (.int fl), .val (.long q3), .second, .val (.long q4), .second, .val (.long q5), .second, .val (.int (own_b b1)), .val (.int (own_b b2)), .val (.int (own_b two)), .unset, .unset, .unset, .unset, .unset, .unset, .unset, .unset, .unset, .unset, .unset, .unset, .unset, .unset, .unset, .unset, .unset, .unset] [(.long (q3 &&& (127 : Int64)))])) _
          refine XS.lstore X0.here hx rfl (hb hby at_48) rfl (l' := #[.val (.long q0), .second, .val (.long q1), .second, .val (.int fl), .val (.long q3), .second, .val (.long q4), .second, .val (.long q5), .second, .val (.int (own_b b1)), .val (.int (own_b b2)), .val (.int (own_b two)), .val (.long (q3 &&& (127 : Int64))), .second, .unset, .unset, .unset, .unset, .unset, .unset, .unset, .unset, .unset, .unset, .unset, .unset, .unset, .unset, .unset, .unset]) rfl ?_
          show Steps p.tables e below (s₁.setTop (mkF m 50 #[.val (.long q0), .second, .val (.long q1), .second, .val (.int fl), .val (.long q3), .second, .val (.long q4), .second, .val (.long q5), .second, .val (.int (own_b b1)), .val (.int (own_b b2)), .val (.int (own_b two)), .val (.long (q3 &&& (127 : Int64))), .second, .unset, .unset, .unset, .unset, .unset, .unset, .unset, .unset, .unset, .unset, .unset, .unset, .unset, .unset, .unset, .unset] [])) _
          refine XS.lload X0.here hx rfl (hb hby at_50) rfl ?_
          show Steps p.tables e below (s₁.setTop (mkF m 52 #[.val (.long q0), .second, .val (.long q1), .second, .val (.int fl), .val (.long q3), .second, .val (.long q4), .second, .val (.long q5), .second, .val (.int (own_b b1)), .val (.int (own_b b2)), .val (.int (own_b two)), .val (.long (q3 &&& (127 : Int64))), .second, .unset, .unset, .unset, .unset, .unset, .unset, .unset, .unset, .unset, .unset, .unset, .unset, .unset, .unset, .unset, .unset] [(.long q4)])) _
          refine X0.ldc2Long hx hown (mvT hZ (hw _ (List.mem_of_getElem? (i := 0) rfl))) (g := (mkF m 52 #[.val (.long q0), .second, .val (.long q1), .second, .val (.int fl), .val (.long q3), .second, .val (.long q4), .second, .val (.long q5), .second, .val (.int (own_b b1)), .val (.int (own_b b2)), .val (.int (own_b two)), .val (.long (q3 &&& (127 : Int64))), .second, .unset, .unset, .unset, .unset, .unset, .unset, .unset, .unset, .unset, .unset, .unset, .unset, .unset, .unset, .unset, .unset] [(.long q4)])) rfl (hb hby at_52) _ ?_
          show Steps p.tables e below (s₁.setTop (mkF m 55 #[.val (.long q0), .second, .val (.long q1), .second, .val (.int fl), .val (.long q3), .second, .val (.long q4), .second, .val (.long q5), .second, .val (.int (own_b b1)), .val (.int (own_b b2)), .val (.int (own_b two)), .val (.long (q3 &&& (127 : Int64))), .second, .unset, .unset, .unset, .unset, .unset, .unset, .unset, .unset, .unset, .unset, .unset, .unset, .unset, .unset, .unset, .unset] [(.long (127 : Int64)), (.long q4)])) _
          refine XS.land X0.here hx rfl (hb hby at_55) rfl ?_
          show Steps p.tables e below (s₁.setTop (mkF m 56 #[.val (.long q0), .second, .val (.long q1), .second, .val (.int fl), .val (.long q3), .second, .val (.long q4), .second, .val (.long q5), .second, .val (.int (own_b b1)), .val (.int (own_b b2)), .val (.int (own_b two)), .val (.long (q3 &&& (127 : Int64))), .second, .unset, .unset, .unset, .unset, .unset, .unset, .unset, .unset, .unset, .unset, .unset, .unset, .unset, .unset, .unset, .unset] [(.long (q4 &&& (127 : Int64)))])) _
          refine XS.lstore X0.here hx rfl (hb hby at_56) rfl (l' := #[.val (.long q0), .second, .val (.long q1), .second, .val (.int fl), .val (.long q3), .second, .val (.long q4), .second, .val (.long q5), .second, .val (.int (own_b b1)), .val (.int (own_b b2)), .val (.int (own_b two)), .val (.long (q3 &&& (127 : Int64))), .second, .val (.long (q4 &&& (127 : Int64))), .second, .unset, .unset, .unset, .unset, .unset, .unset, .unset, .unset, .unset, .unset, .unset, .unset, .unset, .unset]) rfl ?_
          show Steps p.tables e below (s₁.setTop (mkF m 58 #[.val (.long q0), .second, .val (.long q1), .second, .val (.int fl), .val (.long q3), .second, .val (.long q4), .second, .val (.long q5), .second, .val (.int (own_b b1)), .val (.int (own_b b2)), .val (.int (own_b two)), .val (.long (q3 &&& (127 : Int64))), .second, .val (.long (q4 &&& (127 : Int64))), .second, .unset, .unset, .unset, .unset, .unset, .unset, .unset, .unset, .unset, .unset, .unset, .unset, .unset, .unset] [])) _
          refine XS.lload X0.here hx rfl (hb hby at_58) rfl ?_
          show Steps p.tables e below (s₁.setTop (mkF m 60 #[.val (.long q0), .second, .val (.long q1), .second, .val (.int fl), .val (.long q3), .second, .val (.long q4), .second, .val (.long q5), .second, .val (.int (own_b b1)), .val (.int (own_b b2)), .val (.int (own_b two)), .val (.long (q3 &&& (127 : Int64))), .second, .val (.long (q4 &&& (127 : Int64))), .second, .unset, .unset, .unset, .unset, .unset, .unset, .unset, .unset, .unset, .unset, .unset, .unset, .unset, .unset] [(.long q5)])) _
          refine X0.ldc2Long hx hown (mvT hZ (hw _ (List.mem_of_getElem? (i := 0) rfl))) (g := (mkF m 60 #[.val (.long q0), .second, .val (.long q1), .second, .val (.int fl), .val (.long q3), .second, .val (.long q4), .second, .val (.long q5), .second, .val (.int (own_b b1)), .val (.int (own_b b2)), .val (.int (own_b two)), .val (.long (q3 &&& (127 : Int64))), .second, .val (.long (q4 &&& (127 : Int64))), .second, .unset, .unset, .unset, .unset, .unset, .unset, .unset, .unset, .unset, .unset, .unset, .unset, .unset, .unset] [(.long q5)])) rfl (hb hby at_60) _ ?_
          show Steps p.tables e below (s₁.setTop (mkF m 63 #[.val (.long q0), .second, .val (.long q1), .second, .val (.int fl), .val (.long q3), .second, .val (.long q4), .second, .val (.long q5), .second, .val (.int (own_b b1)), .val (.int (own_b b2)), .val (.int (own_b two)), .val (.long (q3 &&& (127 : Int64))), .second, .val (.long (q4 &&& (127 : Int64))), .second, .unset, .unset, .unset, .unset, .unset, .unset, .unset, .unset, .unset, .unset, .unset, .unset, .unset, .unset] [(.long (127 : Int64)), (.long q5)])) _
          refine XS.land X0.here hx rfl (hb hby at_63) rfl ?_
          show Steps p.tables e below (s₁.setTop (mkF m 64 #[.val (.long q0), .second, .val (.long q1), .second, .val (.int fl), .val (.long q3), .second, .val (.long q4), .second, .val (.long q5), .second, .val (.int (own_b b1)), .val (.int (own_b b2)), .val (.int (own_b two)), .val (.long (q3 &&& (127 : Int64))), .second, .val (.long (q4 &&& (127 : Int64))), .second, .unset, .unset, .unset, .unset, .unset, .unset, .unset, .unset, .unset, .unset, .unset, .unset, .unset, .unset] [(.long (q5 &&& (127 : Int64)))])) _
          refine XS.lstore X0.here hx rfl (hb hby at_64) rfl (l' := #[.val (.long q0), .second, .val (.long q1), .second, .val (.int fl), .val (.long q3), .second, .val (.long q4), .second, .val (.long q5), .second, .val (.int (own_b b1)), .val (.int (own_b b2)), .val (.int (own_b two)), .val (.long (q3 &&& (127 : Int64))), .second, .val (.long (q4 &&& (127 : Int64))), .second, .val (.long (q5 &&& (127 : Int64))), .second, .unset, .unset, .unset, .unset, .unset, .unset, .unset, .unset, .unset, .unset, .unset, .unset]) rfl ?_
          exact k
        generalize hl1 : (q3 &&& (127 : Int64)) = l1
        generalize hl2 : (q4 &&& (127 : Int64)) = l2
        generalize hl3 : (q5 &&& (127 : Int64)) = l3
        obtain ⟨T1, h1, X1, e1, E1, A1, D1, -, st1⟩ := newO X0 hx hZ hown (hw _ (List.mem_of_getElem? (i := 1) rfl)) (hw _ (List.mem_of_getElem? (i := 2) rfl)) (hw _ (List.mem_of_getElem? (i := 3) rfl)) e0 (g := (mkF m 66 #[.val (.long q0), .second, .val (.long q1), .second, .val (.int fl), .val (.long q3), .second, .val (.long q4), .second, .val (.long q5), .second, .val (.int (own_b b1)), .val (.int (own_b b2)), .val (.int (own_b two)), .val (.long l1), .second, .val (.long l2), .second, .val (.long l3), .second, .unset, .unset, .unset, .unset, .unset, .unset, .unset, .unset, .unset, .unset, .unset, .unset] [])) rfl (hb hby at_66) (by decide) (by decide)
        obtain ⟨o, g1⟩ : ∃ z, z = h0.size := ⟨_, rfl⟩
        rw [← g1] at A1 D1 st1
        refine own_st (B := T1.setTop (mkF m 69 #[.val (.long q0), .second, .val (.long q1), .second, .val (.int fl), .val (.long q3), .second, .val (.long q4), .second, .val (.long q5), .second, .val (.int (own_b b1)), .val (.int (own_b b2)), .val (.int (own_b two)), .val (.long l1), .second, .val (.long l2), .second, .val (.long l3), .second, .unset, .unset, .unset, .unset, .unset, .unset, .unset, .unset, .unset, .unset, .unset, .unset] [(.ref o)])) (fun t k => st1 t k) ?_
        have G0 := own_Gr.new hw A1 D1
        have go : n0 ≤ o := Nat.le_trans Z0 (Nat.le_of_eq g1.symm)
        have Za : n0 ≤ h1.size := Nat.le_trans Z0 E1.1
        refine own_st (B := T1.setTop (mkF m 70 #[.val (.long q0), .second, .val (.long q1), .second, .val (.int fl), .val (.long q3), .second, .val (.long q4), .second, .val (.long q5), .second, .val (.int (own_b b1)), .val (.int (own_b b2)), .val (.int (own_b two)), .val (.long l1), .second, .val (.long l2), .second, .val (.long l3), .second, .unset, .unset, .unset, .unset, .unset, .unset, .unset, .unset, .unset, .unset, .unset, .unset] [(.ref o), (.ref o)])) (fun t k => ?_) ?_
        · show Steps p.tables e below (T1.setTop (mkF m 69 #[.val (.long q0), .second, .val (.long q1), .second, .val (.int fl), .val (.long q3), .second, .val (.long q4), .second, .val (.long q5), .second, .val (.int (own_b b1)), .val (.int (own_b b2)), .val (.int (own_b two)), .val (.long l1), .second, .val (.long l2), .second, .val (.long l3), .second, .unset, .unset, .unset, .unset, .unset, .unset, .unset, .unset, .unset, .unset, .unset, .unset] [(.ref o)])) _
          refine XS.dup X1.here hx rfl (hb hby at_69) rfl rfl ?_
          exact k
        obtain ⟨_, _, ⟨T2, L2, k2, n2⟩, -, X2, ⟨Lc2, hQ2, l2, y2, z2⟩, st2⟩ := X1.specialBack hx (y := (⟨"com/example/cairn/cairn/Groups", "<init>", "()V"⟩ : MethodName)) rfl hown (mvT hZ (hw _ (List.mem_of_getElem? (i := 4) rfl))) (mvT hZ (hw _ (List.mem_of_getElem? (i := 5) rfl))) (mvT hZ (hw _ (List.mem_of_getElem? (i := 6) rfl))) (by decide) (backOf (W := 1) (rm1 l Z a0 hw [] o h1 n0 Za G0 go) hZ (hw _ (List.mem_of_getElem? (i := 6) rfl)) (hw _ (List.mem_of_getElem? (i := 3) rfl)) (by decide) (by decide)) (g := (mkF m 70 #[.val (.long q0), .second, .val (.long q1), .second, .val (.int fl), .val (.long q3), .second, .val (.long q4), .second, .val (.long q5), .second, .val (.int (own_b b1)), .val (.int (own_b b2)), .val (.int (own_b two)), .val (.long l1), .second, .val (.long l2), .second, .val (.long l3), .second, .unset, .unset, .unset, .unset, .unset, .unset, .unset, .unset, .unset, .unset, .unset, .unset] [(.ref o), (.ref o)])) rfl (by rw [hml]; rfl) (Steps.refl _) (a := o) (argsL := []) (rest := [(.ref o)]) (lenOf pd_1 rfl) rfl (by show 2 * 0 + _ ≤ _; exact Nat.le_of_eq rfl) (hb hby at_70) (fun _ _ => ⟨rfl, e1, (by decide : 1 + 0 ≤ _), (by decide : 5 + 0 ≤ _)⟩)
        dsimp only [Pt.U, Pt.locs, Pt.cells, Pt.slots] at X2 l2 y2 z2 st2 hQ2
        subst l2 y2 z2
        obtain ⟨rfl, N2q, K1, G1⟩ := hQ2
        have N2 := Fr.app N0 N2q
        refine own_st (B := T2.setTop (mkF m 73 #[.val (.long q0), .second, .val (.long q1), .second, .val (.int fl), .val (.long q3), .second, .val (.long q4), .second, .val (.long q5), .second, .val (.int (own_b b1)), .val (.int (own_b b2)), .val (.int (own_b two)), .val (.long l1), .second, .val (.long l2), .second, .val (.long l3), .second, .unset, .unset, .unset, .unset, .unset, .unset, .unset, .unset, .unset, .unset, .unset, .unset] [(.ref o)])) (fun t k => st2.trans k) ?_
        have Zb : n0 ≤ T2.heap.size := Nat.le_trans Za K1.1
        refine own_st (B := T2.setTop (mkF m 80 #[.val (.long q0), .second, .val (.long q1), .second, .val (.int fl), .val (.long q3), .second, .val (.long q4), .second, .val (.long q5), .second, .val (.int (own_b b1)), .val (.int (own_b b2)), .val (.int (own_b two)), .val (.long l1), .second, .val (.long l2), .second, .val (.long l3), .second, .val (.ref o), .unset, .unset, .unset, .unset, .unset, .unset, .unset, .unset, .unset, .unset, .unset] [(.int (own_b b1)), (.long q0), (.ref o)])) (fun t k => ?_) ?_
        · show Steps p.tables e below (T2.setTop (mkF m 73 #[.val (.long q0), .second, .val (.long q1), .second, .val (.int fl), .val (.long q3), .second, .val (.long q4), .second, .val (.long q5), .second, .val (.int (own_b b1)), .val (.int (own_b b2)), .val (.int (own_b two)), .val (.long l1), .second, .val (.long l2), .second, .val (.long l3), .second, .unset, .unset, .unset, .unset, .unset, .unset, .unset, .unset, .unset, .unset, .unset, .unset] [(.ref o)])) _
          refine XS.astore X2.here hx rfl (hb hby at_73) rfl rfl (l' := #[.val (.long q0), .second, .val (.long q1), .second, .val (.int fl), .val (.long q3), .second, .val (.long q4), .second, .val (.long q5), .second, .val (.int (own_b b1)), .val (.int (own_b b2)), .val (.int (own_b two)), .val (.long l1), .second, .val (.long l2), .second, .val (.long l3), .second, .val (.ref o), .unset, .unset, .unset, .unset, .unset, .unset, .unset, .unset, .unset, .unset, .unset]) rfl ?_
          show Steps p.tables e below (T2.setTop (mkF m 75 #[.val (.long q0), .second, .val (.long q1), .second, .val (.int fl), .val (.long q3), .second, .val (.long q4), .second, .val (.long q5), .second, .val (.int (own_b b1)), .val (.int (own_b b2)), .val (.int (own_b two)), .val (.long l1), .second, .val (.long l2), .second, .val (.long l3), .second, .val (.ref o), .unset, .unset, .unset, .unset, .unset, .unset, .unset, .unset, .unset, .unset, .unset] [])) _
          refine XS.aload X2.here hx rfl (hb hby at_75) rfl rfl ?_
          show Steps p.tables e below (T2.setTop (mkF m 77 #[.val (.long q0), .second, .val (.long q1), .second, .val (.int fl), .val (.long q3), .second, .val (.long q4), .second, .val (.long q5), .second, .val (.int (own_b b1)), .val (.int (own_b b2)), .val (.int (own_b two)), .val (.long l1), .second, .val (.long l2), .second, .val (.long l3), .second, .val (.ref o), .unset, .unset, .unset, .unset, .unset, .unset, .unset, .unset, .unset, .unset, .unset] [(.ref o)])) _
          refine XS.lloadN X2.here hx rfl (hb hby at_77) rfl ?_
          show Steps p.tables e below (T2.setTop (mkF m 78 #[.val (.long q0), .second, .val (.long q1), .second, .val (.int fl), .val (.long q3), .second, .val (.long q4), .second, .val (.long q5), .second, .val (.int (own_b b1)), .val (.int (own_b b2)), .val (.int (own_b two)), .val (.long l1), .second, .val (.long l2), .second, .val (.long l3), .second, .val (.ref o), .unset, .unset, .unset, .unset, .unset, .unset, .unset, .unset, .unset, .unset, .unset] [(.long q0), (.ref o)])) _
          refine XS.iload X2.here hx rfl (hb hby at_78) rfl ?_
          exact k
        obtain ⟨cq3, kq3, q3a, q3b, q3c⟩ := isOf hZ rfl G1.1
        obtain ⟨_, _, ⟨T3, L3, k3, n3⟩, -, X3, ⟨Lc3, hQ3, l3, y3, z3⟩, st3⟩ := X2.virtualBack hx (y := (⟨"com/example/cairn/cairn/Groups", "start", "(JZ)Z"⟩ : MethodName)) (z := (⟨"com/example/cairn/cairn/Groups", "start", "(JZ)Z"⟩ : MethodName)) hown (mvT hZ (hw _ (List.mem_of_getElem? (i := 12) rfl))) (mvT hZ (hw _ (List.mem_of_getElem? (i := 13) rfl))) (notFace_of_selects (args := #[]) (mvT hZ (hw _ (List.mem_of_getElem? (i := 15) rfl)))) (mvT hZ (hw _ (List.mem_of_getElem? (i := 15) rfl))) (mvT hZ (hw _ (List.mem_of_getElem? (i := 14) rfl))) (by decide) (backOf (W := 0) (rm3 l Z a0 hw [] o q0 (own_b b1) 0 0 0 true 0 b1 T2.heap n0 Zb G1 go rfl) hZ (hw _ (List.mem_of_getElem? (i := 16) rfl)) (hw _ (List.mem_of_getElem? (i := 3) rfl)) (by decide) (by decide)) q3a q3c (g := (mkF m 80 #[.val (.long q0), .second, .val (.long q1), .second, .val (.int fl), .val (.long q3), .second, .val (.long q4), .second, .val (.long q5), .second, .val (.int (own_b b1)), .val (.int (own_b b2)), .val (.int (own_b two)), .val (.long l1), .second, .val (.long l2), .second, .val (.long l3), .second, .val (.ref o), .unset, .unset, .unset, .unset, .unset, .unset, .unset, .unset, .unset, .unset, .unset] [(.int (own_b b1)), (.long q0), (.ref o)])) rfl (by rw [hml]; rfl) (Steps.refl _) (argsL := [(.long q0), (.int (own_b b1))]) (rest := []) (lenOf pd_2 rfl) rfl (by show 2 * 0 + _ ≤ _; exact Nat.le_of_eq rfl) (hb hby at_80) (fun _ _ => ⟨rfl, rfl, (by decide : 1 + 0 ≤ _), (by decide : 5 + 0 ≤ _)⟩)
        dsimp only [Pt.U, Pt.locs, Pt.cells, Pt.slots] at X3 l3 y3 z3 st3 hQ3
        subst l3 y3 z3
        obtain ⟨rfl, N3q, K2, G2'⟩ := hQ3
        have N3 := Fr.app N2 N3q
        refine own_st (B := T3.setTop (mkF m 83 #[.val (.long q0), .second, .val (.long q1), .second, .val (.int fl), .val (.long q3), .second, .val (.long q4), .second, .val (.long q5), .second, .val (.int (own_b b1)), .val (.int (own_b b2)), .val (.int (own_b two)), .val (.long l1), .second, .val (.long l2), .second, .val (.long l3), .second, .val (.ref o), .unset, .unset, .unset, .unset, .unset, .unset, .unset, .unset, .unset, .unset, .unset] [(.int (1 : Int32))])) (fun t k => st3.trans k) ?_
        have Zc : n0 ≤ T3.heap.size := Nat.le_trans Zb K2.1
        have G2 : own_Gr Z T3.heap o q0 0 0 (own_b false) 0 := G2'
        refine own_st (B := T3.setTop (mkF m 87 #[.val (.long q0), .second, .val (.long q1), .second, .val (.int fl), .val (.long q3), .second, .val (.long q4), .second, .val (.long q5), .second, .val (.int (own_b b1)), .val (.int (own_b b2)), .val (.int (own_b two)), .val (.long l1), .second, .val (.long l2), .second, .val (.long l3), .second, .val (.ref o), .val (.int (1 : Int32)), .unset, .unset, .unset, .unset, .unset, .unset, .unset, .unset, .unset, .unset] [(.int (1 : Int32))])) (fun t k => ?_) ?_
        · show Steps p.tables e below (T3.setTop (mkF m 83 #[.val (.long q0), .second, .val (.long q1), .second, .val (.int fl), .val (.long q3), .second, .val (.long q4), .second, .val (.long q5), .second, .val (.int (own_b b1)), .val (.int (own_b b2)), .val (.int (own_b two)), .val (.long l1), .second, .val (.long l2), .second, .val (.long l3), .second, .val (.ref o), .unset, .unset, .unset, .unset, .unset, .unset, .unset, .unset, .unset, .unset, .unset] [(.int (1 : Int32))])) _
          refine XS.istore X3.here hx rfl (hb hby at_83) rfl (l' := #[.val (.long q0), .second, .val (.long q1), .second, .val (.int fl), .val (.long q3), .second, .val (.long q4), .second, .val (.long q5), .second, .val (.int (own_b b1)), .val (.int (own_b b2)), .val (.int (own_b two)), .val (.long l1), .second, .val (.long l2), .second, .val (.long l3), .second, .val (.ref o), .val (.int (1 : Int32)), .unset, .unset, .unset, .unset, .unset, .unset, .unset, .unset, .unset, .unset]) rfl ?_
          show Steps p.tables e below (T3.setTop (mkF m 85 #[.val (.long q0), .second, .val (.long q1), .second, .val (.int fl), .val (.long q3), .second, .val (.long q4), .second, .val (.long q5), .second, .val (.int (own_b b1)), .val (.int (own_b b2)), .val (.int (own_b two)), .val (.long l1), .second, .val (.long l2), .second, .val (.long l3), .second, .val (.ref o), .val (.int (1 : Int32)), .unset, .unset, .unset, .unset, .unset, .unset, .unset, .unset, .unset, .unset] [])) _
          refine XS.iload X3.here hx rfl (hb hby at_85) rfl ?_
          exact k
        refine own_st (B := T3.setTop (mkF m 96 #[.val (.long q0), .second, .val (.long q1), .second, .val (.int fl), .val (.long q3), .second, .val (.long q4), .second, .val (.long q5), .second, .val (.int (own_b b1)), .val (.int (own_b b2)), .val (.int (own_b two)), .val (.long l1), .second, .val (.long l2), .second, .val (.long l3), .second, .val (.ref o), .val (.int (1 : Int32)), .unset, .unset, .unset, .unset, .unset, .unset, .unset, .unset, .unset, .unset] [(.long l1), (.ref o)])) (fun t k => ?_) ?_
        · show Steps p.tables e below (T3.setTop (mkF m 87 #[.val (.long q0), .second, .val (.long q1), .second, .val (.int fl), .val (.long q3), .second, .val (.long q4), .second, .val (.long q5), .second, .val (.int (own_b b1)), .val (.int (own_b b2)), .val (.int (own_b two)), .val (.long l1), .second, .val (.long l2), .second, .val (.long l3), .second, .val (.ref o), .val (.int (1 : Int32)), .unset, .unset, .unset, .unset, .unset, .unset, .unset, .unset, .unset, .unset] [(.int (1 : Int32))])) _
          refine XS.ifYes X3.here hx rfl (pc0 := 87) (pc' := 92) rfl (hb hby at_87) rfl ((if0 _ _).trans (feq (by decide)).2) (by decide) (by decide) ?_
          show Steps p.tables e below (T3.setTop (mkF m 92 #[.val (.long q0), .second, .val (.long q1), .second, .val (.int fl), .val (.long q3), .second, .val (.long q4), .second, .val (.long q5), .second, .val (.int (own_b b1)), .val (.int (own_b b2)), .val (.int (own_b two)), .val (.long l1), .second, .val (.long l2), .second, .val (.long l3), .second, .val (.ref o), .val (.int (1 : Int32)), .unset, .unset, .unset, .unset, .unset, .unset, .unset, .unset, .unset, .unset] [])) _
          refine XS.aload X3.here hx rfl (hb hby at_92) rfl rfl ?_
          show Steps p.tables e below (T3.setTop (mkF m 94 #[.val (.long q0), .second, .val (.long q1), .second, .val (.int fl), .val (.long q3), .second, .val (.long q4), .second, .val (.long q5), .second, .val (.int (own_b b1)), .val (.int (own_b b2)), .val (.int (own_b two)), .val (.long l1), .second, .val (.long l2), .second, .val (.long l3), .second, .val (.ref o), .val (.int (1 : Int32)), .unset, .unset, .unset, .unset, .unset, .unset, .unset, .unset, .unset, .unset] [(.ref o)])) _
          refine XS.lload X3.here hx rfl (hb hby at_94) rfl ?_
          exact k
        obtain ⟨cq4, kq4, q4a, q4b, q4c⟩ := isOf hZ rfl G2.1
        obtain ⟨_, _, ⟨T4, L4, k4, n4⟩, -, X4, ⟨Lc4, hQ4, l4, y4, z4⟩, st4⟩ := X3.virtualBack hx (y := (⟨"com/example/cairn/cairn/Groups", "end", "(J)V"⟩ : MethodName)) (z := (⟨"com/example/cairn/cairn/Groups", "end", "(J)V"⟩ : MethodName)) hown (mvT hZ (hw _ (List.mem_of_getElem? (i := 25) rfl))) (mvT hZ (hw _ (List.mem_of_getElem? (i := 26) rfl))) (notFace_of_selects (args := #[]) (mvT hZ (hw _ (List.mem_of_getElem? (i := 28) rfl)))) (mvT hZ (hw _ (List.mem_of_getElem? (i := 28) rfl))) (mvT hZ (hw _ (List.mem_of_getElem? (i := 27) rfl))) (by decide) (backOf (W := 0) (rm4 l Z a0 hw [] o l1 q0 0 0 false 0 T3.heap n0 Zc G2 go) hZ (hw _ (List.mem_of_getElem? (i := 29) rfl)) (hw _ (List.mem_of_getElem? (i := 3) rfl)) (by decide) (by decide)) q4a q4c (g := (mkF m 96 #[.val (.long q0), .second, .val (.long q1), .second, .val (.int fl), .val (.long q3), .second, .val (.long q4), .second, .val (.long q5), .second, .val (.int (own_b b1)), .val (.int (own_b b2)), .val (.int (own_b two)), .val (.long l1), .second, .val (.long l2), .second, .val (.long l3), .second, .val (.ref o), .val (.int (1 : Int32)), .unset, .unset, .unset, .unset, .unset, .unset, .unset, .unset, .unset, .unset] [(.long l1), (.ref o)])) rfl (by rw [hml]; rfl) (Steps.refl _) (argsL := [(.long l1)]) (rest := []) (lenOf pd_3 rfl) rfl (by show 2 * 0 + _ ≤ _; exact Nat.le_of_eq rfl) (hb hby at_96) (fun _ _ => ⟨rfl, rfl, (by decide : 1 + 0 ≤ _), (by decide : 5 + 0 ≤ _)⟩)
        dsimp only [Pt.U, Pt.locs, Pt.cells, Pt.slots] at X4 l4 y4 z4 st4 hQ4
        subst l4 y4 z4
        obtain ⟨rfl, N4q, K3, G3'⟩ := hQ4
        have N4 := Fr.app N3 N4q
        refine own_st (B := T4.setTop (mkF m 99 #[.val (.long q0), .second, .val (.long q1), .second, .val (.int fl), .val (.long q3), .second, .val (.long q4), .second, .val (.long q5), .second, .val (.int (own_b b1)), .val (.int (own_b b2)), .val (.int (own_b two)), .val (.long l1), .second, .val (.long l2), .second, .val (.long l3), .second, .val (.ref o), .val (.int (1 : Int32)), .unset, .unset, .unset, .unset, .unset, .unset, .unset, .unset, .unset, .unset] [])) (fun t k => st4.trans k) ?_
        have Zd : n0 ≤ T4.heap.size := Nat.le_trans Zc K3.1
        have G3 : own_Gr Z T4.heap o q0 1 l1 (own_b (own_ends 1 l1)) 0 := by
          have q := G3'
          rw [Int64.zero_add, show (0 : Int32) + 1 = 1 from rfl, Bool.false_or] at q
          exact q
        refine own_st (B := T4.setTop (mkF m 108 #[.val (.long q0), .second, .val (.long q1), .second, .val (.int fl), .val (.long q3), .second, .val (.long q4), .second, .val (.long q5), .second, .val (.int (own_b b1)), .val (.int (own_b b2)), .val (.int (own_b two)), .val (.long l1), .second, .val (.long l2), .second, .val (.long l3), .second, .val (.ref o), .val (.int (1 : Int32)), .val (.int (1 : Int32)), .val (.long l1), .second, .unset, .unset, .unset, .unset, .unset, .unset, .unset] [(.int (own_b two))])) (fun t k => ?_) ?_
        · show Steps p.tables e below (T4.setTop (mkF m 99 #[.val (.long q0), .second, .val (.long q1), .second, .val (.int fl), .val (.long q3), .second, .val (.long q4), .second, .val (.long q5), .second, .val (.int (own_b b1)), .val (.int (own_b b2)), .val (.int (own_b two)), .val (.long l1), .second, .val (.long l2), .second, .val (.long l3), .second, .val (.ref o), .val (.int (1 : Int32)), .unset, .unset, .unset, .unset, .unset, .unset, .unset, .unset, .unset, .unset] [])) _
          refine XS.iconst X4.here hx rfl (hb hby at_99) ?_
          show Steps p.tables e below (T4.setTop (mkF m 100 #[.val (.long q0), .second, .val (.long q1), .second, .val (.int fl), .val (.long q3), .second, .val (.long q4), .second, .val (.long q5), .second, .val (.int (own_b b1)), .val (.int (own_b b2)), .val (.int (own_b two)), .val (.long l1), .second, .val (.long l2), .second, .val (.long l3), .second, .val (.ref o), .val (.int (1 : Int32)), .unset, .unset, .unset, .unset, .unset, .unset, .unset, .unset, .unset, .unset] [(.int (1 : Int32))])) _
          refine XS.istore X4.here hx rfl (hb hby at_100) rfl (l' := #[.val (.long q0), .second, .val (.long q1), .second, .val (.int fl), .val (.long q3), .second, .val (.long q4), .second, .val (.long q5), .second, .val (.int (own_b b1)), .val (.int (own_b b2)), .val (.int (own_b two)), .val (.long l1), .second, .val (.long l2), .second, .val (.long l3), .second, .val (.ref o), .val (.int (1 : Int32)), .val (.int (1 : Int32)), .unset, .unset, .unset, .unset, .unset, .unset, .unset, .unset, .unset]) rfl ?_
          show Steps p.tables e below (T4.setTop (mkF m 102 #[.val (.long q0), .second, .val (.long q1), .second, .val (.int fl), .val (.long q3), .second, .val (.long q4), .second, .val (.long q5), .second, .val (.int (own_b b1)), .val (.int (own_b b2)), .val (.int (own_b two)), .val (.long l1), .second, .val (.long l2), .second, .val (.long l3), .second, .val (.ref o), .val (.int (1 : Int32)), .val (.int (1 : Int32)), .unset, .unset, .unset, .unset, .unset, .unset, .unset, .unset, .unset] [])) _
          refine XS.lload X4.here hx rfl (hb hby at_102) rfl ?_
          show Steps p.tables e below (T4.setTop (mkF m 104 #[.val (.long q0), .second, .val (.long q1), .second, .val (.int fl), .val (.long q3), .second, .val (.long q4), .second, .val (.long q5), .second, .val (.int (own_b b1)), .val (.int (own_b b2)), .val (.int (own_b two)), .val (.long l1), .second, .val (.long l2), .second, .val (.long l3), .second, .val (.ref o), .val (.int (1 : Int32)), .val (.int (1 : Int32)), .unset, .unset, .unset, .unset, .unset, .unset, .unset, .unset, .unset] [(.long l1)])) _
          refine XS.lstore X4.here hx rfl (hb hby at_104) rfl (l' := #[.val (.long q0), .second, .val (.long q1), .second, .val (.int fl), .val (.long q3), .second, .val (.long q4), .second, .val (.long q5), .second, .val (.int (own_b b1)), .val (.int (own_b b2)), .val (.int (own_b two)), .val (.long l1), .second, .val (.long l2), .second, .val (.long l3), .second, .val (.ref o), .val (.int (1 : Int32)), .val (.int (1 : Int32)), .val (.long l1), .second, .unset, .unset, .unset, .unset, .unset, .unset, .unset]) rfl ?_
          show Steps p.tables e below (T4.setTop (mkF m 106 #[.val (.long q0), .second, .val (.long q1), .second, .val (.int fl), .val (.long q3), .second, .val (.long q4), .second, .val (.long q5), .second, .val (.int (own_b b1)), .val (.int (own_b b2)), .val (.int (own_b two)), .val (.long l1), .second, .val (.long l2), .second, .val (.long l3), .second, .val (.ref o), .val (.int (1 : Int32)), .val (.int (1 : Int32)), .val (.long l1), .second, .unset, .unset, .unset, .unset, .unset, .unset, .unset] [])) _
          refine XS.iload X4.here hx rfl (hb hby at_106) rfl ?_
          exact k
        have k128 : ∀ (T5 : State) (lc5 : List Loc) (X5 : Stand p l e room_1 s m #[(.long q0), (.long q1), (.int fl), (.long q3), (.long q4), (.long q5)] below meth c T5 lc5 1 5) (N5 : Fr n0 lc5) (Z5 : n0 ≤ T5.heap.size) (nn : Int32) (tot : Int64) (ee : Bool) (G : own_Gr Z T5.heap o q0 nn tot (own_b ee) 0), own_G p e below (fun (t : State) (o : Outcome) => t.status = .running ∧ Ended t below o ∧ ∃ v L, o = .returned v ∧ Q0 Z q0 q1 fl q3 q4 q5 h0 n0 v t.heap L ∧ FrameEnd s o t L room_1.cells room_1.slots) (T5.setTop (mkF m 128 #[.val (.long q0), .second, .val (.long q1), .second, .val (.int fl), .val (.long q3), .second, .val (.long q4), .second, .val (.long q5), .second, .val (.int (own_b b1)), .val (.int (own_b b2)), .val (.int (own_b two)), .val (.long l1), .second, .val (.long l2), .second, .val (.long l3), .second, .val (.ref o), .val (.int (1 : Int32)), .val (.int nn), .val (.long tot), .second, .unset, .unset, .unset, .unset, .unset, .unset, .unset] [])) := by
          intro T5 lc5 X5 N5 Z5 nn tot ee G
          refine own_st (B := T5.setTop (mkF m 130 #[.val (.long q0), .second, .val (.long q1), .second, .val (.int fl), .val (.long q3), .second, .val (.long q4), .second, .val (.long q5), .second, .val (.int (own_b b1)), .val (.int (own_b b2)), .val (.int (own_b two)), .val (.long l1), .second, .val (.long l2), .second, .val (.long l3), .second, .val (.ref o), .val (.int (1 : Int32)), .val (.int nn), .val (.long tot), .second, .unset, .unset, .unset, .unset, .unset, .unset, .unset] [(.ref o)])) (fun t k => ?_) ?_
          · show Steps p.tables e below (T5.setTop (mkF m 128 #[.val (.long q0), .second, .val (.long q1), .second, .val (.int fl), .val (.long q3), .second, .val (.long q4), .second, .val (.long q5), .second, .val (.int (own_b b1)), .val (.int (own_b b2)), .val (.int (own_b two)), .val (.long l1), .second, .val (.long l2), .second, .val (.long l3), .second, .val (.ref o), .val (.int (1 : Int32)), .val (.int nn), .val (.long tot), .second, .unset, .unset, .unset, .unset, .unset, .unset, .unset] [])) _
            refine XS.aload X5.here hx rfl (hb hby at_128) rfl rfl ?_
            exact k
          obtain ⟨cq6, kq6, q6a, q6b, q6c⟩ := isOf hZ rfl G.1
          obtain ⟨_, _, ⟨T6, L6, k6, n6⟩, -, X6, ⟨Lc6, hQ6, l6, y6, z6⟩, st6⟩ := X5.virtualBack hx (y := (⟨"com/example/cairn/cairn/Groups", "ended", "()Z"⟩ : MethodName)) (z := (⟨"com/example/cairn/cairn/Groups", "ended", "()Z"⟩ : MethodName)) hown (mvT hZ (hw _ (List.mem_of_getElem? (i := 35) rfl))) (mvT hZ (hw _ (List.mem_of_getElem? (i := 36) rfl))) (notFace_of_selects (args := #[]) (mvT hZ (hw _ (List.mem_of_getElem? (i := 38) rfl)))) (mvT hZ (hw _ (List.mem_of_getElem? (i := 38) rfl))) (mvT hZ (hw _ (List.mem_of_getElem? (i := 37) rfl))) (by decide) (backOf (W := 0) (rm6 l Z a0 hw [] o q0 nn tot ee 0 T5.heap n0 Z5 G) hZ (hw _ (List.mem_of_getElem? (i := 39) rfl)) (hw _ (List.mem_of_getElem? (i := 3) rfl)) (by decide) (by decide)) q6a q6c (g := (mkF m 130 #[.val (.long q0), .second, .val (.long q1), .second, .val (.int fl), .val (.long q3), .second, .val (.long q4), .second, .val (.long q5), .second, .val (.int (own_b b1)), .val (.int (own_b b2)), .val (.int (own_b two)), .val (.long l1), .second, .val (.long l2), .second, .val (.long l3), .second, .val (.ref o), .val (.int (1 : Int32)), .val (.int nn), .val (.long tot), .second, .unset, .unset, .unset, .unset, .unset, .unset, .unset] [(.ref o)])) rfl (by rw [hml]; rfl) (Steps.refl _) (argsL := []) (rest := []) (lenOf pd_4 rfl) rfl (by show 2 * 0 + _ ≤ _; exact Nat.le_of_eq rfl) (hb hby at_130) (fun _ _ => ⟨rfl, rfl, (by decide : 1 + 0 ≤ _), (by decide : 5 + 0 ≤ _)⟩)
          dsimp only [Pt.U, Pt.locs, Pt.cells, Pt.slots] at X6 l6 y6 z6 st6 hQ6
          subst l6 y6 z6
          obtain ⟨rfl, N6q, e6⟩ := hQ6
          have N6 := Fr.app N5 N6q
          refine own_st (B := T6.setTop (mkF m 133 #[.val (.long q0), .second, .val (.long q1), .second, .val (.int fl), .val (.long q3), .second, .val (.long q4), .second, .val (.long q5), .second, .val (.int (own_b b1)), .val (.int (own_b b2)), .val (.int (own_b two)), .val (.long l1), .second, .val (.long l2), .second, .val (.long l3), .second, .val (.ref o), .val (.int (1 : Int32)), .val (.int nn), .val (.long tot), .second, .unset, .unset, .unset, .unset, .unset, .unset, .unset] [(.int (own_b ee))])) (fun t k => st6.trans k) ?_
          refine own_st (B := T6.setTop (mkF m 140 #[.val (.long q0), .second, .val (.long q1), .second, .val (.int fl), .val (.long q3), .second, .val (.long q4), .second, .val (.long q5), .second, .val (.int (own_b b1)), .val (.int (own_b b2)), .val (.int (own_b two)), .val (.long l1), .second, .val (.long l2), .second, .val (.long l3), .second, .val (.ref o), .val (.int (1 : Int32)), .val (.int nn), .val (.long tot), .second, .val (.int (own_b ee)), .unset, .unset, .unset, .unset, .unset, .unset] [(.int (own_b b2)), (.long q1), (.ref o)])) (fun t k => ?_) ?_
          · show Steps p.tables e below (T6.setTop (mkF m 133 #[.val (.long q0), .second, .val (.long q1), .second, .val (.int fl), .val (.long q3), .second, .val (.long q4), .second, .val (.long q5), .second, .val (.int (own_b b1)), .val (.int (own_b b2)), .val (.int (own_b two)), .val (.long l1), .second, .val (.long l2), .second, .val (.long l3), .second, .val (.ref o), .val (.int (1 : Int32)), .val (.int nn), .val (.long tot), .second, .unset, .unset, .unset, .unset, .unset, .unset, .unset] [(.int (own_b ee))])) _
            refine XS.istore X6.here hx rfl (hb hby at_133) rfl (l' := #[.val (.long q0), .second, .val (.long q1), .second, .val (.int fl), .val (.long q3), .second, .val (.long q4), .second, .val (.long q5), .second, .val (.int (own_b b1)), .val (.int (own_b b2)), .val (.int (own_b two)), .val (.long l1), .second, .val (.long l2), .second, .val (.long l3), .second, .val (.ref o), .val (.int (1 : Int32)), .val (.int nn), .val (.long tot), .second, .val (.int (own_b ee)), .unset, .unset, .unset, .unset, .unset, .unset]) rfl ?_
            show Steps p.tables e below (T6.setTop (mkF m 135 #[.val (.long q0), .second, .val (.long q1), .second, .val (.int fl), .val (.long q3), .second, .val (.long q4), .second, .val (.long q5), .second, .val (.int (own_b b1)), .val (.int (own_b b2)), .val (.int (own_b two)), .val (.long l1), .second, .val (.long l2), .second, .val (.long l3), .second, .val (.ref o), .val (.int (1 : Int32)), .val (.int nn), .val (.long tot), .second, .val (.int (own_b ee)), .unset, .unset, .unset, .unset, .unset, .unset] [])) _
            refine XS.aload X6.here hx rfl (hb hby at_135) rfl rfl ?_
            show Steps p.tables e below (T6.setTop (mkF m 137 #[.val (.long q0), .second, .val (.long q1), .second, .val (.int fl), .val (.long q3), .second, .val (.long q4), .second, .val (.long q5), .second, .val (.int (own_b b1)), .val (.int (own_b b2)), .val (.int (own_b two)), .val (.long l1), .second, .val (.long l2), .second, .val (.long l3), .second, .val (.ref o), .val (.int (1 : Int32)), .val (.int nn), .val (.long tot), .second, .val (.int (own_b ee)), .unset, .unset, .unset, .unset, .unset, .unset] [(.ref o)])) _
            refine XS.lloadN X6.here hx rfl (hb hby at_137) rfl ?_
            show Steps p.tables e below (T6.setTop (mkF m 138 #[.val (.long q0), .second, .val (.long q1), .second, .val (.int fl), .val (.long q3), .second, .val (.long q4), .second, .val (.long q5), .second, .val (.int (own_b b1)), .val (.int (own_b b2)), .val (.int (own_b two)), .val (.long l1), .second, .val (.long l2), .second, .val (.long l3), .second, .val (.ref o), .val (.int (1 : Int32)), .val (.int nn), .val (.long tot), .second, .val (.int (own_b ee)), .unset, .unset, .unset, .unset, .unset, .unset] [(.long q1), (.ref o)])) _
            refine XS.iload X6.here hx rfl (hb hby at_138) rfl ?_
            exact k
          obtain ⟨cq7, kq7, q7a, q7b, q7c⟩ := isOf hZ e6 G.1
          obtain ⟨_, _, ⟨T7, L7, k7, n7⟩, -, X7, ⟨Lc7, hQ7, l7, y7, z7⟩, st7⟩ := X6.virtualBack hx (y := (⟨"com/example/cairn/cairn/Groups", "start", "(JZ)Z"⟩ : MethodName)) (z := (⟨"com/example/cairn/cairn/Groups", "start", "(JZ)Z"⟩ : MethodName)) hown (mvT hZ (hw _ (List.mem_of_getElem? (i := 12) rfl))) (mvT hZ (hw _ (List.mem_of_getElem? (i := 13) rfl))) (notFace_of_selects (args := #[]) (mvT hZ (hw _ (List.mem_of_getElem? (i := 15) rfl)))) (mvT hZ (hw _ (List.mem_of_getElem? (i := 15) rfl))) (mvT hZ (hw _ (List.mem_of_getElem? (i := 14) rfl))) (by decide) (backOf (W := 0) (rm3 l Z a0 hw [] o q1 (own_b b2) q0 nn tot ee 0 b2 T5.heap n0 Z5 G go rfl) hZ (hw _ (List.mem_of_getElem? (i := 16) rfl)) (hw _ (List.mem_of_getElem? (i := 3) rfl)) (by decide) (by decide)) q7a q7c (g := (mkF m 140 #[.val (.long q0), .second, .val (.long q1), .second, .val (.int fl), .val (.long q3), .second, .val (.long q4), .second, .val (.long q5), .second, .val (.int (own_b b1)), .val (.int (own_b b2)), .val (.int (own_b two)), .val (.long l1), .second, .val (.long l2), .second, .val (.long l3), .second, .val (.ref o), .val (.int (1 : Int32)), .val (.int nn), .val (.long tot), .second, .val (.int (own_b ee)), .unset, .unset, .unset, .unset, .unset, .unset] [(.int (own_b b2)), (.long q1), (.ref o)])) rfl (by rw [hml]; rfl) (Steps.refl _) (argsL := [(.long q1), (.int (own_b b2))]) (rest := []) (lenOf pd_2 rfl) rfl (by show 2 * 0 + _ ≤ _; exact Nat.le_of_eq rfl) (hb hby at_140) (fun _ _ => ⟨rfl, e6, (by decide : 1 + 0 ≤ _), (by decide : 5 + 0 ≤ _)⟩)
          dsimp only [Pt.U, Pt.locs, Pt.cells, Pt.slots] at X7 l7 y7 z7 st7 hQ7
          subst l7 y7 z7
          obtain ⟨rfl, N7q, K5, G5⟩ := hQ7
          have N7 := Fr.app N6 N7q
          refine own_st (B := T7.setTop (mkF m 143 #[.val (.long q0), .second, .val (.long q1), .second, .val (.int fl), .val (.long q3), .second, .val (.long q4), .second, .val (.long q5), .second, .val (.int (own_b b1)), .val (.int (own_b b2)), .val (.int (own_b two)), .val (.long l1), .second, .val (.long l2), .second, .val (.long l3), .second, .val (.ref o), .val (.int (1 : Int32)), .val (.int nn), .val (.long tot), .second, .val (.int (own_b ee)), .unset, .unset, .unset, .unset, .unset, .unset] [(.int (own_b (ee || b2)))])) (fun t k => st7.trans k) ?_
          have Zf : n0 ≤ T7.heap.size := Nat.le_trans Z5 K5.1
          refine own_st (B := T7.setTop (mkF m 149 #[.val (.long q0), .second, .val (.long q1), .second, .val (.int fl), .val (.long q3), .second, .val (.long q4), .second, .val (.long q5), .second, .val (.int (own_b b1)), .val (.int (own_b b2)), .val (.int (own_b two)), .val (.long l1), .second, .val (.long l2), .second, .val (.long l3), .second, .val (.ref o), .val (.int (1 : Int32)), .val (.int nn), .val (.long tot), .second, .val (.int (own_b ee)), .val (.int (own_b (ee || b2))), .unset, .unset, .unset, .unset, .unset] [(.int (own_b ee)), (.int (own_b (ee || b2)))])) (fun t k => ?_) ?_
          · show Steps p.tables e below (T7.setTop (mkF m 143 #[.val (.long q0), .second, .val (.long q1), .second, .val (.int fl), .val (.long q3), .second, .val (.long q4), .second, .val (.long q5), .second, .val (.int (own_b b1)), .val (.int (own_b b2)), .val (.int (own_b two)), .val (.long l1), .second, .val (.long l2), .second, .val (.long l3), .second, .val (.ref o), .val (.int (1 : Int32)), .val (.int nn), .val (.long tot), .second, .val (.int (own_b ee)), .unset, .unset, .unset, .unset, .unset, .unset] [(.int (own_b (ee || b2)))])) _
            refine XS.istore X7.here hx rfl (hb hby at_143) rfl (l' := #[.val (.long q0), .second, .val (.long q1), .second, .val (.int fl), .val (.long q3), .second, .val (.long q4), .second, .val (.long q5), .second, .val (.int (own_b b1)), .val (.int (own_b b2)), .val (.int (own_b two)), .val (.long l1), .second, .val (.long l2), .second, .val (.long l3), .second, .val (.ref o), .val (.int (1 : Int32)), .val (.int nn), .val (.long tot), .second, .val (.int (own_b ee)), .val (.int (own_b (ee || b2))), .unset, .unset, .unset, .unset, .unset]) rfl ?_
            show Steps p.tables e below (T7.setTop (mkF m 145 #[.val (.long q0), .second, .val (.long q1), .second, .val (.int fl), .val (.long q3), .second, .val (.long q4), .second, .val (.long q5), .second, .val (.int (own_b b1)), .val (.int (own_b b2)), .val (.int (own_b two)), .val (.long l1), .second, .val (.long l2), .second, .val (.long l3), .second, .val (.ref o), .val (.int (1 : Int32)), .val (.int nn), .val (.long tot), .second, .val (.int (own_b ee)), .val (.int (own_b (ee || b2))), .unset, .unset, .unset, .unset, .unset] [])) _
            refine XS.iload X7.here hx rfl (hb hby at_145) rfl ?_
            show Steps p.tables e below (T7.setTop (mkF m 147 #[.val (.long q0), .second, .val (.long q1), .second, .val (.int fl), .val (.long q3), .second, .val (.long q4), .second, .val (.long q5), .second, .val (.int (own_b b1)), .val (.int (own_b b2)), .val (.int (own_b two)), .val (.long l1), .second, .val (.long l2), .second, .val (.long l3), .second, .val (.ref o), .val (.int (1 : Int32)), .val (.int nn), .val (.long tot), .second, .val (.int (own_b ee)), .val (.int (own_b (ee || b2))), .unset, .unset, .unset, .unset, .unset] [(.int (own_b (ee || b2)))])) _
            refine XS.iload X7.here hx rfl (hb hby at_147) rfl ?_
            exact k
          have k162 : own_G p e below (fun (t : State) (o : Outcome) => t.status = .running ∧ Ended t below o ∧ ∃ v L, o = .returned v ∧ Q0 Z q0 q1 fl q3 q4 q5 h0 n0 v t.heap L ∧ FrameEnd s o t L room_1.cells room_1.slots) (T7.setTop (mkF m 162 #[.val (.long q0), .second, .val (.long q1), .second, .val (.int fl), .val (.long q3), .second, .val (.long q4), .second, .val (.long q5), .second, .val (.int (own_b b1)), .val (.int (own_b b2)), .val (.int (own_b two)), .val (.long l1), .second, .val (.long l2), .second, .val (.long l3), .second, .val (.ref o), .val (.int (1 : Int32)), .val (.int nn), .val (.long tot), .second, .val (.int (own_b ee)), .val (.int (own_b (ee || b2))), .unset, .unset, .unset, .unset, .unset] [(.int (own_b (ee || b2))), (.int (own_b (ee || b2)))])) := by
            refine own_st (B := T7.setTop (mkF m 167 #[.val (.long q0), .second, .val (.long q1), .second, .val (.int fl), .val (.long q3), .second, .val (.long q4), .second, .val (.long q5), .second, .val (.int (own_b b1)), .val (.int (own_b b2)), .val (.int (own_b two)), .val (.long l1), .second, .val (.long l2), .second, .val (.long l3), .second, .val (.ref o), .val (.int (1 : Int32)), .val (.int nn), .val (.long tot), .second, .val (.int (own_b ee)), .val (.int (own_b (ee || b2))), .unset, .unset, .unset, .unset, .unset] [])) (fun t k => ?_) ?_
            · show Steps p.tables e below (T7.setTop (mkF m 162 #[.val (.long q0), .second, .val (.long q1), .second, .val (.int fl), .val (.long q3), .second, .val (.long q4), .second, .val (.long q5), .second, .val (.int (own_b b1)), .val (.int (own_b b2)), .val (.int (own_b two)), .val (.long l1), .second, .val (.long l2), .second, .val (.long l3), .second, .val (.ref o), .val (.int (1 : Int32)), .val (.int nn), .val (.long tot), .second, .val (.int (own_b ee)), .val (.int (own_b (ee || b2))), .unset, .unset, .unset, .unset, .unset] [(.int (own_b (ee || b2))), (.int (own_b (ee || b2)))])) _
              refine XS.icmpYes X7.here hx rfl (pc0 := 162) (pc' := 167) rfl (hb hby at_162) rfl (teq rfl).1 (by decide) (by decide) ?_
              exact k
            by_cases hs : (ee || b2) = true
            · rw [hs] at G5
              have G6 : own_Gr Z T7.heap o q1 0 0 (own_b false) 0 := G5
              rw [show (own_b (ee || b2)) = (1 : Int32) from by rw [hs]; rfl]
              refine own_st (B := T7.setTop (mkF m 169 #[.val (.long q0), .second, .val (.long q1), .second, .val (.int fl), .val (.long q3), .second, .val (.long q4), .second, .val (.long q5), .second, .val (.int (own_b b1)), .val (.int (own_b b2)), .val (.int (own_b two)), .val (.long l1), .second, .val (.long l2), .second, .val (.long l3), .second, .val (.ref o), .val (.int (1 : Int32)), .val (.int nn), .val (.long tot), .second, .val (.int (own_b ee)), .val (.int (1 : Int32)), .unset, .unset, .unset, .unset, .unset] [(.int (1 : Int32))])) (fun t k => ?_) ?_
              · show Steps p.tables e below (T7.setTop (mkF m 167 #[.val (.long q0), .second, .val (.long q1), .second, .val (.int fl), .val (.long q3), .second, .val (.long q4), .second, .val (.long q5), .second, .val (.int (own_b b1)), .val (.int (own_b b2)), .val (.int (own_b two)), .val (.long l1), .second, .val (.long l2), .second, .val (.long l3), .second, .val (.ref o), .val (.int (1 : Int32)), .val (.int nn), .val (.long tot), .second, .val (.int (own_b ee)), .val (.int (1 : Int32)), .unset, .unset, .unset, .unset, .unset] [])) _
                refine XS.iload X7.here hx rfl (hb hby at_167) rfl ?_
                exact k
              refine own_st (B := T7.setTop (mkF m 181 #[.val (.long q0), .second, .val (.long q1), .second, .val (.int fl), .val (.long q3), .second, .val (.long q4), .second, .val (.long q5), .second, .val (.int (own_b b1)), .val (.int (own_b b2)), .val (.int (own_b two)), .val (.long l1), .second, .val (.long l2), .second, .val (.long l3), .second, .val (.ref o), .val (.int (1 : Int32)), .val (.int nn), .val (.long tot), .second, .val (.int (own_b ee)), .val (.int (1 : Int32)), .val (.long q1), .second, .unset, .unset, .unset] [(.int (1 : Int32))])) (fun t k => ?_) ?_
              · show Steps p.tables e below (T7.setTop (mkF m 169 #[.val (.long q0), .second, .val (.long q1), .second, .val (.int fl), .val (.long q3), .second, .val (.long q4), .second, .val (.long q5), .second, .val (.int (own_b b1)), .val (.int (own_b b2)), .val (.int (own_b two)), .val (.long l1), .second, .val (.long l2), .second, .val (.long l3), .second, .val (.ref o), .val (.int (1 : Int32)), .val (.int nn), .val (.long tot), .second, .val (.int (own_b ee)), .val (.int (1 : Int32)), .unset, .unset, .unset, .unset, .unset] [(.int (1 : Int32))])) _
                refine XS.ifNo X7.here hx rfl (hb hby at_169) rfl ((if0 _ _).trans (feq (by decide)).1) ?_
                show Steps p.tables e below (T7.setTop (mkF m 172 #[.val (.long q0), .second, .val (.long q1), .second, .val (.int fl), .val (.long q3), .second, .val (.long q4), .second, .val (.long q5), .second, .val (.int (own_b b1)), .val (.int (own_b b2)), .val (.int (own_b two)), .val (.long l1), .second, .val (.long l2), .second, .val (.long l3), .second, .val (.ref o), .val (.int (1 : Int32)), .val (.int nn), .val (.long tot), .second, .val (.int (own_b ee)), .val (.int (1 : Int32)), .unset, .unset, .unset, .unset, .unset] [])) _
                refine XS.lloadN X7.here hx rfl (hb hby at_172) rfl ?_
                show Steps p.tables e below (T7.setTop (mkF m 173 #[.val (.long q0), .second, .val (.long q1), .second, .val (.int fl), .val (.long q3), .second, .val (.long q4), .second, .val (.long q5), .second, .val (.int (own_b b1)), .val (.int (own_b b2)), .val (.int (own_b two)), .val (.long l1), .second, .val (.long l2), .second, .val (.long l3), .second, .val (.ref o), .val (.int (1 : Int32)), .val (.int nn), .val (.long tot), .second, .val (.int (own_b ee)), .val (.int (1 : Int32)), .unset, .unset, .unset, .unset, .unset] [(.long q1)])) _
                refine XS.goto X7.here hx rfl (pc0 := 173) (pc' := 177) rfl (hb hby at_173) (by decide) (by decide) ?_
                show Steps p.tables e below (T7.setTop (mkF m 177 #[.val (.long q0), .second, .val (.long q1), .second, .val (.int fl), .val (.long q3), .second, .val (.long q4), .second, .val (.long q5), .second, .val (.int (own_b b1)), .val (.int (own_b b2)), .val (.int (own_b two)), .val (.long l1), .second, .val (.long l2), .second, .val (.long l3), .second, .val (.ref o), .val (.int (1 : Int32)), .val (.int nn), .val (.long tot), .second, .val (.int (own_b ee)), .val (.int (1 : Int32)), .unset, .unset, .unset, .unset, .unset] [(.long q1)])) _
                refine XS.lstore X7.here hx rfl (hb hby at_177) rfl (l' := #[.val (.long q0), .second, .val (.long q1), .second, .val (.int fl), .val (.long q3), .second, .val (.long q4), .second, .val (.long q5), .second, .val (.int (own_b b1)), .val (.int (own_b b2)), .val (.int (own_b two)), .val (.long l1), .second, .val (.long l2), .second, .val (.long l3), .second, .val (.ref o), .val (.int (1 : Int32)), .val (.int nn), .val (.long tot), .second, .val (.int (own_b ee)), .val (.int (1 : Int32)), .val (.long q1), .second, .unset, .unset, .unset]) rfl ?_
                show Steps p.tables e below (T7.setTop (mkF m 179 #[.val (.long q0), .second, .val (.long q1), .second, .val (.int fl), .val (.long q3), .second, .val (.long q4), .second, .val (.long q5), .second, .val (.int (own_b b1)), .val (.int (own_b b2)), .val (.int (own_b two)), .val (.long l1), .second, .val (.long l2), .second, .val (.long l3), .second, .val (.ref o), .val (.int (1 : Int32)), .val (.int nn), .val (.long tot), .second, .val (.int (own_b ee)), .val (.int (1 : Int32)), .val (.long q1), .second, .unset, .unset, .unset] [])) _
                refine XS.iload X7.here hx rfl (hb hby at_179) rfl ?_
                exact k
              refine own_st (B := T7.setTop (mkF m 194 #[.val (.long q0), .second, .val (.long q1), .second, .val (.int fl), .val (.long q3), .second, .val (.long q4), .second, .val (.long q5), .second, .val (.int (own_b b1)), .val (.int (own_b b2)), .val (.int (own_b two)), .val (.long l1), .second, .val (.long l2), .second, .val (.long l3), .second, .val (.ref o), .val (.int (1 : Int32)), .val (.int nn), .val (.long tot), .second, .val (.int (own_b ee)), .val (.int (1 : Int32)), .val (.long q1), .second, .val (.int (0 : Int32)), .unset, .unset] [(.ref o)])) (fun t k => ?_) ?_
              · show Steps p.tables e below (T7.setTop (mkF m 181 #[.val (.long q0), .second, .val (.long q1), .second, .val (.int fl), .val (.long q3), .second, .val (.long q4), .second, .val (.long q5), .second, .val (.int (own_b b1)), .val (.int (own_b b2)), .val (.int (own_b two)), .val (.long l1), .second, .val (.long l2), .second, .val (.long l3), .second, .val (.ref o), .val (.int (1 : Int32)), .val (.int nn), .val (.long tot), .second, .val (.int (own_b ee)), .val (.int (1 : Int32)), .val (.long q1), .second, .unset, .unset, .unset] [(.int (1 : Int32))])) _
                refine XS.ifNo X7.here hx rfl (hb hby at_181) rfl ((if0 _ _).trans (feq (by decide)).1) ?_
                show Steps p.tables e below (T7.setTop (mkF m 184 #[.val (.long q0), .second, .val (.long q1), .second, .val (.int fl), .val (.long q3), .second, .val (.long q4), .second, .val (.long q5), .second, .val (.int (own_b b1)), .val (.int (own_b b2)), .val (.int (own_b two)), .val (.long l1), .second, .val (.long l2), .second, .val (.long l3), .second, .val (.ref o), .val (.int (1 : Int32)), .val (.int nn), .val (.long tot), .second, .val (.int (own_b ee)), .val (.int (1 : Int32)), .val (.long q1), .second, .unset, .unset, .unset] [])) _
                refine XS.iconst X7.here hx rfl (hb hby at_184) ?_
                show Steps p.tables e below (T7.setTop (mkF m 185 #[.val (.long q0), .second, .val (.long q1), .second, .val (.int fl), .val (.long q3), .second, .val (.long q4), .second, .val (.long q5), .second, .val (.int (own_b b1)), .val (.int (own_b b2)), .val (.int (own_b two)), .val (.long l1), .second, .val (.long l2), .second, .val (.long l3), .second, .val (.ref o), .val (.int (1 : Int32)), .val (.int nn), .val (.long tot), .second, .val (.int (own_b ee)), .val (.int (1 : Int32)), .val (.long q1), .second, .unset, .unset, .unset] [(.int (0 : Int32))])) _
                refine XS.goto X7.here hx rfl (pc0 := 185) (pc' := 190) rfl (hb hby at_185) (by decide) (by decide) ?_
                show Steps p.tables e below (T7.setTop (mkF m 190 #[.val (.long q0), .second, .val (.long q1), .second, .val (.int fl), .val (.long q3), .second, .val (.long q4), .second, .val (.long q5), .second, .val (.int (own_b b1)), .val (.int (own_b b2)), .val (.int (own_b two)), .val (.long l1), .second, .val (.long l2), .second, .val (.long l3), .second, .val (.ref o), .val (.int (1 : Int32)), .val (.int nn), .val (.long tot), .second, .val (.int (own_b ee)), .val (.int (1 : Int32)), .val (.long q1), .second, .unset, .unset, .unset] [(.int (0 : Int32))])) _
                refine XS.istore X7.here hx rfl (hb hby at_190) rfl (l' := #[.val (.long q0), .second, .val (.long q1), .second, .val (.int fl), .val (.long q3), .second, .val (.long q4), .second, .val (.long q5), .second, .val (.int (own_b b1)), .val (.int (own_b b2)), .val (.int (own_b two)), .val (.long l1), .second, .val (.long l2), .second, .val (.long l3), .second, .val (.ref o), .val (.int (1 : Int32)), .val (.int nn), .val (.long tot), .second, .val (.int (own_b ee)), .val (.int (1 : Int32)), .val (.long q1), .second, .val (.int (0 : Int32)), .unset, .unset]) rfl ?_
                show Steps p.tables e below (T7.setTop (mkF m 192 #[.val (.long q0), .second, .val (.long q1), .second, .val (.int fl), .val (.long q3), .second, .val (.long q4), .second, .val (.long q5), .second, .val (.int (own_b b1)), .val (.int (own_b b2)), .val (.int (own_b two)), .val (.long l1), .second, .val (.long l2), .second, .val (.long l3), .second, .val (.ref o), .val (.int (1 : Int32)), .val (.int nn), .val (.long tot), .second, .val (.int (own_b ee)), .val (.int (1 : Int32)), .val (.long q1), .second, .val (.int (0 : Int32)), .unset, .unset] [])) _
                refine XS.aload X7.here hx rfl (hb hby at_192) rfl rfl ?_
                exact k
              obtain ⟨cq8, kq8, q8a, q8b, q8c⟩ := isOf hZ rfl G6.1
              obtain ⟨_, _, ⟨T8, L8, k8, n8⟩, -, X8, ⟨Lc8, hQ8, l8, y8, z8⟩, st8⟩ := X7.virtualBack hx (y := (⟨"com/example/cairn/cairn/Groups", "group", "()J"⟩ : MethodName)) (z := (⟨"com/example/cairn/cairn/Groups", "group", "()J"⟩ : MethodName)) hown (mvT hZ (hw _ (List.mem_of_getElem? (i := 40) rfl))) (mvT hZ (hw _ (List.mem_of_getElem? (i := 41) rfl))) (notFace_of_selects (args := #[]) (mvT hZ (hw _ (List.mem_of_getElem? (i := 43) rfl)))) (mvT hZ (hw _ (List.mem_of_getElem? (i := 43) rfl))) (mvT hZ (hw _ (List.mem_of_getElem? (i := 42) rfl))) (by decide) (backOf (W := 0) (rm7 l Z a0 hw [] o q1 0 0 false 0 T7.heap n0 Zf G6) hZ (hw _ (List.mem_of_getElem? (i := 44) rfl)) (hw _ (List.mem_of_getElem? (i := 3) rfl)) (by decide) (by decide)) q8a q8c (g := (mkF m 194 #[.val (.long q0), .second, .val (.long q1), .second, .val (.int fl), .val (.long q3), .second, .val (.long q4), .second, .val (.long q5), .second, .val (.int (own_b b1)), .val (.int (own_b b2)), .val (.int (own_b two)), .val (.long l1), .second, .val (.long l2), .second, .val (.long l3), .second, .val (.ref o), .val (.int (1 : Int32)), .val (.int nn), .val (.long tot), .second, .val (.int (own_b ee)), .val (.int (1 : Int32)), .val (.long q1), .second, .val (.int (0 : Int32)), .unset, .unset] [(.ref o)])) rfl (by rw [hml]; rfl) (Steps.refl _) (argsL := []) (rest := []) (lenOf pd_5 rfl) rfl (by show 2 * 0 + _ ≤ _; exact Nat.le_of_eq rfl) (hb hby at_194) (fun _ _ => ⟨rfl, rfl, (by decide : 1 + 0 ≤ _), (by decide : 5 + 0 ≤ _)⟩)
              dsimp only [Pt.U, Pt.locs, Pt.cells, Pt.slots] at X8 l8 y8 z8 st8 hQ8
              subst l8 y8 z8
              obtain ⟨rfl, N8q, e8⟩ := hQ8
              have N8 := Fr.app N7 N8q
              refine own_st (B := T8.setTop (mkF m 197 #[.val (.long q0), .second, .val (.long q1), .second, .val (.int fl), .val (.long q3), .second, .val (.long q4), .second, .val (.long q5), .second, .val (.int (own_b b1)), .val (.int (own_b b2)), .val (.int (own_b two)), .val (.long l1), .second, .val (.long l2), .second, .val (.long l3), .second, .val (.ref o), .val (.int (1 : Int32)), .val (.int nn), .val (.long tot), .second, .val (.int (own_b ee)), .val (.int (1 : Int32)), .val (.long q1), .second, .val (.int (0 : Int32)), .unset, .unset] [(.long q1)])) (fun t k => st8.trans k) ?_
              refine own_st (B := T8.setTop (mkF m 200 #[.val (.long q0), .second, .val (.long q1), .second, .val (.int fl), .val (.long q3), .second, .val (.long q4), .second, .val (.long q5), .second, .val (.int (own_b b1)), .val (.int (own_b b2)), .val (.int (own_b two)), .val (.long l1), .second, .val (.long l2), .second, .val (.long l3), .second, .val (.ref o), .val (.int (1 : Int32)), .val (.int nn), .val (.long tot), .second, .val (.int (own_b ee)), .val (.int (1 : Int32)), .val (.long q1), .second, .val (.int (0 : Int32)), .unset, .unset] [(.int (lcmpW q1 q1))])) (fun t k => ?_) ?_
              · show Steps p.tables e below (T8.setTop (mkF m 197 #[.val (.long q0), .second, .val (.long q1), .second, .val (.int fl), .val (.long q3), .second, .val (.long q4), .second, .val (.long q5), .second, .val (.int (own_b b1)), .val (.int (own_b b2)), .val (.int (own_b two)), .val (.long l1), .second, .val (.long l2), .second, .val (.long l3), .second, .val (.ref o), .val (.int (1 : Int32)), .val (.int nn), .val (.long tot), .second, .val (.int (own_b ee)), .val (.int (1 : Int32)), .val (.long q1), .second, .val (.int (0 : Int32)), .unset, .unset] [(.long q1)])) _
                refine XS.lload X8.here hx rfl (hb hby at_197) rfl ?_
                show Steps p.tables e below (T8.setTop (mkF m 199 #[.val (.long q0), .second, .val (.long q1), .second, .val (.int fl), .val (.long q3), .second, .val (.long q4), .second, .val (.long q5), .second, .val (.int (own_b b1)), .val (.int (own_b b2)), .val (.int (own_b two)), .val (.long l1), .second, .val (.long l2), .second, .val (.long l3), .second, .val (.ref o), .val (.int (1 : Int32)), .val (.int nn), .val (.long tot), .second, .val (.int (own_b ee)), .val (.int (1 : Int32)), .val (.long q1), .second, .val (.int (0 : Int32)), .unset, .unset] [(.long q1), (.long q1)])) _
                refine XS.lcmp X8.here hx rfl (hb hby at_199) rfl ?_
                exact k
              refine own_st (B := T8.setTop (mkF m 205 #[.val (.long q0), .second, .val (.long q1), .second, .val (.int fl), .val (.long q3), .second, .val (.long q4), .second, .val (.long q5), .second, .val (.int (own_b b1)), .val (.int (own_b b2)), .val (.int (own_b two)), .val (.long l1), .second, .val (.long l2), .second, .val (.long l3), .second, .val (.ref o), .val (.int (1 : Int32)), .val (.int nn), .val (.long tot), .second, .val (.int (own_b ee)), .val (.int (1 : Int32)), .val (.long q1), .second, .val (.int (0 : Int32)), .unset, .unset] [(.ref o)])) (fun t k => ?_) ?_
              · show Steps p.tables e below (T8.setTop (mkF m 200 #[.val (.long q0), .second, .val (.long q1), .second, .val (.int fl), .val (.long q3), .second, .val (.long q4), .second, .val (.long q5), .second, .val (.int (own_b b1)), .val (.int (own_b b2)), .val (.int (own_b two)), .val (.long l1), .second, .val (.long l2), .second, .val (.long l3), .second, .val (.ref o), .val (.int (1 : Int32)), .val (.int nn), .val (.long tot), .second, .val (.int (own_b ee)), .val (.int (1 : Int32)), .val (.long q1), .second, .val (.int (0 : Int32)), .unset, .unset] [(.int (lcmpW q1 q1))])) _
                refine XS.ifNo X8.here hx rfl (hb hby at_200) rfl ((if0 _ _).trans (teq ((lw_eq _ _).mpr rfl)).2) ?_
                show Steps p.tables e below (T8.setTop (mkF m 203 #[.val (.long q0), .second, .val (.long q1), .second, .val (.int fl), .val (.long q3), .second, .val (.long q4), .second, .val (.long q5), .second, .val (.int (own_b b1)), .val (.int (own_b b2)), .val (.int (own_b two)), .val (.long l1), .second, .val (.long l2), .second, .val (.long l3), .second, .val (.ref o), .val (.int (1 : Int32)), .val (.int nn), .val (.long tot), .second, .val (.int (own_b ee)), .val (.int (1 : Int32)), .val (.long q1), .second, .val (.int (0 : Int32)), .unset, .unset] [])) _
                refine XS.aload X8.here hx rfl (hb hby at_203) rfl rfl ?_
                exact k
              obtain ⟨cq9, kq9, q9a, q9b, q9c⟩ := isOf hZ e8 G6.1
              obtain ⟨_, _, ⟨T9, L9, k9, n9⟩, -, X9, ⟨Lc9, hQ9, l9, y9, z9⟩, st9⟩ := X8.virtualBack hx (y := (⟨"com/example/cairn/cairn/Groups", "place", "()I"⟩ : MethodName)) (z := (⟨"com/example/cairn/cairn/Groups", "place", "()I"⟩ : MethodName)) hown (mvT hZ (hw _ (List.mem_of_getElem? (i := 45) rfl))) (mvT hZ (hw _ (List.mem_of_getElem? (i := 46) rfl))) (notFace_of_selects (args := #[]) (mvT hZ (hw _ (List.mem_of_getElem? (i := 48) rfl)))) (mvT hZ (hw _ (List.mem_of_getElem? (i := 48) rfl))) (mvT hZ (hw _ (List.mem_of_getElem? (i := 47) rfl))) (by decide) (backOf (W := 0) (rm8 l Z a0 hw [] o q1 0 0 false 0 T7.heap n0 Zf G6) hZ (hw _ (List.mem_of_getElem? (i := 49) rfl)) (hw _ (List.mem_of_getElem? (i := 3) rfl)) (by decide) (by decide)) q9a q9c (g := (mkF m 205 #[.val (.long q0), .second, .val (.long q1), .second, .val (.int fl), .val (.long q3), .second, .val (.long q4), .second, .val (.long q5), .second, .val (.int (own_b b1)), .val (.int (own_b b2)), .val (.int (own_b two)), .val (.long l1), .second, .val (.long l2), .second, .val (.long l3), .second, .val (.ref o), .val (.int (1 : Int32)), .val (.int nn), .val (.long tot), .second, .val (.int (own_b ee)), .val (.int (1 : Int32)), .val (.long q1), .second, .val (.int (0 : Int32)), .unset, .unset] [(.ref o)])) rfl (by rw [hml]; rfl) (Steps.refl _) (argsL := []) (rest := []) (lenOf pd_6 rfl) rfl (by show 2 * 0 + _ ≤ _; exact Nat.le_of_eq rfl) (hb hby at_205) (fun _ _ => ⟨rfl, e8, (by decide : 1 + 0 ≤ _), (by decide : 5 + 0 ≤ _)⟩)
              dsimp only [Pt.U, Pt.locs, Pt.cells, Pt.slots] at X9 l9 y9 z9 st9 hQ9
              subst l9 y9 z9
              obtain ⟨rfl, N9q, e9⟩ := hQ9
              have N9 := Fr.app N8 N9q
              refine own_st (B := T9.setTop (mkF m 208 #[.val (.long q0), .second, .val (.long q1), .second, .val (.int fl), .val (.long q3), .second, .val (.long q4), .second, .val (.long q5), .second, .val (.int (own_b b1)), .val (.int (own_b b2)), .val (.int (own_b two)), .val (.long l1), .second, .val (.long l2), .second, .val (.long l3), .second, .val (.ref o), .val (.int (1 : Int32)), .val (.int nn), .val (.long tot), .second, .val (.int (own_b ee)), .val (.int (1 : Int32)), .val (.long q1), .second, .val (.int (0 : Int32)), .unset, .unset] [(.int (0 : Int32))])) (fun t k => st9.trans k) ?_
              refine own_st (B := T9.setTop (mkF m 210 #[.val (.long q0), .second, .val (.long q1), .second, .val (.int fl), .val (.long q3), .second, .val (.long q4), .second, .val (.long q5), .second, .val (.int (own_b b1)), .val (.int (own_b b2)), .val (.int (own_b two)), .val (.long l1), .second, .val (.long l2), .second, .val (.long l3), .second, .val (.ref o), .val (.int (1 : Int32)), .val (.int nn), .val (.long tot), .second, .val (.int (own_b ee)), .val (.int (1 : Int32)), .val (.long q1), .second, .val (.int (0 : Int32)), .unset, .unset] [(.int (0 : Int32)), (.int (0 : Int32))])) (fun t k => ?_) ?_
              · show Steps p.tables e below (T9.setTop (mkF m 208 #[.val (.long q0), .second, .val (.long q1), .second, .val (.int fl), .val (.long q3), .second, .val (.long q4), .second, .val (.long q5), .second, .val (.int (own_b b1)), .val (.int (own_b b2)), .val (.int (own_b two)), .val (.long l1), .second, .val (.long l2), .second, .val (.long l3), .second, .val (.ref o), .val (.int (1 : Int32)), .val (.int nn), .val (.long tot), .second, .val (.int (own_b ee)), .val (.int (1 : Int32)), .val (.long q1), .second, .val (.int (0 : Int32)), .unset, .unset] [(.int (0 : Int32))])) _
                refine XS.iload X9.here hx rfl (hb hby at_208) rfl ?_
                exact k
              refine own_st (B := T9.setTop (mkF m 215 #[.val (.long q0), .second, .val (.long q1), .second, .val (.int fl), .val (.long q3), .second, .val (.long q4), .second, .val (.long q5), .second, .val (.int (own_b b1)), .val (.int (own_b b2)), .val (.int (own_b two)), .val (.long l1), .second, .val (.long l2), .second, .val (.long l3), .second, .val (.ref o), .val (.int (1 : Int32)), .val (.int nn), .val (.long tot), .second, .val (.int (own_b ee)), .val (.int (1 : Int32)), .val (.long q1), .second, .val (.int (0 : Int32)), .unset, .unset] [(.ref o)])) (fun t k => ?_) ?_
              · show Steps p.tables e below (T9.setTop (mkF m 210 #[.val (.long q0), .second, .val (.long q1), .second, .val (.int fl), .val (.long q3), .second, .val (.long q4), .second, .val (.long q5), .second, .val (.int (own_b b1)), .val (.int (own_b b2)), .val (.int (own_b two)), .val (.long l1), .second, .val (.long l2), .second, .val (.long l3), .second, .val (.ref o), .val (.int (1 : Int32)), .val (.int nn), .val (.long tot), .second, .val (.int (own_b ee)), .val (.int (1 : Int32)), .val (.long q1), .second, .val (.int (0 : Int32)), .unset, .unset] [(.int (0 : Int32)), (.int (0 : Int32))])) _
                refine XS.icmpNo X9.here hx rfl (hb hby at_210) rfl (teq rfl).2 ?_
                show Steps p.tables e below (T9.setTop (mkF m 213 #[.val (.long q0), .second, .val (.long q1), .second, .val (.int fl), .val (.long q3), .second, .val (.long q4), .second, .val (.long q5), .second, .val (.int (own_b b1)), .val (.int (own_b b2)), .val (.int (own_b two)), .val (.long l1), .second, .val (.long l2), .second, .val (.long l3), .second, .val (.ref o), .val (.int (1 : Int32)), .val (.int nn), .val (.long tot), .second, .val (.int (own_b ee)), .val (.int (1 : Int32)), .val (.long q1), .second, .val (.int (0 : Int32)), .unset, .unset] [])) _
                refine XS.aload X9.here hx rfl (hb hby at_213) rfl rfl ?_
                exact k
              obtain ⟨cq10, kq10, q10a, q10b, q10c⟩ := isOf hZ e9 G6.1
              obtain ⟨_, _, ⟨T10, L10, k10, n10⟩, -, X10, ⟨Lc10, hQ10, l10, y10, z10⟩, st10⟩ := X9.virtualBack hx (y := (⟨"com/example/cairn/cairn/Groups", "ended", "()Z"⟩ : MethodName)) (z := (⟨"com/example/cairn/cairn/Groups", "ended", "()Z"⟩ : MethodName)) hown (mvT hZ (hw _ (List.mem_of_getElem? (i := 35) rfl))) (mvT hZ (hw _ (List.mem_of_getElem? (i := 36) rfl))) (notFace_of_selects (args := #[]) (mvT hZ (hw _ (List.mem_of_getElem? (i := 38) rfl)))) (mvT hZ (hw _ (List.mem_of_getElem? (i := 38) rfl))) (mvT hZ (hw _ (List.mem_of_getElem? (i := 37) rfl))) (by decide) (backOf (W := 0) (rm6 l Z a0 hw [] o q1 0 0 false 0 T7.heap n0 Zf G6) hZ (hw _ (List.mem_of_getElem? (i := 39) rfl)) (hw _ (List.mem_of_getElem? (i := 3) rfl)) (by decide) (by decide)) q10a q10c (g := (mkF m 215 #[.val (.long q0), .second, .val (.long q1), .second, .val (.int fl), .val (.long q3), .second, .val (.long q4), .second, .val (.long q5), .second, .val (.int (own_b b1)), .val (.int (own_b b2)), .val (.int (own_b two)), .val (.long l1), .second, .val (.long l2), .second, .val (.long l3), .second, .val (.ref o), .val (.int (1 : Int32)), .val (.int nn), .val (.long tot), .second, .val (.int (own_b ee)), .val (.int (1 : Int32)), .val (.long q1), .second, .val (.int (0 : Int32)), .unset, .unset] [(.ref o)])) rfl (by rw [hml]; rfl) (Steps.refl _) (argsL := []) (rest := []) (lenOf pd_4 rfl) rfl (by show 2 * 0 + _ ≤ _; exact Nat.le_of_eq rfl) (hb hby at_215) (fun _ _ => ⟨rfl, e9, (by decide : 1 + 0 ≤ _), (by decide : 5 + 0 ≤ _)⟩)
              dsimp only [Pt.U, Pt.locs, Pt.cells, Pt.slots] at X10 l10 y10 z10 st10 hQ10
              subst l10 y10 z10
              obtain ⟨rfl, N10q, e10⟩ := hQ10
              have N10 := Fr.app N9 N10q
              refine own_st (B := T10.setTop (mkF m 218 #[.val (.long q0), .second, .val (.long q1), .second, .val (.int fl), .val (.long q3), .second, .val (.long q4), .second, .val (.long q5), .second, .val (.int (own_b b1)), .val (.int (own_b b2)), .val (.int (own_b two)), .val (.long l1), .second, .val (.long l2), .second, .val (.long l3), .second, .val (.ref o), .val (.int (1 : Int32)), .val (.int nn), .val (.long tot), .second, .val (.int (own_b ee)), .val (.int (1 : Int32)), .val (.long q1), .second, .val (.int (0 : Int32)), .unset, .unset] [(.int (own_b false))])) (fun t k => st10.trans k) ?_
              refine own_st (B := T10.setTop (mkF m 227 #[.val (.long q0), .second, .val (.long q1), .second, .val (.int fl), .val (.long q3), .second, .val (.long q4), .second, .val (.long q5), .second, .val (.int (own_b b1)), .val (.int (own_b b2)), .val (.int (own_b two)), .val (.long l1), .second, .val (.long l2), .second, .val (.long l3), .second, .val (.ref o), .val (.int (1 : Int32)), .val (.int nn), .val (.long tot), .second, .val (.int (own_b ee)), .val (.int (1 : Int32)), .val (.long q1), .second, .val (.int (0 : Int32)), .unset, .unset] [(.long l3), (.ref o)])) (fun t k => ?_) ?_
              · show Steps p.tables e below (T10.setTop (mkF m 218 #[.val (.long q0), .second, .val (.long q1), .second, .val (.int fl), .val (.long q3), .second, .val (.long q4), .second, .val (.long q5), .second, .val (.int (own_b b1)), .val (.int (own_b b2)), .val (.int (own_b two)), .val (.long l1), .second, .val (.long l2), .second, .val (.long l3), .second, .val (.ref o), .val (.int (1 : Int32)), .val (.int nn), .val (.long tot), .second, .val (.int (own_b ee)), .val (.int (1 : Int32)), .val (.long q1), .second, .val (.int (0 : Int32)), .unset, .unset] [(.int (own_b false))])) _
                refine XS.ifYes X10.here hx rfl (pc0 := 218) (pc' := 223) rfl (hb hby at_218) rfl ((if0 _ _).trans (teq rfl).1) (by decide) (by decide) ?_
                show Steps p.tables e below (T10.setTop (mkF m 223 #[.val (.long q0), .second, .val (.long q1), .second, .val (.int fl), .val (.long q3), .second, .val (.long q4), .second, .val (.long q5), .second, .val (.int (own_b b1)), .val (.int (own_b b2)), .val (.int (own_b two)), .val (.long l1), .second, .val (.long l2), .second, .val (.long l3), .second, .val (.ref o), .val (.int (1 : Int32)), .val (.int nn), .val (.long tot), .second, .val (.int (own_b ee)), .val (.int (1 : Int32)), .val (.long q1), .second, .val (.int (0 : Int32)), .unset, .unset] [])) _
                refine XS.aload X10.here hx rfl (hb hby at_223) rfl rfl ?_
                show Steps p.tables e below (T10.setTop (mkF m 225 #[.val (.long q0), .second, .val (.long q1), .second, .val (.int fl), .val (.long q3), .second, .val (.long q4), .second, .val (.long q5), .second, .val (.int (own_b b1)), .val (.int (own_b b2)), .val (.int (own_b two)), .val (.long l1), .second, .val (.long l2), .second, .val (.long l3), .second, .val (.ref o), .val (.int (1 : Int32)), .val (.int nn), .val (.long tot), .second, .val (.int (own_b ee)), .val (.int (1 : Int32)), .val (.long q1), .second, .val (.int (0 : Int32)), .unset, .unset] [(.ref o)])) _
                refine XS.lload X10.here hx rfl (hb hby at_225) rfl ?_
                exact k
              obtain ⟨cq11, kq11, q11a, q11b, q11c⟩ := isOf hZ e10 G6.1
              obtain ⟨_, _, ⟨T11, L11, k11, n11⟩, -, X11, ⟨Lc11, hQ11, l11, y11, z11⟩, st11⟩ := X10.virtualBack hx (y := (⟨"com/example/cairn/cairn/Groups", "end", "(J)V"⟩ : MethodName)) (z := (⟨"com/example/cairn/cairn/Groups", "end", "(J)V"⟩ : MethodName)) hown (mvT hZ (hw _ (List.mem_of_getElem? (i := 25) rfl))) (mvT hZ (hw _ (List.mem_of_getElem? (i := 26) rfl))) (notFace_of_selects (args := #[]) (mvT hZ (hw _ (List.mem_of_getElem? (i := 28) rfl)))) (mvT hZ (hw _ (List.mem_of_getElem? (i := 28) rfl))) (mvT hZ (hw _ (List.mem_of_getElem? (i := 27) rfl))) (by decide) (backOf (W := 0) (rm4 l Z a0 hw [] o l3 q1 0 0 false 0 T7.heap n0 Zf G6 go) hZ (hw _ (List.mem_of_getElem? (i := 29) rfl)) (hw _ (List.mem_of_getElem? (i := 3) rfl)) (by decide) (by decide)) q11a q11c (g := (mkF m 227 #[.val (.long q0), .second, .val (.long q1), .second, .val (.int fl), .val (.long q3), .second, .val (.long q4), .second, .val (.long q5), .second, .val (.int (own_b b1)), .val (.int (own_b b2)), .val (.int (own_b two)), .val (.long l1), .second, .val (.long l2), .second, .val (.long l3), .second, .val (.ref o), .val (.int (1 : Int32)), .val (.int nn), .val (.long tot), .second, .val (.int (own_b ee)), .val (.int (1 : Int32)), .val (.long q1), .second, .val (.int (0 : Int32)), .unset, .unset] [(.long l3), (.ref o)])) rfl (by rw [hml]; rfl) (Steps.refl _) (argsL := [(.long l3)]) (rest := []) (lenOf pd_3 rfl) rfl (by show 2 * 0 + _ ≤ _; exact Nat.le_of_eq rfl) (hb hby at_227) (fun _ _ => ⟨rfl, e10, (by decide : 1 + 0 ≤ _), (by decide : 5 + 0 ≤ _)⟩)
              dsimp only [Pt.U, Pt.locs, Pt.cells, Pt.slots] at X11 l11 y11 z11 st11 hQ11
              subst l11 y11 z11
              obtain ⟨rfl, N11q, K7, G7⟩ := hQ11
              have N11 := Fr.app N10 N11q
              refine own_st (B := T11.setTop (mkF m 230 #[.val (.long q0), .second, .val (.long q1), .second, .val (.int fl), .val (.long q3), .second, .val (.long q4), .second, .val (.long q5), .second, .val (.int (own_b b1)), .val (.int (own_b b2)), .val (.int (own_b two)), .val (.long l1), .second, .val (.long l2), .second, .val (.long l3), .second, .val (.ref o), .val (.int (1 : Int32)), .val (.int nn), .val (.long tot), .second, .val (.int (own_b ee)), .val (.int (1 : Int32)), .val (.long q1), .second, .val (.int (0 : Int32)), .unset, .unset] [])) (fun t k => st11.trans k) ?_
              have Zg : n0 ≤ T11.heap.size := Nat.le_trans Zf K7.1
              refine own_st (B := T11.setTop (mkF m 232 #[.val (.long q0), .second, .val (.long q1), .second, .val (.int fl), .val (.long q3), .second, .val (.long q4), .second, .val (.long q5), .second, .val (.int (own_b b1)), .val (.int (own_b b2)), .val (.int (own_b two)), .val (.long l1), .second, .val (.long l2), .second, .val (.long l3), .second, .val (.ref o), .val (.int (1 : Int32)), .val (.int nn), .val (.long tot), .second, .val (.int (own_b ee)), .val (.int (1 : Int32)), .val (.long q1), .second, .val (.int (0 : Int32)), .unset, .unset] [(.ref o)])) (fun t k => ?_) ?_
              · show Steps p.tables e below (T11.setTop (mkF m 230 #[.val (.long q0), .second, .val (.long q1), .second, .val (.int fl), .val (.long q3), .second, .val (.long q4), .second, .val (.long q5), .second, .val (.int (own_b b1)), .val (.int (own_b b2)), .val (.int (own_b two)), .val (.long l1), .second, .val (.long l2), .second, .val (.long l3), .second, .val (.ref o), .val (.int (1 : Int32)), .val (.int nn), .val (.long tot), .second, .val (.int (own_b ee)), .val (.int (1 : Int32)), .val (.long q1), .second, .val (.int (0 : Int32)), .unset, .unset] [])) _
                refine XS.aload X11.here hx rfl (hb hby at_230) rfl rfl ?_
                exact k
              obtain ⟨cq12, kq12, q12a, q12b, q12c⟩ := isOf hZ rfl G7.1
              obtain ⟨_, _, ⟨T12, L12, k12, n12⟩, -, X12, ⟨Lc12, hQ12, l12, y12, z12⟩, st12⟩ := X11.virtualBack hx (y := (⟨"com/example/cairn/cairn/Groups", "ended", "()Z"⟩ : MethodName)) (z := (⟨"com/example/cairn/cairn/Groups", "ended", "()Z"⟩ : MethodName)) hown (mvT hZ (hw _ (List.mem_of_getElem? (i := 35) rfl))) (mvT hZ (hw _ (List.mem_of_getElem? (i := 36) rfl))) (notFace_of_selects (args := #[]) (mvT hZ (hw _ (List.mem_of_getElem? (i := 38) rfl)))) (mvT hZ (hw _ (List.mem_of_getElem? (i := 38) rfl))) (mvT hZ (hw _ (List.mem_of_getElem? (i := 37) rfl))) (by decide) (backOf (W := 0) (rm6 l Z a0 hw [] o q1 (0 + 1) (0 + l3) (false || own_ends (0 + 1) (0 + l3)) 0 T11.heap n0 Zg G7) hZ (hw _ (List.mem_of_getElem? (i := 39) rfl)) (hw _ (List.mem_of_getElem? (i := 3) rfl)) (by decide) (by decide)) q12a q12c (g := (mkF m 232 #[.val (.long q0), .second, .val (.long q1), .second, .val (.int fl), .val (.long q3), .second, .val (.long q4), .second, .val (.long q5), .second, .val (.int (own_b b1)), .val (.int (own_b b2)), .val (.int (own_b two)), .val (.long l1), .second, .val (.long l2), .second, .val (.long l3), .second, .val (.ref o), .val (.int (1 : Int32)), .val (.int nn), .val (.long tot), .second, .val (.int (own_b ee)), .val (.int (1 : Int32)), .val (.long q1), .second, .val (.int (0 : Int32)), .unset, .unset] [(.ref o)])) rfl (by rw [hml]; rfl) (Steps.refl _) (argsL := []) (rest := []) (lenOf pd_4 rfl) rfl (by show 2 * 0 + _ ≤ _; exact Nat.le_of_eq rfl) (hb hby at_232) (fun _ _ => ⟨rfl, rfl, (by decide : 1 + 0 ≤ _), (by decide : 5 + 0 ≤ _)⟩)
              dsimp only [Pt.U, Pt.locs, Pt.cells, Pt.slots] at X12 l12 y12 z12 st12 hQ12
              subst l12 y12 z12
              obtain ⟨rfl, N12q, e12⟩ := hQ12
              have N12 := Fr.app N11 N12q
              refine own_st (B := T12.setTop (mkF m 235 #[.val (.long q0), .second, .val (.long q1), .second, .val (.int fl), .val (.long q3), .second, .val (.long q4), .second, .val (.long q5), .second, .val (.int (own_b b1)), .val (.int (own_b b2)), .val (.int (own_b two)), .val (.long l1), .second, .val (.long l2), .second, .val (.long l3), .second, .val (.ref o), .val (.int (1 : Int32)), .val (.int nn), .val (.long tot), .second, .val (.int (own_b ee)), .val (.int (1 : Int32)), .val (.long q1), .second, .val (.int (0 : Int32)), .unset, .unset] [(.int (own_b (false || own_ends (0 + 1) (0 + l3))))])) (fun t k => st12.trans k) ?_
              refine own_st (B := T12.setTop (mkF m 239 #[.val (.long q0), .second, .val (.long q1), .second, .val (.int fl), .val (.long q3), .second, .val (.long q4), .second, .val (.long q5), .second, .val (.int (own_b b1)), .val (.int (own_b b2)), .val (.int (own_b two)), .val (.long l1), .second, .val (.long l2), .second, .val (.long l3), .second, .val (.ref o), .val (.int (1 : Int32)), .val (.int nn), .val (.long tot), .second, .val (.int (own_b ee)), .val (.int (1 : Int32)), .val (.long q1), .second, .val (.int (0 : Int32)), .val (.int (own_b (false || own_ends (0 + 1) (0 + l3)))), .unset] [(.int (1 : Int32))])) (fun t k => ?_) ?_
              · show Steps p.tables e below (T12.setTop (mkF m 235 #[.val (.long q0), .second, .val (.long q1), .second, .val (.int fl), .val (.long q3), .second, .val (.long q4), .second, .val (.long q5), .second, .val (.int (own_b b1)), .val (.int (own_b b2)), .val (.int (own_b two)), .val (.long l1), .second, .val (.long l2), .second, .val (.long l3), .second, .val (.ref o), .val (.int (1 : Int32)), .val (.int nn), .val (.long tot), .second, .val (.int (own_b ee)), .val (.int (1 : Int32)), .val (.long q1), .second, .val (.int (0 : Int32)), .unset, .unset] [(.int (own_b (false || own_ends (0 + 1) (0 + l3))))])) _
                refine XS.istore X12.here hx rfl (hb hby at_235) rfl (l' := #[.val (.long q0), .second, .val (.long q1), .second, .val (.int fl), .val (.long q3), .second, .val (.long q4), .second, .val (.long q5), .second, .val (.int (own_b b1)), .val (.int (own_b b2)), .val (.int (own_b two)), .val (.long l1), .second, .val (.long l2), .second, .val (.long l3), .second, .val (.ref o), .val (.int (1 : Int32)), .val (.int nn), .val (.long tot), .second, .val (.int (own_b ee)), .val (.int (1 : Int32)), .val (.long q1), .second, .val (.int (0 : Int32)), .val (.int (own_b (false || own_ends (0 + 1) (0 + l3)))), .unset]) rfl ?_
                show Steps p.tables e below (T12.setTop (mkF m 237 #[.val (.long q0), .second, .val (.long q1), .second, .val (.int fl), .val (.long q3), .second, .val (.long q4), .second, .val (.long q5), .second, .val (.int (own_b b1)), .val (.int (own_b b2)), .val (.int (own_b two)), .val (.long l1), .second, .val (.long l2), .second, .val (.long l3), .second, .val (.ref o), .val (.int (1 : Int32)), .val (.int nn), .val (.long tot), .second, .val (.int (own_b ee)), .val (.int (1 : Int32)), .val (.long q1), .second, .val (.int (0 : Int32)), .val (.int (own_b (false || own_ends (0 + 1) (0 + l3)))), .unset] [])) _
                refine XS.iload X12.here hx rfl (hb hby at_237) rfl ?_
                exact k
              refine own_st (B := T12.setTop (mkF m 245 #[.val (.long q0), .second, .val (.long q1), .second, .val (.int fl), .val (.long q3), .second, .val (.long q4), .second, .val (.long q5), .second, .val (.int (own_b b1)), .val (.int (own_b b2)), .val (.int (own_b two)), .val (.long l1), .second, .val (.long l2), .second, .val (.long l3), .second, .val (.ref o), .val (.int (1 : Int32)), .val (.int nn), .val (.long tot), .second, .val (.int (own_b ee)), .val (.int (1 : Int32)), .val (.long q1), .second, .val (.int (0 : Int32)), .val (.int (own_b (false || own_ends (0 + 1) (0 + l3)))), .unset] [(.long l3), (.int (1 : Int32))])) (fun t k => ?_) ?_
              · show Steps p.tables e below (T12.setTop (mkF m 239 #[.val (.long q0), .second, .val (.long q1), .second, .val (.int fl), .val (.long q3), .second, .val (.long q4), .second, .val (.long q5), .second, .val (.int (own_b b1)), .val (.int (own_b b2)), .val (.int (own_b two)), .val (.long l1), .second, .val (.long l2), .second, .val (.long l3), .second, .val (.ref o), .val (.int (1 : Int32)), .val (.int nn), .val (.long tot), .second, .val (.int (own_b ee)), .val (.int (1 : Int32)), .val (.long q1), .second, .val (.int (0 : Int32)), .val (.int (own_b (false || own_ends (0 + 1) (0 + l3)))), .unset] [(.int (1 : Int32))])) _
                refine XS.ifNo X12.here hx rfl (hb hby at_239) rfl ((if0 _ _).trans (feq (by decide)).1) ?_
                show Steps p.tables e below (T12.setTop (mkF m 242 #[.val (.long q0), .second, .val (.long q1), .second, .val (.int fl), .val (.long q3), .second, .val (.long q4), .second, .val (.long q5), .second, .val (.int (own_b b1)), .val (.int (own_b b2)), .val (.int (own_b two)), .val (.long l1), .second, .val (.long l2), .second, .val (.long l3), .second, .val (.ref o), .val (.int (1 : Int32)), .val (.int nn), .val (.long tot), .second, .val (.int (own_b ee)), .val (.int (1 : Int32)), .val (.long q1), .second, .val (.int (0 : Int32)), .val (.int (own_b (false || own_ends (0 + 1) (0 + l3)))), .unset] [])) _
                refine XS.iconst X12.here hx rfl (hb hby at_242) ?_
                show Steps p.tables e below (T12.setTop (mkF m 243 #[.val (.long q0), .second, .val (.long q1), .second, .val (.int fl), .val (.long q3), .second, .val (.long q4), .second, .val (.long q5), .second, .val (.int (own_b b1)), .val (.int (own_b b2)), .val (.int (own_b two)), .val (.long l1), .second, .val (.long l2), .second, .val (.long l3), .second, .val (.ref o), .val (.int (1 : Int32)), .val (.int nn), .val (.long tot), .second, .val (.int (own_b ee)), .val (.int (1 : Int32)), .val (.long q1), .second, .val (.int (0 : Int32)), .val (.int (own_b (false || own_ends (0 + 1) (0 + l3)))), .unset] [(.int (1 : Int32))])) _
                refine XS.lload X12.here hx rfl (hb hby at_243) rfl ?_
                exact k
              obtain ⟨_, _, ⟨T13, L13, k13, n13⟩, -, X13, ⟨Lc13, hQ13, l13, y13, z13⟩, st13⟩ := Jvm.LawKit.callS X12 hx (y := (⟨"com/example/cairn/cairn/GroupsStartPinLaw", "ends", "(IJ)Z"⟩ : MethodName)) hown (mvT hZ (hw _ (List.mem_of_getElem? (i := 50) rfl))) (mvT hZ (hw _ (List.mem_of_getElem? (i := 51) rfl))) (mvT hZ (hw _ (List.mem_of_getElem? (i := 52) rfl))) (mvT hZ (hw _ (List.mem_of_getElem? (i := 53) rfl))) (by decide) (backOf (W := 0) (rm9 l Z a0 hw [] (1 : Int32) l3 T11.heap n0 Zg) hZ (hw _ (List.mem_of_getElem? (i := 53) rfl)) (hw _ (List.mem_of_getElem? (i := 52) rfl)) (by decide) (by decide)) (g := (mkF m 245 #[.val (.long q0), .second, .val (.long q1), .second, .val (.int fl), .val (.long q3), .second, .val (.long q4), .second, .val (.long q5), .second, .val (.int (own_b b1)), .val (.int (own_b b2)), .val (.int (own_b two)), .val (.long l1), .second, .val (.long l2), .second, .val (.long l3), .second, .val (.ref o), .val (.int (1 : Int32)), .val (.int nn), .val (.long tot), .second, .val (.int (own_b ee)), .val (.int (1 : Int32)), .val (.long q1), .second, .val (.int (0 : Int32)), .val (.int (own_b (false || own_ends (0 + 1) (0 + l3)))), .unset] [(.long l3), (.int (1 : Int32))])) rfl (by rw [hml]; rfl) (argsL := [(.int (1 : Int32)), (.long l3)]) (rest := []) (lenOf pd_0 rfl) rfl (by show 2 * 0 + _ ≤ _; exact Nat.le_of_eq rfl) (hb hby at_245) (fun _ _ => ⟨rfl, e12, (by decide : 1 + 0 ≤ _), (by decide : 5 + 0 ≤ _)⟩)
              dsimp only [Pt.U, Pt.locs, Pt.cells, Pt.slots] at X13 l13 y13 z13 st13 hQ13
              subst l13 y13 z13
              obtain ⟨rfl, N13q, e13⟩ := hQ13
              have N13 := Fr.app N12 N13q
              refine own_st (B := T13.setTop (mkF m 248 #[.val (.long q0), .second, .val (.long q1), .second, .val (.int fl), .val (.long q3), .second, .val (.long q4), .second, .val (.long q5), .second, .val (.int (own_b b1)), .val (.int (own_b b2)), .val (.int (own_b two)), .val (.long l1), .second, .val (.long l2), .second, .val (.long l3), .second, .val (.ref o), .val (.int (1 : Int32)), .val (.int nn), .val (.long tot), .second, .val (.int (own_b ee)), .val (.int (1 : Int32)), .val (.long q1), .second, .val (.int (0 : Int32)), .val (.int (own_b (false || own_ends (0 + 1) (0 + l3)))), .unset] [(.int (own_b (own_ends (1 : Int32) l3)))])) (fun t k => st13 _ k) ?_
              refine own_st (B := T13.setTop (mkF m 269 #[.val (.long q0), .second, .val (.long q1), .second, .val (.int fl), .val (.long q3), .second, .val (.long q4), .second, .val (.long q5), .second, .val (.int (own_b b1)), .val (.int (own_b b2)), .val (.int (own_b two)), .val (.long l1), .second, .val (.long l2), .second, .val (.long l3), .second, .val (.ref o), .val (.int (1 : Int32)), .val (.int nn), .val (.long tot), .second, .val (.int (own_b ee)), .val (.int (1 : Int32)), .val (.long q1), .second, .val (.int (0 : Int32)), .val (.int (own_b (false || own_ends (0 + 1) (0 + l3)))), .val (.int (own_b (own_ends (1 : Int32) l3)))] [(.int (own_b (own_ends (1 : Int32) l3))), (.int (own_b (false || own_ends (0 + 1) (0 + l3))))])) (fun t k => ?_) ?_
              · show Steps p.tables e below (T13.setTop (mkF m 248 #[.val (.long q0), .second, .val (.long q1), .second, .val (.int fl), .val (.long q3), .second, .val (.long q4), .second, .val (.long q5), .second, .val (.int (own_b b1)), .val (.int (own_b b2)), .val (.int (own_b two)), .val (.long l1), .second, .val (.long l2), .second, .val (.long l3), .second, .val (.ref o), .val (.int (1 : Int32)), .val (.int nn), .val (.long tot), .second, .val (.int (own_b ee)), .val (.int (1 : Int32)), .val (.long q1), .second, .val (.int (0 : Int32)), .val (.int (own_b (false || own_ends (0 + 1) (0 + l3)))), .unset] [(.int (own_b (own_ends (1 : Int32) l3)))])) _
                refine XS.goto X13.here hx rfl (pc0 := 248) (pc' := 263) rfl (hb hby at_248) (by decide) (by decide) ?_
                show Steps p.tables e below (T13.setTop (mkF m 263 #[.val (.long q0), .second, .val (.long q1), .second, .val (.int fl), .val (.long q3), .second, .val (.long q4), .second, .val (.long q5), .second, .val (.int (own_b b1)), .val (.int (own_b b2)), .val (.int (own_b two)), .val (.long l1), .second, .val (.long l2), .second, .val (.long l3), .second, .val (.ref o), .val (.int (1 : Int32)), .val (.int nn), .val (.long tot), .second, .val (.int (own_b ee)), .val (.int (1 : Int32)), .val (.long q1), .second, .val (.int (0 : Int32)), .val (.int (own_b (false || own_ends (0 + 1) (0 + l3)))), .unset] [(.int (own_b (own_ends (1 : Int32) l3)))])) _
                refine XS.istore X13.here hx rfl (hb hby at_263) rfl (l' := #[.val (.long q0), .second, .val (.long q1), .second, .val (.int fl), .val (.long q3), .second, .val (.long q4), .second, .val (.long q5), .second, .val (.int (own_b b1)), .val (.int (own_b b2)), .val (.int (own_b two)), .val (.long l1), .second, .val (.long l2), .second, .val (.long l3), .second, .val (.ref o), .val (.int (1 : Int32)), .val (.int nn), .val (.long tot), .second, .val (.int (own_b ee)), .val (.int (1 : Int32)), .val (.long q1), .second, .val (.int (0 : Int32)), .val (.int (own_b (false || own_ends (0 + 1) (0 + l3)))), .val (.int (own_b (own_ends (1 : Int32) l3)))]) rfl ?_
                show Steps p.tables e below (T13.setTop (mkF m 265 #[.val (.long q0), .second, .val (.long q1), .second, .val (.int fl), .val (.long q3), .second, .val (.long q4), .second, .val (.long q5), .second, .val (.int (own_b b1)), .val (.int (own_b b2)), .val (.int (own_b two)), .val (.long l1), .second, .val (.long l2), .second, .val (.long l3), .second, .val (.ref o), .val (.int (1 : Int32)), .val (.int nn), .val (.long tot), .second, .val (.int (own_b ee)), .val (.int (1 : Int32)), .val (.long q1), .second, .val (.int (0 : Int32)), .val (.int (own_b (false || own_ends (0 + 1) (0 + l3)))), .val (.int (own_b (own_ends (1 : Int32) l3)))] [])) _
                refine XS.iload X13.here hx rfl (hb hby at_265) rfl ?_
                show Steps p.tables e below (T13.setTop (mkF m 267 #[.val (.long q0), .second, .val (.long q1), .second, .val (.int fl), .val (.long q3), .second, .val (.long q4), .second, .val (.long q5), .second, .val (.int (own_b b1)), .val (.int (own_b b2)), .val (.int (own_b two)), .val (.long l1), .second, .val (.long l2), .second, .val (.long l3), .second, .val (.ref o), .val (.int (1 : Int32)), .val (.int nn), .val (.long tot), .second, .val (.int (own_b ee)), .val (.int (1 : Int32)), .val (.long q1), .second, .val (.int (0 : Int32)), .val (.int (own_b (false || own_ends (0 + 1) (0 + l3)))), .val (.int (own_b (own_ends (1 : Int32) l3)))] [(.int (own_b (false || own_ends (0 + 1) (0 + l3))))])) _
                refine XS.iload X13.here hx rfl (hb hby at_267) rfl ?_
                exact k
              refine own_st (B := T13.setTop (mkF m 277 #[.val (.long q0), .second, .val (.long q1), .second, .val (.int fl), .val (.long q3), .second, .val (.long q4), .second, .val (.long q5), .second, .val (.int (own_b b1)), .val (.int (own_b b2)), .val (.int (own_b two)), .val (.long l1), .second, .val (.long l2), .second, .val (.long l3), .second, .val (.ref o), .val (.int (1 : Int32)), .val (.int nn), .val (.long tot), .second, .val (.int (own_b ee)), .val (.int (1 : Int32)), .val (.long q1), .second, .val (.int (0 : Int32)), .val (.int (own_b (false || own_ends (0 + 1) (0 + l3)))), .val (.int (own_b (own_ends (1 : Int32) l3)))] [(.int (1 : Int32))])) (fun t k => ?_) ?_
              · show Steps p.tables e below (T13.setTop (mkF m 269 #[.val (.long q0), .second, .val (.long q1), .second, .val (.int fl), .val (.long q3), .second, .val (.long q4), .second, .val (.long q5), .second, .val (.int (own_b b1)), .val (.int (own_b b2)), .val (.int (own_b two)), .val (.long l1), .second, .val (.long l2), .second, .val (.long l3), .second, .val (.ref o), .val (.int (1 : Int32)), .val (.int nn), .val (.long tot), .second, .val (.int (own_b ee)), .val (.int (1 : Int32)), .val (.long q1), .second, .val (.int (0 : Int32)), .val (.int (own_b (false || own_ends (0 + 1) (0 + l3)))), .val (.int (own_b (own_ends (1 : Int32) l3)))] [(.int (own_b (own_ends (1 : Int32) l3))), (.int (own_b (false || own_ends (0 + 1) (0 + l3))))])) _
                refine XS.icmpNo X13.here hx rfl (hb hby at_269) rfl (teq (by rw [Bool.false_or, Int64.zero_add]; rfl)).2 ?_
                show Steps p.tables e below (T13.setTop (mkF m 272 #[.val (.long q0), .second, .val (.long q1), .second, .val (.int fl), .val (.long q3), .second, .val (.long q4), .second, .val (.long q5), .second, .val (.int (own_b b1)), .val (.int (own_b b2)), .val (.int (own_b two)), .val (.long l1), .second, .val (.long l2), .second, .val (.long l3), .second, .val (.ref o), .val (.int (1 : Int32)), .val (.int nn), .val (.long tot), .second, .val (.int (own_b ee)), .val (.int (1 : Int32)), .val (.long q1), .second, .val (.int (0 : Int32)), .val (.int (own_b (false || own_ends (0 + 1) (0 + l3)))), .val (.int (own_b (own_ends (1 : Int32) l3)))] [])) _
                refine XS.iconst X13.here hx rfl (hb hby at_272) ?_
                show Steps p.tables e below (T13.setTop (mkF m 273 #[.val (.long q0), .second, .val (.long q1), .second, .val (.int fl), .val (.long q3), .second, .val (.long q4), .second, .val (.long q5), .second, .val (.int (own_b b1)), .val (.int (own_b b2)), .val (.int (own_b two)), .val (.long l1), .second, .val (.long l2), .second, .val (.long l3), .second, .val (.ref o), .val (.int (1 : Int32)), .val (.int nn), .val (.long tot), .second, .val (.int (own_b ee)), .val (.int (1 : Int32)), .val (.long q1), .second, .val (.int (0 : Int32)), .val (.int (own_b (false || own_ends (0 + 1) (0 + l3)))), .val (.int (own_b (own_ends (1 : Int32) l3)))] [(.int (1 : Int32))])) _
                refine XS.goto X13.here hx rfl (pc0 := 273) (pc' := 277) rfl (hb hby at_273) (by decide) (by decide) ?_
                exact k
              obtain ⟨fs, hr, hrun, hended, hW, hsame⟩ := X13.leave (v := some (.int (1 : Int32))) (fun h => by rw [Bd.returns] at h; cases h)
              refine ⟨_, _, ?_, hrun, hended, _, _, rfl, ?_, ⟨_, rfl⟩, hW, hsame.mono (by decide) (by decide)⟩
              · exact retOut X13 hx Bd.returns rfl (Or.inl ⟨rfl, by simp, _, rfl⟩) (hb hby at_277) hr
              · show Q0 Z q0 q1 fl q3 q4 q5 h0 n0 _ T13.heap _
                rw [e13]
                exact ⟨rfl, N13⟩
            · rw [Bool.not_eq_true] at hs
              rw [hs] at G5
              have G6 : own_Gr Z T7.heap o q0 nn tot (own_b ee) nn := G5
              rw [show (own_b (ee || b2)) = (0 : Int32) from by rw [hs]; rfl]
              refine own_st (B := T7.setTop (mkF m 169 #[.val (.long q0), .second, .val (.long q1), .second, .val (.int fl), .val (.long q3), .second, .val (.long q4), .second, .val (.long q5), .second, .val (.int (own_b b1)), .val (.int (own_b b2)), .val (.int (own_b two)), .val (.long l1), .second, .val (.long l2), .second, .val (.long l3), .second, .val (.ref o), .val (.int (1 : Int32)), .val (.int nn), .val (.long tot), .second, .val (.int (own_b ee)), .val (.int (0 : Int32)), .unset, .unset, .unset, .unset, .unset] [(.int (0 : Int32))])) (fun t k => ?_) ?_
              · show Steps p.tables e below (T7.setTop (mkF m 167 #[.val (.long q0), .second, .val (.long q1), .second, .val (.int fl), .val (.long q3), .second, .val (.long q4), .second, .val (.long q5), .second, .val (.int (own_b b1)), .val (.int (own_b b2)), .val (.int (own_b two)), .val (.long l1), .second, .val (.long l2), .second, .val (.long l3), .second, .val (.ref o), .val (.int (1 : Int32)), .val (.int nn), .val (.long tot), .second, .val (.int (own_b ee)), .val (.int (0 : Int32)), .unset, .unset, .unset, .unset, .unset] [])) _
                refine XS.iload X7.here hx rfl (hb hby at_167) rfl ?_
                exact k
              refine own_st (B := T7.setTop (mkF m 181 #[.val (.long q0), .second, .val (.long q1), .second, .val (.int fl), .val (.long q3), .second, .val (.long q4), .second, .val (.long q5), .second, .val (.int (own_b b1)), .val (.int (own_b b2)), .val (.int (own_b two)), .val (.long l1), .second, .val (.long l2), .second, .val (.long l3), .second, .val (.ref o), .val (.int (1 : Int32)), .val (.int nn), .val (.long tot), .second, .val (.int (own_b ee)), .val (.int (0 : Int32)), .val (.long q0), .second, .unset, .unset, .unset] [(.int (0 : Int32))])) (fun t k => ?_) ?_
              · show Steps p.tables e below (T7.setTop (mkF m 169 #[.val (.long q0), .second, .val (.long q1), .second, .val (.int fl), .val (.long q3), .second, .val (.long q4), .second, .val (.long q5), .second, .val (.int (own_b b1)), .val (.int (own_b b2)), .val (.int (own_b two)), .val (.long l1), .second, .val (.long l2), .second, .val (.long l3), .second, .val (.ref o), .val (.int (1 : Int32)), .val (.int nn), .val (.long tot), .second, .val (.int (own_b ee)), .val (.int (0 : Int32)), .unset, .unset, .unset, .unset, .unset] [(.int (0 : Int32))])) _
                refine XS.ifYes X7.here hx rfl (pc0 := 169) (pc' := 176) rfl (hb hby at_169) rfl ((if0 _ _).trans (teq rfl).1) (by decide) (by decide) ?_
                show Steps p.tables e below (T7.setTop (mkF m 176 #[.val (.long q0), .second, .val (.long q1), .second, .val (.int fl), .val (.long q3), .second, .val (.long q4), .second, .val (.long q5), .second, .val (.int (own_b b1)), .val (.int (own_b b2)), .val (.int (own_b two)), .val (.long l1), .second, .val (.long l2), .second, .val (.long l3), .second, .val (.ref o), .val (.int (1 : Int32)), .val (.int nn), .val (.long tot), .second, .val (.int (own_b ee)), .val (.int (0 : Int32)), .unset, .unset, .unset, .unset, .unset] [])) _
                refine XS.lloadN X7.here hx rfl (hb hby at_176) rfl ?_
                show Steps p.tables e below (T7.setTop (mkF m 177 #[.val (.long q0), .second, .val (.long q1), .second, .val (.int fl), .val (.long q3), .second, .val (.long q4), .second, .val (.long q5), .second, .val (.int (own_b b1)), .val (.int (own_b b2)), .val (.int (own_b two)), .val (.long l1), .second, .val (.long l2), .second, .val (.long l3), .second, .val (.ref o), .val (.int (1 : Int32)), .val (.int nn), .val (.long tot), .second, .val (.int (own_b ee)), .val (.int (0 : Int32)), .unset, .unset, .unset, .unset, .unset] [(.long q0)])) _
                refine XS.lstore X7.here hx rfl (hb hby at_177) rfl (l' := #[.val (.long q0), .second, .val (.long q1), .second, .val (.int fl), .val (.long q3), .second, .val (.long q4), .second, .val (.long q5), .second, .val (.int (own_b b1)), .val (.int (own_b b2)), .val (.int (own_b two)), .val (.long l1), .second, .val (.long l2), .second, .val (.long l3), .second, .val (.ref o), .val (.int (1 : Int32)), .val (.int nn), .val (.long tot), .second, .val (.int (own_b ee)), .val (.int (0 : Int32)), .val (.long q0), .second, .unset, .unset, .unset]) rfl ?_
                show Steps p.tables e below (T7.setTop (mkF m 179 #[.val (.long q0), .second, .val (.long q1), .second, .val (.int fl), .val (.long q3), .second, .val (.long q4), .second, .val (.long q5), .second, .val (.int (own_b b1)), .val (.int (own_b b2)), .val (.int (own_b two)), .val (.long l1), .second, .val (.long l2), .second, .val (.long l3), .second, .val (.ref o), .val (.int (1 : Int32)), .val (.int nn), .val (.long tot), .second, .val (.int (own_b ee)), .val (.int (0 : Int32)), .val (.long q0), .second, .unset, .unset, .unset] [])) _
                refine XS.iload X7.here hx rfl (hb hby at_179) rfl ?_
                exact k
              refine own_st (B := T7.setTop (mkF m 194 #[.val (.long q0), .second, .val (.long q1), .second, .val (.int fl), .val (.long q3), .second, .val (.long q4), .second, .val (.long q5), .second, .val (.int (own_b b1)), .val (.int (own_b b2)), .val (.int (own_b two)), .val (.long l1), .second, .val (.long l2), .second, .val (.long l3), .second, .val (.ref o), .val (.int (1 : Int32)), .val (.int nn), .val (.long tot), .second, .val (.int (own_b ee)), .val (.int (0 : Int32)), .val (.long q0), .second, .val (.int nn), .unset, .unset] [(.ref o)])) (fun t k => ?_) ?_
              · show Steps p.tables e below (T7.setTop (mkF m 181 #[.val (.long q0), .second, .val (.long q1), .second, .val (.int fl), .val (.long q3), .second, .val (.long q4), .second, .val (.long q5), .second, .val (.int (own_b b1)), .val (.int (own_b b2)), .val (.int (own_b two)), .val (.long l1), .second, .val (.long l2), .second, .val (.long l3), .second, .val (.ref o), .val (.int (1 : Int32)), .val (.int nn), .val (.long tot), .second, .val (.int (own_b ee)), .val (.int (0 : Int32)), .val (.long q0), .second, .unset, .unset, .unset] [(.int (0 : Int32))])) _
                refine XS.ifYes X7.here hx rfl (pc0 := 181) (pc' := 188) rfl (hb hby at_181) rfl ((if0 _ _).trans (teq rfl).1) (by decide) (by decide) ?_
                show Steps p.tables e below (T7.setTop (mkF m 188 #[.val (.long q0), .second, .val (.long q1), .second, .val (.int fl), .val (.long q3), .second, .val (.long q4), .second, .val (.long q5), .second, .val (.int (own_b b1)), .val (.int (own_b b2)), .val (.int (own_b two)), .val (.long l1), .second, .val (.long l2), .second, .val (.long l3), .second, .val (.ref o), .val (.int (1 : Int32)), .val (.int nn), .val (.long tot), .second, .val (.int (own_b ee)), .val (.int (0 : Int32)), .val (.long q0), .second, .unset, .unset, .unset] [])) _
                refine XS.iload X7.here hx rfl (hb hby at_188) rfl ?_
                show Steps p.tables e below (T7.setTop (mkF m 190 #[.val (.long q0), .second, .val (.long q1), .second, .val (.int fl), .val (.long q3), .second, .val (.long q4), .second, .val (.long q5), .second, .val (.int (own_b b1)), .val (.int (own_b b2)), .val (.int (own_b two)), .val (.long l1), .second, .val (.long l2), .second, .val (.long l3), .second, .val (.ref o), .val (.int (1 : Int32)), .val (.int nn), .val (.long tot), .second, .val (.int (own_b ee)), .val (.int (0 : Int32)), .val (.long q0), .second, .unset, .unset, .unset] [(.int nn)])) _
                refine XS.istore X7.here hx rfl (hb hby at_190) rfl (l' := #[.val (.long q0), .second, .val (.long q1), .second, .val (.int fl), .val (.long q3), .second, .val (.long q4), .second, .val (.long q5), .second, .val (.int (own_b b1)), .val (.int (own_b b2)), .val (.int (own_b two)), .val (.long l1), .second, .val (.long l2), .second, .val (.long l3), .second, .val (.ref o), .val (.int (1 : Int32)), .val (.int nn), .val (.long tot), .second, .val (.int (own_b ee)), .val (.int (0 : Int32)), .val (.long q0), .second, .val (.int nn), .unset, .unset]) rfl ?_
                show Steps p.tables e below (T7.setTop (mkF m 192 #[.val (.long q0), .second, .val (.long q1), .second, .val (.int fl), .val (.long q3), .second, .val (.long q4), .second, .val (.long q5), .second, .val (.int (own_b b1)), .val (.int (own_b b2)), .val (.int (own_b two)), .val (.long l1), .second, .val (.long l2), .second, .val (.long l3), .second, .val (.ref o), .val (.int (1 : Int32)), .val (.int nn), .val (.long tot), .second, .val (.int (own_b ee)), .val (.int (0 : Int32)), .val (.long q0), .second, .val (.int nn), .unset, .unset] [])) _
                refine XS.aload X7.here hx rfl (hb hby at_192) rfl rfl ?_
                exact k
              obtain ⟨cq14, kq14, q14a, q14b, q14c⟩ := isOf hZ rfl G6.1
              obtain ⟨_, _, ⟨T14, L14, k14, n14⟩, -, X14, ⟨Lc14, hQ14, l14, y14, z14⟩, st14⟩ := X7.virtualBack hx (y := (⟨"com/example/cairn/cairn/Groups", "group", "()J"⟩ : MethodName)) (z := (⟨"com/example/cairn/cairn/Groups", "group", "()J"⟩ : MethodName)) hown (mvT hZ (hw _ (List.mem_of_getElem? (i := 40) rfl))) (mvT hZ (hw _ (List.mem_of_getElem? (i := 41) rfl))) (notFace_of_selects (args := #[]) (mvT hZ (hw _ (List.mem_of_getElem? (i := 43) rfl)))) (mvT hZ (hw _ (List.mem_of_getElem? (i := 43) rfl))) (mvT hZ (hw _ (List.mem_of_getElem? (i := 42) rfl))) (by decide) (backOf (W := 0) (rm7 l Z a0 hw [] o q0 nn tot ee nn T7.heap n0 Zf G6) hZ (hw _ (List.mem_of_getElem? (i := 44) rfl)) (hw _ (List.mem_of_getElem? (i := 3) rfl)) (by decide) (by decide)) q14a q14c (g := (mkF m 194 #[.val (.long q0), .second, .val (.long q1), .second, .val (.int fl), .val (.long q3), .second, .val (.long q4), .second, .val (.long q5), .second, .val (.int (own_b b1)), .val (.int (own_b b2)), .val (.int (own_b two)), .val (.long l1), .second, .val (.long l2), .second, .val (.long l3), .second, .val (.ref o), .val (.int (1 : Int32)), .val (.int nn), .val (.long tot), .second, .val (.int (own_b ee)), .val (.int (0 : Int32)), .val (.long q0), .second, .val (.int nn), .unset, .unset] [(.ref o)])) rfl (by rw [hml]; rfl) (Steps.refl _) (argsL := []) (rest := []) (lenOf pd_5 rfl) rfl (by show 2 * 0 + _ ≤ _; exact Nat.le_of_eq rfl) (hb hby at_194) (fun _ _ => ⟨rfl, rfl, (by decide : 1 + 0 ≤ _), (by decide : 5 + 0 ≤ _)⟩)
              dsimp only [Pt.U, Pt.locs, Pt.cells, Pt.slots] at X14 l14 y14 z14 st14 hQ14
              subst l14 y14 z14
              obtain ⟨rfl, N14q, e14⟩ := hQ14
              have N14 := Fr.app N7 N14q
              refine own_st (B := T14.setTop (mkF m 197 #[.val (.long q0), .second, .val (.long q1), .second, .val (.int fl), .val (.long q3), .second, .val (.long q4), .second, .val (.long q5), .second, .val (.int (own_b b1)), .val (.int (own_b b2)), .val (.int (own_b two)), .val (.long l1), .second, .val (.long l2), .second, .val (.long l3), .second, .val (.ref o), .val (.int (1 : Int32)), .val (.int nn), .val (.long tot), .second, .val (.int (own_b ee)), .val (.int (0 : Int32)), .val (.long q0), .second, .val (.int nn), .unset, .unset] [(.long q0)])) (fun t k => st14.trans k) ?_
              refine own_st (B := T14.setTop (mkF m 200 #[.val (.long q0), .second, .val (.long q1), .second, .val (.int fl), .val (.long q3), .second, .val (.long q4), .second, .val (.long q5), .second, .val (.int (own_b b1)), .val (.int (own_b b2)), .val (.int (own_b two)), .val (.long l1), .second, .val (.long l2), .second, .val (.long l3), .second, .val (.ref o), .val (.int (1 : Int32)), .val (.int nn), .val (.long tot), .second, .val (.int (own_b ee)), .val (.int (0 : Int32)), .val (.long q0), .second, .val (.int nn), .unset, .unset] [(.int (lcmpW q0 q0))])) (fun t k => ?_) ?_
              · show Steps p.tables e below (T14.setTop (mkF m 197 #[.val (.long q0), .second, .val (.long q1), .second, .val (.int fl), .val (.long q3), .second, .val (.long q4), .second, .val (.long q5), .second, .val (.int (own_b b1)), .val (.int (own_b b2)), .val (.int (own_b two)), .val (.long l1), .second, .val (.long l2), .second, .val (.long l3), .second, .val (.ref o), .val (.int (1 : Int32)), .val (.int nn), .val (.long tot), .second, .val (.int (own_b ee)), .val (.int (0 : Int32)), .val (.long q0), .second, .val (.int nn), .unset, .unset] [(.long q0)])) _
                refine XS.lload X14.here hx rfl (hb hby at_197) rfl ?_
                show Steps p.tables e below (T14.setTop (mkF m 199 #[.val (.long q0), .second, .val (.long q1), .second, .val (.int fl), .val (.long q3), .second, .val (.long q4), .second, .val (.long q5), .second, .val (.int (own_b b1)), .val (.int (own_b b2)), .val (.int (own_b two)), .val (.long l1), .second, .val (.long l2), .second, .val (.long l3), .second, .val (.ref o), .val (.int (1 : Int32)), .val (.int nn), .val (.long tot), .second, .val (.int (own_b ee)), .val (.int (0 : Int32)), .val (.long q0), .second, .val (.int nn), .unset, .unset] [(.long q0), (.long q0)])) _
                refine XS.lcmp X14.here hx rfl (hb hby at_199) rfl ?_
                exact k
              refine own_st (B := T14.setTop (mkF m 205 #[.val (.long q0), .second, .val (.long q1), .second, .val (.int fl), .val (.long q3), .second, .val (.long q4), .second, .val (.long q5), .second, .val (.int (own_b b1)), .val (.int (own_b b2)), .val (.int (own_b two)), .val (.long l1), .second, .val (.long l2), .second, .val (.long l3), .second, .val (.ref o), .val (.int (1 : Int32)), .val (.int nn), .val (.long tot), .second, .val (.int (own_b ee)), .val (.int (0 : Int32)), .val (.long q0), .second, .val (.int nn), .unset, .unset] [(.ref o)])) (fun t k => ?_) ?_
              · show Steps p.tables e below (T14.setTop (mkF m 200 #[.val (.long q0), .second, .val (.long q1), .second, .val (.int fl), .val (.long q3), .second, .val (.long q4), .second, .val (.long q5), .second, .val (.int (own_b b1)), .val (.int (own_b b2)), .val (.int (own_b two)), .val (.long l1), .second, .val (.long l2), .second, .val (.long l3), .second, .val (.ref o), .val (.int (1 : Int32)), .val (.int nn), .val (.long tot), .second, .val (.int (own_b ee)), .val (.int (0 : Int32)), .val (.long q0), .second, .val (.int nn), .unset, .unset] [(.int (lcmpW q0 q0))])) _
                refine XS.ifNo X14.here hx rfl (hb hby at_200) rfl ((if0 _ _).trans (teq ((lw_eq _ _).mpr rfl)).2) ?_
                show Steps p.tables e below (T14.setTop (mkF m 203 #[.val (.long q0), .second, .val (.long q1), .second, .val (.int fl), .val (.long q3), .second, .val (.long q4), .second, .val (.long q5), .second, .val (.int (own_b b1)), .val (.int (own_b b2)), .val (.int (own_b two)), .val (.long l1), .second, .val (.long l2), .second, .val (.long l3), .second, .val (.ref o), .val (.int (1 : Int32)), .val (.int nn), .val (.long tot), .second, .val (.int (own_b ee)), .val (.int (0 : Int32)), .val (.long q0), .second, .val (.int nn), .unset, .unset] [])) _
                refine XS.aload X14.here hx rfl (hb hby at_203) rfl rfl ?_
                exact k
              obtain ⟨cq15, kq15, q15a, q15b, q15c⟩ := isOf hZ e14 G6.1
              obtain ⟨_, _, ⟨T15, L15, k15, n15⟩, -, X15, ⟨Lc15, hQ15, l15, y15, z15⟩, st15⟩ := X14.virtualBack hx (y := (⟨"com/example/cairn/cairn/Groups", "place", "()I"⟩ : MethodName)) (z := (⟨"com/example/cairn/cairn/Groups", "place", "()I"⟩ : MethodName)) hown (mvT hZ (hw _ (List.mem_of_getElem? (i := 45) rfl))) (mvT hZ (hw _ (List.mem_of_getElem? (i := 46) rfl))) (notFace_of_selects (args := #[]) (mvT hZ (hw _ (List.mem_of_getElem? (i := 48) rfl)))) (mvT hZ (hw _ (List.mem_of_getElem? (i := 48) rfl))) (mvT hZ (hw _ (List.mem_of_getElem? (i := 47) rfl))) (by decide) (backOf (W := 0) (rm8 l Z a0 hw [] o q0 nn tot ee nn T7.heap n0 Zf G6) hZ (hw _ (List.mem_of_getElem? (i := 49) rfl)) (hw _ (List.mem_of_getElem? (i := 3) rfl)) (by decide) (by decide)) q15a q15c (g := (mkF m 205 #[.val (.long q0), .second, .val (.long q1), .second, .val (.int fl), .val (.long q3), .second, .val (.long q4), .second, .val (.long q5), .second, .val (.int (own_b b1)), .val (.int (own_b b2)), .val (.int (own_b two)), .val (.long l1), .second, .val (.long l2), .second, .val (.long l3), .second, .val (.ref o), .val (.int (1 : Int32)), .val (.int nn), .val (.long tot), .second, .val (.int (own_b ee)), .val (.int (0 : Int32)), .val (.long q0), .second, .val (.int nn), .unset, .unset] [(.ref o)])) rfl (by rw [hml]; rfl) (Steps.refl _) (argsL := []) (rest := []) (lenOf pd_6 rfl) rfl (by show 2 * 0 + _ ≤ _; exact Nat.le_of_eq rfl) (hb hby at_205) (fun _ _ => ⟨rfl, e14, (by decide : 1 + 0 ≤ _), (by decide : 5 + 0 ≤ _)⟩)
              dsimp only [Pt.U, Pt.locs, Pt.cells, Pt.slots] at X15 l15 y15 z15 st15 hQ15
              subst l15 y15 z15
              obtain ⟨rfl, N15q, e15⟩ := hQ15
              have N15 := Fr.app N14 N15q
              refine own_st (B := T15.setTop (mkF m 208 #[.val (.long q0), .second, .val (.long q1), .second, .val (.int fl), .val (.long q3), .second, .val (.long q4), .second, .val (.long q5), .second, .val (.int (own_b b1)), .val (.int (own_b b2)), .val (.int (own_b two)), .val (.long l1), .second, .val (.long l2), .second, .val (.long l3), .second, .val (.ref o), .val (.int (1 : Int32)), .val (.int nn), .val (.long tot), .second, .val (.int (own_b ee)), .val (.int (0 : Int32)), .val (.long q0), .second, .val (.int nn), .unset, .unset] [(.int nn)])) (fun t k => st15.trans k) ?_
              refine own_st (B := T15.setTop (mkF m 210 #[.val (.long q0), .second, .val (.long q1), .second, .val (.int fl), .val (.long q3), .second, .val (.long q4), .second, .val (.long q5), .second, .val (.int (own_b b1)), .val (.int (own_b b2)), .val (.int (own_b two)), .val (.long l1), .second, .val (.long l2), .second, .val (.long l3), .second, .val (.ref o), .val (.int (1 : Int32)), .val (.int nn), .val (.long tot), .second, .val (.int (own_b ee)), .val (.int (0 : Int32)), .val (.long q0), .second, .val (.int nn), .unset, .unset] [(.int nn), (.int nn)])) (fun t k => ?_) ?_
              · show Steps p.tables e below (T15.setTop (mkF m 208 #[.val (.long q0), .second, .val (.long q1), .second, .val (.int fl), .val (.long q3), .second, .val (.long q4), .second, .val (.long q5), .second, .val (.int (own_b b1)), .val (.int (own_b b2)), .val (.int (own_b two)), .val (.long l1), .second, .val (.long l2), .second, .val (.long l3), .second, .val (.ref o), .val (.int (1 : Int32)), .val (.int nn), .val (.long tot), .second, .val (.int (own_b ee)), .val (.int (0 : Int32)), .val (.long q0), .second, .val (.int nn), .unset, .unset] [(.int nn)])) _
                refine XS.iload X15.here hx rfl (hb hby at_208) rfl ?_
                exact k
              refine own_st (B := T15.setTop (mkF m 215 #[.val (.long q0), .second, .val (.long q1), .second, .val (.int fl), .val (.long q3), .second, .val (.long q4), .second, .val (.long q5), .second, .val (.int (own_b b1)), .val (.int (own_b b2)), .val (.int (own_b two)), .val (.long l1), .second, .val (.long l2), .second, .val (.long l3), .second, .val (.ref o), .val (.int (1 : Int32)), .val (.int nn), .val (.long tot), .second, .val (.int (own_b ee)), .val (.int (0 : Int32)), .val (.long q0), .second, .val (.int nn), .unset, .unset] [(.ref o)])) (fun t k => ?_) ?_
              · show Steps p.tables e below (T15.setTop (mkF m 210 #[.val (.long q0), .second, .val (.long q1), .second, .val (.int fl), .val (.long q3), .second, .val (.long q4), .second, .val (.long q5), .second, .val (.int (own_b b1)), .val (.int (own_b b2)), .val (.int (own_b two)), .val (.long l1), .second, .val (.long l2), .second, .val (.long l3), .second, .val (.ref o), .val (.int (1 : Int32)), .val (.int nn), .val (.long tot), .second, .val (.int (own_b ee)), .val (.int (0 : Int32)), .val (.long q0), .second, .val (.int nn), .unset, .unset] [(.int nn), (.int nn)])) _
                refine XS.icmpNo X15.here hx rfl (hb hby at_210) rfl (teq rfl).2 ?_
                show Steps p.tables e below (T15.setTop (mkF m 213 #[.val (.long q0), .second, .val (.long q1), .second, .val (.int fl), .val (.long q3), .second, .val (.long q4), .second, .val (.long q5), .second, .val (.int (own_b b1)), .val (.int (own_b b2)), .val (.int (own_b two)), .val (.long l1), .second, .val (.long l2), .second, .val (.long l3), .second, .val (.ref o), .val (.int (1 : Int32)), .val (.int nn), .val (.long tot), .second, .val (.int (own_b ee)), .val (.int (0 : Int32)), .val (.long q0), .second, .val (.int nn), .unset, .unset] [])) _
                refine XS.aload X15.here hx rfl (hb hby at_213) rfl rfl ?_
                exact k
              obtain ⟨cq16, kq16, q16a, q16b, q16c⟩ := isOf hZ e15 G6.1
              obtain ⟨_, _, ⟨T16, L16, k16, n16⟩, -, X16, ⟨Lc16, hQ16, l16, y16, z16⟩, st16⟩ := X15.virtualBack hx (y := (⟨"com/example/cairn/cairn/Groups", "ended", "()Z"⟩ : MethodName)) (z := (⟨"com/example/cairn/cairn/Groups", "ended", "()Z"⟩ : MethodName)) hown (mvT hZ (hw _ (List.mem_of_getElem? (i := 35) rfl))) (mvT hZ (hw _ (List.mem_of_getElem? (i := 36) rfl))) (notFace_of_selects (args := #[]) (mvT hZ (hw _ (List.mem_of_getElem? (i := 38) rfl)))) (mvT hZ (hw _ (List.mem_of_getElem? (i := 38) rfl))) (mvT hZ (hw _ (List.mem_of_getElem? (i := 37) rfl))) (by decide) (backOf (W := 0) (rm6 l Z a0 hw [] o q0 nn tot ee nn T7.heap n0 Zf G6) hZ (hw _ (List.mem_of_getElem? (i := 39) rfl)) (hw _ (List.mem_of_getElem? (i := 3) rfl)) (by decide) (by decide)) q16a q16c (g := (mkF m 215 #[.val (.long q0), .second, .val (.long q1), .second, .val (.int fl), .val (.long q3), .second, .val (.long q4), .second, .val (.long q5), .second, .val (.int (own_b b1)), .val (.int (own_b b2)), .val (.int (own_b two)), .val (.long l1), .second, .val (.long l2), .second, .val (.long l3), .second, .val (.ref o), .val (.int (1 : Int32)), .val (.int nn), .val (.long tot), .second, .val (.int (own_b ee)), .val (.int (0 : Int32)), .val (.long q0), .second, .val (.int nn), .unset, .unset] [(.ref o)])) rfl (by rw [hml]; rfl) (Steps.refl _) (argsL := []) (rest := []) (lenOf pd_4 rfl) rfl (by show 2 * 0 + _ ≤ _; exact Nat.le_of_eq rfl) (hb hby at_215) (fun _ _ => ⟨rfl, e15, (by decide : 1 + 0 ≤ _), (by decide : 5 + 0 ≤ _)⟩)
              dsimp only [Pt.U, Pt.locs, Pt.cells, Pt.slots] at X16 l16 y16 z16 st16 hQ16
              subst l16 y16 z16
              obtain ⟨rfl, N16q, e16⟩ := hQ16
              have N16 := Fr.app N15 N16q
              refine own_st (B := T16.setTop (mkF m 218 #[.val (.long q0), .second, .val (.long q1), .second, .val (.int fl), .val (.long q3), .second, .val (.long q4), .second, .val (.long q5), .second, .val (.int (own_b b1)), .val (.int (own_b b2)), .val (.int (own_b two)), .val (.long l1), .second, .val (.long l2), .second, .val (.long l3), .second, .val (.ref o), .val (.int (1 : Int32)), .val (.int nn), .val (.long tot), .second, .val (.int (own_b ee)), .val (.int (0 : Int32)), .val (.long q0), .second, .val (.int nn), .unset, .unset] [(.int (own_b ee))])) (fun t k => st16.trans k) ?_
              refine own_st (B := T16.setTop (mkF m 227 #[.val (.long q0), .second, .val (.long q1), .second, .val (.int fl), .val (.long q3), .second, .val (.long q4), .second, .val (.long q5), .second, .val (.int (own_b b1)), .val (.int (own_b b2)), .val (.int (own_b two)), .val (.long l1), .second, .val (.long l2), .second, .val (.long l3), .second, .val (.ref o), .val (.int (1 : Int32)), .val (.int nn), .val (.long tot), .second, .val (.int (own_b ee)), .val (.int (0 : Int32)), .val (.long q0), .second, .val (.int nn), .unset, .unset] [(.long l3), (.ref o)])) (fun t k => ?_) ?_
              · show Steps p.tables e below (T16.setTop (mkF m 218 #[.val (.long q0), .second, .val (.long q1), .second, .val (.int fl), .val (.long q3), .second, .val (.long q4), .second, .val (.long q5), .second, .val (.int (own_b b1)), .val (.int (own_b b2)), .val (.int (own_b two)), .val (.long l1), .second, .val (.long l2), .second, .val (.long l3), .second, .val (.ref o), .val (.int (1 : Int32)), .val (.int nn), .val (.long tot), .second, .val (.int (own_b ee)), .val (.int (0 : Int32)), .val (.long q0), .second, .val (.int nn), .unset, .unset] [(.int (own_b ee))])) _
                refine XS.ifYes X16.here hx rfl (pc0 := 218) (pc' := 223) rfl (hb hby at_218) rfl ((if0 _ _).trans (teq (by rw [(Bool.or_eq_false_iff.mp hs).1]; rfl)).1) (by decide) (by decide) ?_
                show Steps p.tables e below (T16.setTop (mkF m 223 #[.val (.long q0), .second, .val (.long q1), .second, .val (.int fl), .val (.long q3), .second, .val (.long q4), .second, .val (.long q5), .second, .val (.int (own_b b1)), .val (.int (own_b b2)), .val (.int (own_b two)), .val (.long l1), .second, .val (.long l2), .second, .val (.long l3), .second, .val (.ref o), .val (.int (1 : Int32)), .val (.int nn), .val (.long tot), .second, .val (.int (own_b ee)), .val (.int (0 : Int32)), .val (.long q0), .second, .val (.int nn), .unset, .unset] [])) _
                refine XS.aload X16.here hx rfl (hb hby at_223) rfl rfl ?_
                show Steps p.tables e below (T16.setTop (mkF m 225 #[.val (.long q0), .second, .val (.long q1), .second, .val (.int fl), .val (.long q3), .second, .val (.long q4), .second, .val (.long q5), .second, .val (.int (own_b b1)), .val (.int (own_b b2)), .val (.int (own_b two)), .val (.long l1), .second, .val (.long l2), .second, .val (.long l3), .second, .val (.ref o), .val (.int (1 : Int32)), .val (.int nn), .val (.long tot), .second, .val (.int (own_b ee)), .val (.int (0 : Int32)), .val (.long q0), .second, .val (.int nn), .unset, .unset] [(.ref o)])) _
                refine XS.lload X16.here hx rfl (hb hby at_225) rfl ?_
                exact k
              obtain ⟨cq17, kq17, q17a, q17b, q17c⟩ := isOf hZ e16 G6.1
              obtain ⟨_, _, ⟨T17, L17, k17, n17⟩, -, X17, ⟨Lc17, hQ17, l17, y17, z17⟩, st17⟩ := X16.virtualBack hx (y := (⟨"com/example/cairn/cairn/Groups", "end", "(J)V"⟩ : MethodName)) (z := (⟨"com/example/cairn/cairn/Groups", "end", "(J)V"⟩ : MethodName)) hown (mvT hZ (hw _ (List.mem_of_getElem? (i := 25) rfl))) (mvT hZ (hw _ (List.mem_of_getElem? (i := 26) rfl))) (notFace_of_selects (args := #[]) (mvT hZ (hw _ (List.mem_of_getElem? (i := 28) rfl)))) (mvT hZ (hw _ (List.mem_of_getElem? (i := 28) rfl))) (mvT hZ (hw _ (List.mem_of_getElem? (i := 27) rfl))) (by decide) (backOf (W := 0) (rm4 l Z a0 hw [] o l3 q0 nn tot ee nn T7.heap n0 Zf G6 go) hZ (hw _ (List.mem_of_getElem? (i := 29) rfl)) (hw _ (List.mem_of_getElem? (i := 3) rfl)) (by decide) (by decide)) q17a q17c (g := (mkF m 227 #[.val (.long q0), .second, .val (.long q1), .second, .val (.int fl), .val (.long q3), .second, .val (.long q4), .second, .val (.long q5), .second, .val (.int (own_b b1)), .val (.int (own_b b2)), .val (.int (own_b two)), .val (.long l1), .second, .val (.long l2), .second, .val (.long l3), .second, .val (.ref o), .val (.int (1 : Int32)), .val (.int nn), .val (.long tot), .second, .val (.int (own_b ee)), .val (.int (0 : Int32)), .val (.long q0), .second, .val (.int nn), .unset, .unset] [(.long l3), (.ref o)])) rfl (by rw [hml]; rfl) (Steps.refl _) (argsL := [(.long l3)]) (rest := []) (lenOf pd_3 rfl) rfl (by show 2 * 0 + _ ≤ _; exact Nat.le_of_eq rfl) (hb hby at_227) (fun _ _ => ⟨rfl, e16, (by decide : 1 + 0 ≤ _), (by decide : 5 + 0 ≤ _)⟩)
              dsimp only [Pt.U, Pt.locs, Pt.cells, Pt.slots] at X17 l17 y17 z17 st17 hQ17
              subst l17 y17 z17
              obtain ⟨rfl, N17q, K7, G7⟩ := hQ17
              have N17 := Fr.app N16 N17q
              refine own_st (B := T17.setTop (mkF m 230 #[.val (.long q0), .second, .val (.long q1), .second, .val (.int fl), .val (.long q3), .second, .val (.long q4), .second, .val (.long q5), .second, .val (.int (own_b b1)), .val (.int (own_b b2)), .val (.int (own_b two)), .val (.long l1), .second, .val (.long l2), .second, .val (.long l3), .second, .val (.ref o), .val (.int (1 : Int32)), .val (.int nn), .val (.long tot), .second, .val (.int (own_b ee)), .val (.int (0 : Int32)), .val (.long q0), .second, .val (.int nn), .unset, .unset] [])) (fun t k => st17.trans k) ?_
              have Zg : n0 ≤ T17.heap.size := Nat.le_trans Zf K7.1
              refine own_st (B := T17.setTop (mkF m 232 #[.val (.long q0), .second, .val (.long q1), .second, .val (.int fl), .val (.long q3), .second, .val (.long q4), .second, .val (.long q5), .second, .val (.int (own_b b1)), .val (.int (own_b b2)), .val (.int (own_b two)), .val (.long l1), .second, .val (.long l2), .second, .val (.long l3), .second, .val (.ref o), .val (.int (1 : Int32)), .val (.int nn), .val (.long tot), .second, .val (.int (own_b ee)), .val (.int (0 : Int32)), .val (.long q0), .second, .val (.int nn), .unset, .unset] [(.ref o)])) (fun t k => ?_) ?_
              · show Steps p.tables e below (T17.setTop (mkF m 230 #[.val (.long q0), .second, .val (.long q1), .second, .val (.int fl), .val (.long q3), .second, .val (.long q4), .second, .val (.long q5), .second, .val (.int (own_b b1)), .val (.int (own_b b2)), .val (.int (own_b two)), .val (.long l1), .second, .val (.long l2), .second, .val (.long l3), .second, .val (.ref o), .val (.int (1 : Int32)), .val (.int nn), .val (.long tot), .second, .val (.int (own_b ee)), .val (.int (0 : Int32)), .val (.long q0), .second, .val (.int nn), .unset, .unset] [])) _
                refine XS.aload X17.here hx rfl (hb hby at_230) rfl rfl ?_
                exact k
              obtain ⟨cq18, kq18, q18a, q18b, q18c⟩ := isOf hZ rfl G7.1
              obtain ⟨_, _, ⟨T18, L18, k18, n18⟩, -, X18, ⟨Lc18, hQ18, l18, y18, z18⟩, st18⟩ := X17.virtualBack hx (y := (⟨"com/example/cairn/cairn/Groups", "ended", "()Z"⟩ : MethodName)) (z := (⟨"com/example/cairn/cairn/Groups", "ended", "()Z"⟩ : MethodName)) hown (mvT hZ (hw _ (List.mem_of_getElem? (i := 35) rfl))) (mvT hZ (hw _ (List.mem_of_getElem? (i := 36) rfl))) (notFace_of_selects (args := #[]) (mvT hZ (hw _ (List.mem_of_getElem? (i := 38) rfl)))) (mvT hZ (hw _ (List.mem_of_getElem? (i := 38) rfl))) (mvT hZ (hw _ (List.mem_of_getElem? (i := 37) rfl))) (by decide) (backOf (W := 0) (rm6 l Z a0 hw [] o q0 (nn + 1) (tot + l3) (ee || own_ends (nn + 1) (tot + l3)) nn T17.heap n0 Zg G7) hZ (hw _ (List.mem_of_getElem? (i := 39) rfl)) (hw _ (List.mem_of_getElem? (i := 3) rfl)) (by decide) (by decide)) q18a q18c (g := (mkF m 232 #[.val (.long q0), .second, .val (.long q1), .second, .val (.int fl), .val (.long q3), .second, .val (.long q4), .second, .val (.long q5), .second, .val (.int (own_b b1)), .val (.int (own_b b2)), .val (.int (own_b two)), .val (.long l1), .second, .val (.long l2), .second, .val (.long l3), .second, .val (.ref o), .val (.int (1 : Int32)), .val (.int nn), .val (.long tot), .second, .val (.int (own_b ee)), .val (.int (0 : Int32)), .val (.long q0), .second, .val (.int nn), .unset, .unset] [(.ref o)])) rfl (by rw [hml]; rfl) (Steps.refl _) (argsL := []) (rest := []) (lenOf pd_4 rfl) rfl (by show 2 * 0 + _ ≤ _; exact Nat.le_of_eq rfl) (hb hby at_232) (fun _ _ => ⟨rfl, rfl, (by decide : 1 + 0 ≤ _), (by decide : 5 + 0 ≤ _)⟩)
              dsimp only [Pt.U, Pt.locs, Pt.cells, Pt.slots] at X18 l18 y18 z18 st18 hQ18
              subst l18 y18 z18
              obtain ⟨rfl, N18q, e18⟩ := hQ18
              have N18 := Fr.app N17 N18q
              refine own_st (B := T18.setTop (mkF m 235 #[.val (.long q0), .second, .val (.long q1), .second, .val (.int fl), .val (.long q3), .second, .val (.long q4), .second, .val (.long q5), .second, .val (.int (own_b b1)), .val (.int (own_b b2)), .val (.int (own_b two)), .val (.long l1), .second, .val (.long l2), .second, .val (.long l3), .second, .val (.ref o), .val (.int (1 : Int32)), .val (.int nn), .val (.long tot), .second, .val (.int (own_b ee)), .val (.int (0 : Int32)), .val (.long q0), .second, .val (.int nn), .unset, .unset] [(.int (own_b (ee || own_ends (nn + 1) (tot + l3))))])) (fun t k => st18.trans k) ?_
              refine own_st (B := T18.setTop (mkF m 239 #[.val (.long q0), .second, .val (.long q1), .second, .val (.int fl), .val (.long q3), .second, .val (.long q4), .second, .val (.long q5), .second, .val (.int (own_b b1)), .val (.int (own_b b2)), .val (.int (own_b two)), .val (.long l1), .second, .val (.long l2), .second, .val (.long l3), .second, .val (.ref o), .val (.int (1 : Int32)), .val (.int nn), .val (.long tot), .second, .val (.int (own_b ee)), .val (.int (0 : Int32)), .val (.long q0), .second, .val (.int nn), .val (.int (own_b (ee || own_ends (nn + 1) (tot + l3)))), .unset] [(.int (0 : Int32))])) (fun t k => ?_) ?_
              · show Steps p.tables e below (T18.setTop (mkF m 235 #[.val (.long q0), .second, .val (.long q1), .second, .val (.int fl), .val (.long q3), .second, .val (.long q4), .second, .val (.long q5), .second, .val (.int (own_b b1)), .val (.int (own_b b2)), .val (.int (own_b two)), .val (.long l1), .second, .val (.long l2), .second, .val (.long l3), .second, .val (.ref o), .val (.int (1 : Int32)), .val (.int nn), .val (.long tot), .second, .val (.int (own_b ee)), .val (.int (0 : Int32)), .val (.long q0), .second, .val (.int nn), .unset, .unset] [(.int (own_b (ee || own_ends (nn + 1) (tot + l3))))])) _
                refine XS.istore X18.here hx rfl (hb hby at_235) rfl (l' := #[.val (.long q0), .second, .val (.long q1), .second, .val (.int fl), .val (.long q3), .second, .val (.long q4), .second, .val (.long q5), .second, .val (.int (own_b b1)), .val (.int (own_b b2)), .val (.int (own_b two)), .val (.long l1), .second, .val (.long l2), .second, .val (.long l3), .second, .val (.ref o), .val (.int (1 : Int32)), .val (.int nn), .val (.long tot), .second, .val (.int (own_b ee)), .val (.int (0 : Int32)), .val (.long q0), .second, .val (.int nn), .val (.int (own_b (ee || own_ends (nn + 1) (tot + l3)))), .unset]) rfl ?_
                show Steps p.tables e below (T18.setTop (mkF m 237 #[.val (.long q0), .second, .val (.long q1), .second, .val (.int fl), .val (.long q3), .second, .val (.long q4), .second, .val (.long q5), .second, .val (.int (own_b b1)), .val (.int (own_b b2)), .val (.int (own_b two)), .val (.long l1), .second, .val (.long l2), .second, .val (.long l3), .second, .val (.ref o), .val (.int (1 : Int32)), .val (.int nn), .val (.long tot), .second, .val (.int (own_b ee)), .val (.int (0 : Int32)), .val (.long q0), .second, .val (.int nn), .val (.int (own_b (ee || own_ends (nn + 1) (tot + l3)))), .unset] [])) _
                refine XS.iload X18.here hx rfl (hb hby at_237) rfl ?_
                exact k
              refine own_st (B := T18.setTop (mkF m 260 #[.val (.long q0), .second, .val (.long q1), .second, .val (.int fl), .val (.long q3), .second, .val (.long q4), .second, .val (.long q5), .second, .val (.int (own_b b1)), .val (.int (own_b b2)), .val (.int (own_b two)), .val (.long l1), .second, .val (.long l2), .second, .val (.long l3), .second, .val (.ref o), .val (.int (1 : Int32)), .val (.int nn), .val (.long tot), .second, .val (.int (own_b ee)), .val (.int (0 : Int32)), .val (.long q0), .second, .val (.int nn), .val (.int (own_b (ee || own_ends (nn + 1) (tot + l3)))), .unset] [(.long (tot + l3)), (.int (nn + (1 : Int32)))])) (fun t k => ?_) ?_
              · show Steps p.tables e below (T18.setTop (mkF m 239 #[.val (.long q0), .second, .val (.long q1), .second, .val (.int fl), .val (.long q3), .second, .val (.long q4), .second, .val (.long q5), .second, .val (.int (own_b b1)), .val (.int (own_b b2)), .val (.int (own_b two)), .val (.long l1), .second, .val (.long l2), .second, .val (.long l3), .second, .val (.ref o), .val (.int (1 : Int32)), .val (.int nn), .val (.long tot), .second, .val (.int (own_b ee)), .val (.int (0 : Int32)), .val (.long q0), .second, .val (.int nn), .val (.int (own_b (ee || own_ends (nn + 1) (tot + l3)))), .unset] [(.int (0 : Int32))])) _
                refine XS.ifYes X18.here hx rfl (pc0 := 239) (pc' := 251) rfl (hb hby at_239) rfl ((if0 _ _).trans (teq rfl).1) (by decide) (by decide) ?_
                show Steps p.tables e below (T18.setTop (mkF m 251 #[.val (.long q0), .second, .val (.long q1), .second, .val (.int fl), .val (.long q3), .second, .val (.long q4), .second, .val (.long q5), .second, .val (.int (own_b b1)), .val (.int (own_b b2)), .val (.int (own_b two)), .val (.long l1), .second, .val (.long l2), .second, .val (.long l3), .second, .val (.ref o), .val (.int (1 : Int32)), .val (.int nn), .val (.long tot), .second, .val (.int (own_b ee)), .val (.int (0 : Int32)), .val (.long q0), .second, .val (.int nn), .val (.int (own_b (ee || own_ends (nn + 1) (tot + l3)))), .unset] [])) _
                refine XS.iload X18.here hx rfl (hb hby at_251) rfl ?_
                show Steps p.tables e below (T18.setTop (mkF m 253 #[.val (.long q0), .second, .val (.long q1), .second, .val (.int fl), .val (.long q3), .second, .val (.long q4), .second, .val (.long q5), .second, .val (.int (own_b b1)), .val (.int (own_b b2)), .val (.int (own_b two)), .val (.long l1), .second, .val (.long l2), .second, .val (.long l3), .second, .val (.ref o), .val (.int (1 : Int32)), .val (.int nn), .val (.long tot), .second, .val (.int (own_b ee)), .val (.int (0 : Int32)), .val (.long q0), .second, .val (.int nn), .val (.int (own_b (ee || own_ends (nn + 1) (tot + l3)))), .unset] [(.int nn)])) _
                refine XS.iconst X18.here hx rfl (hb hby at_253) ?_
                show Steps p.tables e below (T18.setTop (mkF m 254 #[.val (.long q0), .second, .val (.long q1), .second, .val (.int fl), .val (.long q3), .second, .val (.long q4), .second, .val (.long q5), .second, .val (.int (own_b b1)), .val (.int (own_b b2)), .val (.int (own_b two)), .val (.long l1), .second, .val (.long l2), .second, .val (.long l3), .second, .val (.ref o), .val (.int (1 : Int32)), .val (.int nn), .val (.long tot), .second, .val (.int (own_b ee)), .val (.int (0 : Int32)), .val (.long q0), .second, .val (.int nn), .val (.int (own_b (ee || own_ends (nn + 1) (tot + l3)))), .unset] [(.int (1 : Int32)), (.int nn)])) _
                refine XS.iadd X18.here hx rfl (hb hby at_254) rfl ?_
                show Steps p.tables e below (T18.setTop (mkF m 255 #[.val (.long q0), .second, .val (.long q1), .second, .val (.int fl), .val (.long q3), .second, .val (.long q4), .second, .val (.long q5), .second, .val (.int (own_b b1)), .val (.int (own_b b2)), .val (.int (own_b two)), .val (.long l1), .second, .val (.long l2), .second, .val (.long l3), .second, .val (.ref o), .val (.int (1 : Int32)), .val (.int nn), .val (.long tot), .second, .val (.int (own_b ee)), .val (.int (0 : Int32)), .val (.long q0), .second, .val (.int nn), .val (.int (own_b (ee || own_ends (nn + 1) (tot + l3)))), .unset] [(.int (nn + (1 : Int32)))])) _
                refine XS.lload X18.here hx rfl (hb hby at_255) rfl ?_
                show Steps p.tables e below (T18.setTop (mkF m 257 #[.val (.long q0), .second, .val (.long q1), .second, .val (.int fl), .val (.long q3), .second, .val (.long q4), .second, .val (.long q5), .second, .val (.int (own_b b1)), .val (.int (own_b b2)), .val (.int (own_b two)), .val (.long l1), .second, .val (.long l2), .second, .val (.long l3), .second, .val (.ref o), .val (.int (1 : Int32)), .val (.int nn), .val (.long tot), .second, .val (.int (own_b ee)), .val (.int (0 : Int32)), .val (.long q0), .second, .val (.int nn), .val (.int (own_b (ee || own_ends (nn + 1) (tot + l3)))), .unset] [(.long tot), (.int (nn + (1 : Int32)))])) _
                refine XS.lload X18.here hx rfl (hb hby at_257) rfl ?_
                show Steps p.tables e below (T18.setTop (mkF m 259 #[.val (.long q0), .second, .val (.long q1), .second, .val (.int fl), .val (.long q3), .second, .val (.long q4), .second, .val (.long q5), .second, .val (.int (own_b b1)), .val (.int (own_b b2)), .val (.int (own_b two)), .val (.long l1), .second, .val (.long l2), .second, .val (.long l3), .second, .val (.ref o), .val (.int (1 : Int32)), .val (.int nn), .val (.long tot), .second, .val (.int (own_b ee)), .val (.int (0 : Int32)), .val (.long q0), .second, .val (.int nn), .val (.int (own_b (ee || own_ends (nn + 1) (tot + l3)))), .unset] [(.long l3), (.long tot), (.int (nn + (1 : Int32)))])) _
                refine XS.ladd X18.here hx rfl (hb hby at_259) rfl ?_
                exact k
              obtain ⟨_, _, ⟨T19, L19, k19, n19⟩, -, X19, ⟨Lc19, hQ19, l19, y19, z19⟩, st19⟩ := Jvm.LawKit.callS X18 hx (y := (⟨"com/example/cairn/cairn/GroupsStartPinLaw", "ends", "(IJ)Z"⟩ : MethodName)) hown (mvT hZ (hw _ (List.mem_of_getElem? (i := 50) rfl))) (mvT hZ (hw _ (List.mem_of_getElem? (i := 51) rfl))) (mvT hZ (hw _ (List.mem_of_getElem? (i := 52) rfl))) (mvT hZ (hw _ (List.mem_of_getElem? (i := 53) rfl))) (by decide) (backOf (W := 0) (rm9 l Z a0 hw [] (nn + (1 : Int32)) (tot + l3) T17.heap n0 Zg) hZ (hw _ (List.mem_of_getElem? (i := 53) rfl)) (hw _ (List.mem_of_getElem? (i := 52) rfl)) (by decide) (by decide)) (g := (mkF m 260 #[.val (.long q0), .second, .val (.long q1), .second, .val (.int fl), .val (.long q3), .second, .val (.long q4), .second, .val (.long q5), .second, .val (.int (own_b b1)), .val (.int (own_b b2)), .val (.int (own_b two)), .val (.long l1), .second, .val (.long l2), .second, .val (.long l3), .second, .val (.ref o), .val (.int (1 : Int32)), .val (.int nn), .val (.long tot), .second, .val (.int (own_b ee)), .val (.int (0 : Int32)), .val (.long q0), .second, .val (.int nn), .val (.int (own_b (ee || own_ends (nn + 1) (tot + l3)))), .unset] [(.long (tot + l3)), (.int (nn + (1 : Int32)))])) rfl (by rw [hml]; rfl) (argsL := [(.int (nn + (1 : Int32))), (.long (tot + l3))]) (rest := []) (lenOf pd_0 rfl) rfl (by show 2 * 0 + _ ≤ _; exact Nat.le_of_eq rfl) (hb hby at_260) (fun _ _ => ⟨rfl, e18, (by decide : 1 + 0 ≤ _), (by decide : 5 + 0 ≤ _)⟩)
              dsimp only [Pt.U, Pt.locs, Pt.cells, Pt.slots] at X19 l19 y19 z19 st19 hQ19
              subst l19 y19 z19
              obtain ⟨rfl, N19q, e19⟩ := hQ19
              have N19 := Fr.app N18 N19q
              refine own_st (B := T19.setTop (mkF m 263 #[.val (.long q0), .second, .val (.long q1), .second, .val (.int fl), .val (.long q3), .second, .val (.long q4), .second, .val (.long q5), .second, .val (.int (own_b b1)), .val (.int (own_b b2)), .val (.int (own_b two)), .val (.long l1), .second, .val (.long l2), .second, .val (.long l3), .second, .val (.ref o), .val (.int (1 : Int32)), .val (.int nn), .val (.long tot), .second, .val (.int (own_b ee)), .val (.int (0 : Int32)), .val (.long q0), .second, .val (.int nn), .val (.int (own_b (ee || own_ends (nn + 1) (tot + l3)))), .unset] [(.int (own_b (own_ends (nn + (1 : Int32)) (tot + l3))))])) (fun t k => st19 _ k) ?_
              refine own_st (B := T19.setTop (mkF m 269 #[.val (.long q0), .second, .val (.long q1), .second, .val (.int fl), .val (.long q3), .second, .val (.long q4), .second, .val (.long q5), .second, .val (.int (own_b b1)), .val (.int (own_b b2)), .val (.int (own_b two)), .val (.long l1), .second, .val (.long l2), .second, .val (.long l3), .second, .val (.ref o), .val (.int (1 : Int32)), .val (.int nn), .val (.long tot), .second, .val (.int (own_b ee)), .val (.int (0 : Int32)), .val (.long q0), .second, .val (.int nn), .val (.int (own_b (ee || own_ends (nn + 1) (tot + l3)))), .val (.int (own_b (own_ends (nn + (1 : Int32)) (tot + l3))))] [(.int (own_b (own_ends (nn + (1 : Int32)) (tot + l3)))), (.int (own_b (ee || own_ends (nn + 1) (tot + l3))))])) (fun t k => ?_) ?_
              · show Steps p.tables e below (T19.setTop (mkF m 263 #[.val (.long q0), .second, .val (.long q1), .second, .val (.int fl), .val (.long q3), .second, .val (.long q4), .second, .val (.long q5), .second, .val (.int (own_b b1)), .val (.int (own_b b2)), .val (.int (own_b two)), .val (.long l1), .second, .val (.long l2), .second, .val (.long l3), .second, .val (.ref o), .val (.int (1 : Int32)), .val (.int nn), .val (.long tot), .second, .val (.int (own_b ee)), .val (.int (0 : Int32)), .val (.long q0), .second, .val (.int nn), .val (.int (own_b (ee || own_ends (nn + 1) (tot + l3)))), .unset] [(.int (own_b (own_ends (nn + (1 : Int32)) (tot + l3))))])) _
                refine XS.istore X19.here hx rfl (hb hby at_263) rfl (l' := #[.val (.long q0), .second, .val (.long q1), .second, .val (.int fl), .val (.long q3), .second, .val (.long q4), .second, .val (.long q5), .second, .val (.int (own_b b1)), .val (.int (own_b b2)), .val (.int (own_b two)), .val (.long l1), .second, .val (.long l2), .second, .val (.long l3), .second, .val (.ref o), .val (.int (1 : Int32)), .val (.int nn), .val (.long tot), .second, .val (.int (own_b ee)), .val (.int (0 : Int32)), .val (.long q0), .second, .val (.int nn), .val (.int (own_b (ee || own_ends (nn + 1) (tot + l3)))), .val (.int (own_b (own_ends (nn + (1 : Int32)) (tot + l3))))]) rfl ?_
                show Steps p.tables e below (T19.setTop (mkF m 265 #[.val (.long q0), .second, .val (.long q1), .second, .val (.int fl), .val (.long q3), .second, .val (.long q4), .second, .val (.long q5), .second, .val (.int (own_b b1)), .val (.int (own_b b2)), .val (.int (own_b two)), .val (.long l1), .second, .val (.long l2), .second, .val (.long l3), .second, .val (.ref o), .val (.int (1 : Int32)), .val (.int nn), .val (.long tot), .second, .val (.int (own_b ee)), .val (.int (0 : Int32)), .val (.long q0), .second, .val (.int nn), .val (.int (own_b (ee || own_ends (nn + 1) (tot + l3)))), .val (.int (own_b (own_ends (nn + (1 : Int32)) (tot + l3))))] [])) _
                refine XS.iload X19.here hx rfl (hb hby at_265) rfl ?_
                show Steps p.tables e below (T19.setTop (mkF m 267 #[.val (.long q0), .second, .val (.long q1), .second, .val (.int fl), .val (.long q3), .second, .val (.long q4), .second, .val (.long q5), .second, .val (.int (own_b b1)), .val (.int (own_b b2)), .val (.int (own_b two)), .val (.long l1), .second, .val (.long l2), .second, .val (.long l3), .second, .val (.ref o), .val (.int (1 : Int32)), .val (.int nn), .val (.long tot), .second, .val (.int (own_b ee)), .val (.int (0 : Int32)), .val (.long q0), .second, .val (.int nn), .val (.int (own_b (ee || own_ends (nn + 1) (tot + l3)))), .val (.int (own_b (own_ends (nn + (1 : Int32)) (tot + l3))))] [(.int (own_b (ee || own_ends (nn + 1) (tot + l3))))])) _
                refine XS.iload X19.here hx rfl (hb hby at_267) rfl ?_
                exact k
              refine own_st (B := T19.setTop (mkF m 277 #[.val (.long q0), .second, .val (.long q1), .second, .val (.int fl), .val (.long q3), .second, .val (.long q4), .second, .val (.long q5), .second, .val (.int (own_b b1)), .val (.int (own_b b2)), .val (.int (own_b two)), .val (.long l1), .second, .val (.long l2), .second, .val (.long l3), .second, .val (.ref o), .val (.int (1 : Int32)), .val (.int nn), .val (.long tot), .second, .val (.int (own_b ee)), .val (.int (0 : Int32)), .val (.long q0), .second, .val (.int nn), .val (.int (own_b (ee || own_ends (nn + 1) (tot + l3)))), .val (.int (own_b (own_ends (nn + (1 : Int32)) (tot + l3))))] [(.int (1 : Int32))])) (fun t k => ?_) ?_
              · show Steps p.tables e below (T19.setTop (mkF m 269 #[.val (.long q0), .second, .val (.long q1), .second, .val (.int fl), .val (.long q3), .second, .val (.long q4), .second, .val (.long q5), .second, .val (.int (own_b b1)), .val (.int (own_b b2)), .val (.int (own_b two)), .val (.long l1), .second, .val (.long l2), .second, .val (.long l3), .second, .val (.ref o), .val (.int (1 : Int32)), .val (.int nn), .val (.long tot), .second, .val (.int (own_b ee)), .val (.int (0 : Int32)), .val (.long q0), .second, .val (.int nn), .val (.int (own_b (ee || own_ends (nn + 1) (tot + l3)))), .val (.int (own_b (own_ends (nn + (1 : Int32)) (tot + l3))))] [(.int (own_b (own_ends (nn + (1 : Int32)) (tot + l3)))), (.int (own_b (ee || own_ends (nn + 1) (tot + l3))))])) _
                refine XS.icmpNo X19.here hx rfl (hb hby at_269) rfl (teq (by rw [(Bool.or_eq_false_iff.mp hs).1, Bool.false_or])).2 ?_
                show Steps p.tables e below (T19.setTop (mkF m 272 #[.val (.long q0), .second, .val (.long q1), .second, .val (.int fl), .val (.long q3), .second, .val (.long q4), .second, .val (.long q5), .second, .val (.int (own_b b1)), .val (.int (own_b b2)), .val (.int (own_b two)), .val (.long l1), .second, .val (.long l2), .second, .val (.long l3), .second, .val (.ref o), .val (.int (1 : Int32)), .val (.int nn), .val (.long tot), .second, .val (.int (own_b ee)), .val (.int (0 : Int32)), .val (.long q0), .second, .val (.int nn), .val (.int (own_b (ee || own_ends (nn + 1) (tot + l3)))), .val (.int (own_b (own_ends (nn + (1 : Int32)) (tot + l3))))] [])) _
                refine XS.iconst X19.here hx rfl (hb hby at_272) ?_
                show Steps p.tables e below (T19.setTop (mkF m 273 #[.val (.long q0), .second, .val (.long q1), .second, .val (.int fl), .val (.long q3), .second, .val (.long q4), .second, .val (.long q5), .second, .val (.int (own_b b1)), .val (.int (own_b b2)), .val (.int (own_b two)), .val (.long l1), .second, .val (.long l2), .second, .val (.long l3), .second, .val (.ref o), .val (.int (1 : Int32)), .val (.int nn), .val (.long tot), .second, .val (.int (own_b ee)), .val (.int (0 : Int32)), .val (.long q0), .second, .val (.int nn), .val (.int (own_b (ee || own_ends (nn + 1) (tot + l3)))), .val (.int (own_b (own_ends (nn + (1 : Int32)) (tot + l3))))] [(.int (1 : Int32))])) _
                refine XS.goto X19.here hx rfl (pc0 := 273) (pc' := 277) rfl (hb hby at_273) (by decide) (by decide) ?_
                exact k
              obtain ⟨fs, hr, hrun, hended, hW, hsame⟩ := X19.leave (v := some (.int (1 : Int32))) (fun h => by rw [Bd.returns] at h; cases h)
              refine ⟨_, _, ?_, hrun, hended, _, _, rfl, ?_, ⟨_, rfl⟩, hW, hsame.mono (by decide) (by decide)⟩
              · exact retOut X19 hx Bd.returns rfl (Or.inl ⟨rfl, by simp, _, rfl⟩) (hb hby at_277) hr
              · show Q0 Z q0 q1 fl q3 q4 q5 h0 n0 _ T19.heap _
                rw [e19]
                exact ⟨rfl, N19⟩
          by_cases he : ee = false
          · refine own_st (B := T7.setTop (mkF m 154 #[.val (.long q0), .second, .val (.long q1), .second, .val (.int fl), .val (.long q3), .second, .val (.long q4), .second, .val (.long q5), .second, .val (.int (own_b b1)), .val (.int (own_b b2)), .val (.int (own_b two)), .val (.long l1), .second, .val (.long l2), .second, .val (.long l3), .second, .val (.ref o), .val (.int (1 : Int32)), .val (.int nn), .val (.long tot), .second, .val (.int (own_b ee)), .val (.int (own_b (ee || b2))), .unset, .unset, .unset, .unset, .unset] [(.int (own_b b2)), (.int (own_b (ee || b2)))])) (fun t k => ?_) ?_
            · show Steps p.tables e below (T7.setTop (mkF m 149 #[.val (.long q0), .second, .val (.long q1), .second, .val (.int fl), .val (.long q3), .second, .val (.long q4), .second, .val (.long q5), .second, .val (.int (own_b b1)), .val (.int (own_b b2)), .val (.int (own_b two)), .val (.long l1), .second, .val (.long l2), .second, .val (.long l3), .second, .val (.ref o), .val (.int (1 : Int32)), .val (.int nn), .val (.long tot), .second, .val (.int (own_b ee)), .val (.int (own_b (ee || b2))), .unset, .unset, .unset, .unset, .unset] [(.int (own_b ee)), (.int (own_b (ee || b2)))])) _
              refine XS.ifNo X7.here hx rfl (hb hby at_149) rfl ((if0 _ _).trans (teq (own_b_ne.mpr he)).2) ?_
              show Steps p.tables e below (T7.setTop (mkF m 152 #[.val (.long q0), .second, .val (.long q1), .second, .val (.int fl), .val (.long q3), .second, .val (.long q4), .second, .val (.long q5), .second, .val (.int (own_b b1)), .val (.int (own_b b2)), .val (.int (own_b two)), .val (.long l1), .second, .val (.long l2), .second, .val (.long l3), .second, .val (.ref o), .val (.int (1 : Int32)), .val (.int nn), .val (.long tot), .second, .val (.int (own_b ee)), .val (.int (own_b (ee || b2))), .unset, .unset, .unset, .unset, .unset] [(.int (own_b (ee || b2)))])) _
              refine XS.iload X7.here hx rfl (hb hby at_152) rfl ?_
              exact k
            by_cases hb2 : b2 = false
            · refine own_st (B := T7.setTop (mkF m 162 #[.val (.long q0), .second, .val (.long q1), .second, .val (.int fl), .val (.long q3), .second, .val (.long q4), .second, .val (.long q5), .second, .val (.int (own_b b1)), .val (.int (own_b b2)), .val (.int (own_b two)), .val (.long l1), .second, .val (.long l2), .second, .val (.long l3), .second, .val (.ref o), .val (.int (1 : Int32)), .val (.int nn), .val (.long tot), .second, .val (.int (own_b ee)), .val (.int (own_b (ee || b2))), .unset, .unset, .unset, .unset, .unset] [(.int (0 : Int32)), (.int (own_b (ee || b2)))])) (fun t k => ?_) ?_
              · show Steps p.tables e below (T7.setTop (mkF m 154 #[.val (.long q0), .second, .val (.long q1), .second, .val (.int fl), .val (.long q3), .second, .val (.long q4), .second, .val (.long q5), .second, .val (.int (own_b b1)), .val (.int (own_b b2)), .val (.int (own_b two)), .val (.long l1), .second, .val (.long l2), .second, .val (.long l3), .second, .val (.ref o), .val (.int (1 : Int32)), .val (.int nn), .val (.long tot), .second, .val (.int (own_b ee)), .val (.int (own_b (ee || b2))), .unset, .unset, .unset, .unset, .unset] [(.int (own_b b2)), (.int (own_b (ee || b2)))])) _
                refine XS.ifYes X7.here hx rfl (pc0 := 154) (pc' := 161) rfl (hb hby at_154) rfl ((if0 _ _).trans (teq (own_b_ne.mpr hb2)).1) (by decide) (by decide) ?_
                show Steps p.tables e below (T7.setTop (mkF m 161 #[.val (.long q0), .second, .val (.long q1), .second, .val (.int fl), .val (.long q3), .second, .val (.long q4), .second, .val (.long q5), .second, .val (.int (own_b b1)), .val (.int (own_b b2)), .val (.int (own_b two)), .val (.long l1), .second, .val (.long l2), .second, .val (.long l3), .second, .val (.ref o), .val (.int (1 : Int32)), .val (.int nn), .val (.long tot), .second, .val (.int (own_b ee)), .val (.int (own_b (ee || b2))), .unset, .unset, .unset, .unset, .unset] [(.int (own_b (ee || b2)))])) _
                refine XS.iconst X7.here hx rfl (hb hby at_161) ?_
                exact k
              have hv : (ee || b2) = false := by simp [he, hb2]
              rw [hv] at k162
              rw [hv]
              exact k162
            · refine own_st (B := T7.setTop (mkF m 162 #[.val (.long q0), .second, .val (.long q1), .second, .val (.int fl), .val (.long q3), .second, .val (.long q4), .second, .val (.long q5), .second, .val (.int (own_b b1)), .val (.int (own_b b2)), .val (.int (own_b two)), .val (.long l1), .second, .val (.long l2), .second, .val (.long l3), .second, .val (.ref o), .val (.int (1 : Int32)), .val (.int nn), .val (.long tot), .second, .val (.int (own_b ee)), .val (.int (own_b (ee || b2))), .unset, .unset, .unset, .unset, .unset] [(.int (1 : Int32)), (.int (own_b (ee || b2)))])) (fun t k => ?_) ?_
              · show Steps p.tables e below (T7.setTop (mkF m 154 #[.val (.long q0), .second, .val (.long q1), .second, .val (.int fl), .val (.long q3), .second, .val (.long q4), .second, .val (.long q5), .second, .val (.int (own_b b1)), .val (.int (own_b b2)), .val (.int (own_b two)), .val (.long l1), .second, .val (.long l2), .second, .val (.long l3), .second, .val (.ref o), .val (.int (1 : Int32)), .val (.int nn), .val (.long tot), .second, .val (.int (own_b ee)), .val (.int (own_b (ee || b2))), .unset, .unset, .unset, .unset, .unset] [(.int (own_b b2)), (.int (own_b (ee || b2)))])) _
                refine XS.ifNo X7.here hx rfl (hb hby at_154) rfl ((if0 _ _).trans (feq (fun q => hb2 (own_b_ne.mp q))).1) ?_
                show Steps p.tables e below (T7.setTop (mkF m 157 #[.val (.long q0), .second, .val (.long q1), .second, .val (.int fl), .val (.long q3), .second, .val (.long q4), .second, .val (.long q5), .second, .val (.int (own_b b1)), .val (.int (own_b b2)), .val (.int (own_b two)), .val (.long l1), .second, .val (.long l2), .second, .val (.long l3), .second, .val (.ref o), .val (.int (1 : Int32)), .val (.int nn), .val (.long tot), .second, .val (.int (own_b ee)), .val (.int (own_b (ee || b2))), .unset, .unset, .unset, .unset, .unset] [(.int (own_b (ee || b2)))])) _
                refine XS.iconst X7.here hx rfl (hb hby at_157) ?_
                show Steps p.tables e below (T7.setTop (mkF m 158 #[.val (.long q0), .second, .val (.long q1), .second, .val (.int fl), .val (.long q3), .second, .val (.long q4), .second, .val (.long q5), .second, .val (.int (own_b b1)), .val (.int (own_b b2)), .val (.int (own_b two)), .val (.long l1), .second, .val (.long l2), .second, .val (.long l3), .second, .val (.ref o), .val (.int (1 : Int32)), .val (.int nn), .val (.long tot), .second, .val (.int (own_b ee)), .val (.int (own_b (ee || b2))), .unset, .unset, .unset, .unset, .unset] [(.int (1 : Int32)), (.int (own_b (ee || b2)))])) _
                refine XS.goto X7.here hx rfl (pc0 := 158) (pc' := 162) rfl (hb hby at_158) (by decide) (by decide) ?_
                exact k
              have hv : (ee || b2) = true := by simp [he, hb2]
              rw [hv] at k162
              rw [hv]
              exact k162
          · refine own_st (B := T7.setTop (mkF m 162 #[.val (.long q0), .second, .val (.long q1), .second, .val (.int fl), .val (.long q3), .second, .val (.long q4), .second, .val (.long q5), .second, .val (.int (own_b b1)), .val (.int (own_b b2)), .val (.int (own_b two)), .val (.long l1), .second, .val (.long l2), .second, .val (.long l3), .second, .val (.ref o), .val (.int (1 : Int32)), .val (.int nn), .val (.long tot), .second, .val (.int (own_b ee)), .val (.int (own_b (ee || b2))), .unset, .unset, .unset, .unset, .unset] [(.int (1 : Int32)), (.int (own_b (ee || b2)))])) (fun t k => ?_) ?_
            · show Steps p.tables e below (T7.setTop (mkF m 149 #[.val (.long q0), .second, .val (.long q1), .second, .val (.int fl), .val (.long q3), .second, .val (.long q4), .second, .val (.long q5), .second, .val (.int (own_b b1)), .val (.int (own_b b2)), .val (.int (own_b two)), .val (.long l1), .second, .val (.long l2), .second, .val (.long l3), .second, .val (.ref o), .val (.int (1 : Int32)), .val (.int nn), .val (.long tot), .second, .val (.int (own_b ee)), .val (.int (own_b (ee || b2))), .unset, .unset, .unset, .unset, .unset] [(.int (own_b ee)), (.int (own_b (ee || b2)))])) _
              refine XS.ifYes X7.here hx rfl (pc0 := 149) (pc' := 157) rfl (hb hby at_149) rfl ((if0 _ _).trans (feq (fun q => he (own_b_ne.mp q))).2) (by decide) (by decide) ?_
              show Steps p.tables e below (T7.setTop (mkF m 157 #[.val (.long q0), .second, .val (.long q1), .second, .val (.int fl), .val (.long q3), .second, .val (.long q4), .second, .val (.long q5), .second, .val (.int (own_b b1)), .val (.int (own_b b2)), .val (.int (own_b two)), .val (.long l1), .second, .val (.long l2), .second, .val (.long l3), .second, .val (.ref o), .val (.int (1 : Int32)), .val (.int nn), .val (.long tot), .second, .val (.int (own_b ee)), .val (.int (own_b (ee || b2))), .unset, .unset, .unset, .unset, .unset] [(.int (own_b (ee || b2)))])) _
              refine XS.iconst X7.here hx rfl (hb hby at_157) ?_
              show Steps p.tables e below (T7.setTop (mkF m 158 #[.val (.long q0), .second, .val (.long q1), .second, .val (.int fl), .val (.long q3), .second, .val (.long q4), .second, .val (.long q5), .second, .val (.int (own_b b1)), .val (.int (own_b b2)), .val (.int (own_b two)), .val (.long l1), .second, .val (.long l2), .second, .val (.long l3), .second, .val (.ref o), .val (.int (1 : Int32)), .val (.int nn), .val (.long tot), .second, .val (.int (own_b ee)), .val (.int (own_b (ee || b2))), .unset, .unset, .unset, .unset, .unset] [(.int (1 : Int32)), (.int (own_b (ee || b2)))])) _
              refine XS.goto X7.here hx rfl (pc0 := 158) (pc' := 162) rfl (hb hby at_158) (by decide) (by decide) ?_
              exact k
            have hv : (ee || b2) = true := by simp [he]
            rw [hv] at k162
            rw [hv]
            exact k162
        by_cases h2 : two = true
        · refine own_st (B := T4.setTop (mkF m 115 #[.val (.long q0), .second, .val (.long q1), .second, .val (.int fl), .val (.long q3), .second, .val (.long q4), .second, .val (.long q5), .second, .val (.int (own_b b1)), .val (.int (own_b b2)), .val (.int (own_b two)), .val (.long l1), .second, .val (.long l2), .second, .val (.long l3), .second, .val (.ref o), .val (.int (1 : Int32)), .val (.int (1 : Int32)), .val (.long l1), .second, .unset, .unset, .unset, .unset, .unset, .unset, .unset] [(.long l2), (.ref o)])) (fun t k => ?_) ?_
          · show Steps p.tables e below (T4.setTop (mkF m 108 #[.val (.long q0), .second, .val (.long q1), .second, .val (.int fl), .val (.long q3), .second, .val (.long q4), .second, .val (.long q5), .second, .val (.int (own_b b1)), .val (.int (own_b b2)), .val (.int (own_b two)), .val (.long l1), .second, .val (.long l2), .second, .val (.long l3), .second, .val (.ref o), .val (.int (1 : Int32)), .val (.int (1 : Int32)), .val (.long l1), .second, .unset, .unset, .unset, .unset, .unset, .unset, .unset] [(.int (own_b two))])) _
            refine XS.ifNo X4.here hx rfl (hb hby at_108) rfl ((if0 _ _).trans (feq (fun q => by rw [h2] at q; exact absurd q (by decide))).1) ?_
            show Steps p.tables e below (T4.setTop (mkF m 111 #[.val (.long q0), .second, .val (.long q1), .second, .val (.int fl), .val (.long q3), .second, .val (.long q4), .second, .val (.long q5), .second, .val (.int (own_b b1)), .val (.int (own_b b2)), .val (.int (own_b two)), .val (.long l1), .second, .val (.long l2), .second, .val (.long l3), .second, .val (.ref o), .val (.int (1 : Int32)), .val (.int (1 : Int32)), .val (.long l1), .second, .unset, .unset, .unset, .unset, .unset, .unset, .unset] [])) _
            refine XS.aload X4.here hx rfl (hb hby at_111) rfl rfl ?_
            show Steps p.tables e below (T4.setTop (mkF m 113 #[.val (.long q0), .second, .val (.long q1), .second, .val (.int fl), .val (.long q3), .second, .val (.long q4), .second, .val (.long q5), .second, .val (.int (own_b b1)), .val (.int (own_b b2)), .val (.int (own_b two)), .val (.long l1), .second, .val (.long l2), .second, .val (.long l3), .second, .val (.ref o), .val (.int (1 : Int32)), .val (.int (1 : Int32)), .val (.long l1), .second, .unset, .unset, .unset, .unset, .unset, .unset, .unset] [(.ref o)])) _
            refine XS.lload X4.here hx rfl (hb hby at_113) rfl ?_
            exact k
          obtain ⟨cq20, kq20, q20a, q20b, q20c⟩ := isOf hZ rfl G3.1
          obtain ⟨_, _, ⟨T20, L20, k20, n20⟩, -, X20, ⟨Lc20, hQ20, l20, y20, z20⟩, st20⟩ := X4.virtualBack hx (y := (⟨"com/example/cairn/cairn/Groups", "end", "(J)V"⟩ : MethodName)) (z := (⟨"com/example/cairn/cairn/Groups", "end", "(J)V"⟩ : MethodName)) hown (mvT hZ (hw _ (List.mem_of_getElem? (i := 25) rfl))) (mvT hZ (hw _ (List.mem_of_getElem? (i := 26) rfl))) (notFace_of_selects (args := #[]) (mvT hZ (hw _ (List.mem_of_getElem? (i := 28) rfl)))) (mvT hZ (hw _ (List.mem_of_getElem? (i := 28) rfl))) (mvT hZ (hw _ (List.mem_of_getElem? (i := 27) rfl))) (by decide) (backOf (W := 0) (rm4 l Z a0 hw [] o l2 q0 1 l1 (own_ends 1 l1) 0 T4.heap n0 Zd G3 go) hZ (hw _ (List.mem_of_getElem? (i := 29) rfl)) (hw _ (List.mem_of_getElem? (i := 3) rfl)) (by decide) (by decide)) q20a q20c (g := (mkF m 115 #[.val (.long q0), .second, .val (.long q1), .second, .val (.int fl), .val (.long q3), .second, .val (.long q4), .second, .val (.long q5), .second, .val (.int (own_b b1)), .val (.int (own_b b2)), .val (.int (own_b two)), .val (.long l1), .second, .val (.long l2), .second, .val (.long l3), .second, .val (.ref o), .val (.int (1 : Int32)), .val (.int (1 : Int32)), .val (.long l1), .second, .unset, .unset, .unset, .unset, .unset, .unset, .unset] [(.long l2), (.ref o)])) rfl (by rw [hml]; rfl) (Steps.refl _) (argsL := [(.long l2)]) (rest := []) (lenOf pd_3 rfl) rfl (by show 2 * 0 + _ ≤ _; exact Nat.le_of_eq rfl) (hb hby at_115) (fun _ _ => ⟨rfl, rfl, (by decide : 1 + 0 ≤ _), (by decide : 5 + 0 ≤ _)⟩)
          dsimp only [Pt.U, Pt.locs, Pt.cells, Pt.slots] at X20 l20 y20 z20 st20 hQ20
          subst l20 y20 z20
          obtain ⟨rfl, N20q, K4, G4'⟩ := hQ20
          have N20 := Fr.app N4 N20q
          refine own_st (B := T20.setTop (mkF m 118 #[.val (.long q0), .second, .val (.long q1), .second, .val (.int fl), .val (.long q3), .second, .val (.long q4), .second, .val (.long q5), .second, .val (.int (own_b b1)), .val (.int (own_b b2)), .val (.int (own_b two)), .val (.long l1), .second, .val (.long l2), .second, .val (.long l3), .second, .val (.ref o), .val (.int (1 : Int32)), .val (.int (1 : Int32)), .val (.long l1), .second, .unset, .unset, .unset, .unset, .unset, .unset, .unset] [])) (fun t k => st20.trans k) ?_
          have Ze : n0 ≤ T20.heap.size := Nat.le_trans Zd K4.1
          refine own_st (B := T20.setTop (mkF m 128 #[.val (.long q0), .second, .val (.long q1), .second, .val (.int fl), .val (.long q3), .second, .val (.long q4), .second, .val (.long q5), .second, .val (.int (own_b b1)), .val (.int (own_b b2)), .val (.int (own_b two)), .val (.long l1), .second, .val (.long l2), .second, .val (.long l3), .second, .val (.ref o), .val (.int (1 : Int32)), .val (.int (2 : Int32)), .val (.long (l1 + l2)), .second, .unset, .unset, .unset, .unset, .unset, .unset, .unset] [])) (fun t k => ?_) ?_
          · show Steps p.tables e below (T20.setTop (mkF m 118 #[.val (.long q0), .second, .val (.long q1), .second, .val (.int fl), .val (.long q3), .second, .val (.long q4), .second, .val (.long q5), .second, .val (.int (own_b b1)), .val (.int (own_b b2)), .val (.int (own_b two)), .val (.long l1), .second, .val (.long l2), .second, .val (.long l3), .second, .val (.ref o), .val (.int (1 : Int32)), .val (.int (1 : Int32)), .val (.long l1), .second, .unset, .unset, .unset, .unset, .unset, .unset, .unset] [])) _
            refine XS.iconst X20.here hx rfl (hb hby at_118) ?_
            show Steps p.tables e below (T20.setTop (mkF m 119 #[.val (.long q0), .second, .val (.long q1), .second, .val (.int fl), .val (.long q3), .second, .val (.long q4), .second, .val (.long q5), .second, .val (.int (own_b b1)), .val (.int (own_b b2)), .val (.int (own_b two)), .val (.long l1), .second, .val (.long l2), .second, .val (.long l3), .second, .val (.ref o), .val (.int (1 : Int32)), .val (.int (1 : Int32)), .val (.long l1), .second, .unset, .unset, .unset, .unset, .unset, .unset, .unset] [(.int (2 : Int32))])) _
            refine XS.istore X20.here hx rfl (hb hby at_119) rfl (l' := #[.val (.long q0), .second, .val (.long q1), .second, .val (.int fl), .val (.long q3), .second, .val (.long q4), .second, .val (.long q5), .second, .val (.int (own_b b1)), .val (.int (own_b b2)), .val (.int (own_b two)), .val (.long l1), .second, .val (.long l2), .second, .val (.long l3), .second, .val (.ref o), .val (.int (1 : Int32)), .val (.int (2 : Int32)), .val (.long l1), .second, .unset, .unset, .unset, .unset, .unset, .unset, .unset]) rfl ?_
            show Steps p.tables e below (T20.setTop (mkF m 121 #[.val (.long q0), .second, .val (.long q1), .second, .val (.int fl), .val (.long q3), .second, .val (.long q4), .second, .val (.long q5), .second, .val (.int (own_b b1)), .val (.int (own_b b2)), .val (.int (own_b two)), .val (.long l1), .second, .val (.long l2), .second, .val (.long l3), .second, .val (.ref o), .val (.int (1 : Int32)), .val (.int (2 : Int32)), .val (.long l1), .second, .unset, .unset, .unset, .unset, .unset, .unset, .unset] [])) _
            refine XS.lload X20.here hx rfl (hb hby at_121) rfl ?_
            show Steps p.tables e below (T20.setTop (mkF m 123 #[.val (.long q0), .second, .val (.long q1), .second, .val (.int fl), .val (.long q3), .second, .val (.long q4), .second, .val (.long q5), .second, .val (.int (own_b b1)), .val (.int (own_b b2)), .val (.int (own_b two)), .val (.long l1), .second, .val (.long l2), .second, .val (.long l3), .second, .val (.ref o), .val (.int (1 : Int32)), .val (.int (2 : Int32)), .val (.long l1), .second, .unset, .unset, .unset, .unset, .unset, .unset, .unset] [(.long l1)])) _
            refine XS.lload X20.here hx rfl (hb hby at_123) rfl ?_
            show Steps p.tables e below (T20.setTop (mkF m 125 #[.val (.long q0), .second, .val (.long q1), .second, .val (.int fl), .val (.long q3), .second, .val (.long q4), .second, .val (.long q5), .second, .val (.int (own_b b1)), .val (.int (own_b b2)), .val (.int (own_b two)), .val (.long l1), .second, .val (.long l2), .second, .val (.long l3), .second, .val (.ref o), .val (.int (1 : Int32)), .val (.int (2 : Int32)), .val (.long l1), .second, .unset, .unset, .unset, .unset, .unset, .unset, .unset] [(.long l2), (.long l1)])) _
            refine XS.ladd X20.here hx rfl (hb hby at_125) rfl ?_
            show Steps p.tables e below (T20.setTop (mkF m 126 #[.val (.long q0), .second, .val (.long q1), .second, .val (.int fl), .val (.long q3), .second, .val (.long q4), .second, .val (.long q5), .second, .val (.int (own_b b1)), .val (.int (own_b b2)), .val (.int (own_b two)), .val (.long l1), .second, .val (.long l2), .second, .val (.long l3), .second, .val (.ref o), .val (.int (1 : Int32)), .val (.int (2 : Int32)), .val (.long l1), .second, .unset, .unset, .unset, .unset, .unset, .unset, .unset] [(.long (l1 + l2))])) _
            refine XS.lstore X20.here hx rfl (hb hby at_126) rfl (l' := #[.val (.long q0), .second, .val (.long q1), .second, .val (.int fl), .val (.long q3), .second, .val (.long q4), .second, .val (.long q5), .second, .val (.int (own_b b1)), .val (.int (own_b b2)), .val (.int (own_b two)), .val (.long l1), .second, .val (.long l2), .second, .val (.long l3), .second, .val (.ref o), .val (.int (1 : Int32)), .val (.int (2 : Int32)), .val (.long (l1 + l2)), .second, .unset, .unset, .unset, .unset, .unset, .unset, .unset]) rfl ?_
            exact k
          exact k128 _ _ X20 N20 Ze _ _ _ G4'
        · refine own_st (B := T4.setTop (mkF m 128 #[.val (.long q0), .second, .val (.long q1), .second, .val (.int fl), .val (.long q3), .second, .val (.long q4), .second, .val (.long q5), .second, .val (.int (own_b b1)), .val (.int (own_b b2)), .val (.int (own_b two)), .val (.long l1), .second, .val (.long l2), .second, .val (.long l3), .second, .val (.ref o), .val (.int (1 : Int32)), .val (.int (1 : Int32)), .val (.long l1), .second, .unset, .unset, .unset, .unset, .unset, .unset, .unset] [])) (fun t k => ?_) ?_
          · show Steps p.tables e below (T4.setTop (mkF m 108 #[.val (.long q0), .second, .val (.long q1), .second, .val (.int fl), .val (.long q3), .second, .val (.long q4), .second, .val (.long q5), .second, .val (.int (own_b b1)), .val (.int (own_b b2)), .val (.int (own_b two)), .val (.long l1), .second, .val (.long l2), .second, .val (.long l3), .second, .val (.ref o), .val (.int (1 : Int32)), .val (.int (1 : Int32)), .val (.long l1), .second, .unset, .unset, .unset, .unset, .unset, .unset, .unset] [(.int (own_b two))])) _
            refine XS.ifYes X4.here hx rfl (pc0 := 108) (pc' := 128) rfl (hb hby at_108) rfl ((if0 _ _).trans (teq (by rw [Bool.eq_false_iff.mpr h2]; rfl)).1) (by decide) (by decide) ?_
            exact k
          exact k128 _ _ X4 N4 Zd _ _ _ G3
      by_cases hm40 : (fl &&& (4 : Int32)) = (0 : Int32)
      · refine own_st (B := s₁.setTop (mkF m 40 #[.val (.long q0), .second, .val (.long q1), .second, .val (.int fl), .val (.long q3), .second, .val (.long q4), .second, .val (.long q5), .second, .val (.int (own_b b1)), .val (.int (own_b b2)), .unset, .unset, .unset, .unset, .unset, .unset, .unset, .unset, .unset, .unset, .unset, .unset, .unset, .unset, .unset, .unset, .unset, .unset, .unset] [(.int (0 : Int32))])) (fun t k => ?_) ?_
        · show Steps p.tables e below (s₁.setTop (mkF m 32 #[.val (.long q0), .second, .val (.long q1), .second, .val (.int fl), .val (.long q3), .second, .val (.long q4), .second, .val (.long q5), .second, .val (.int (own_b b1)), .val (.int (own_b b2)), .unset, .unset, .unset, .unset, .unset, .unset, .unset, .unset, .unset, .unset, .unset, .unset, .unset, .unset, .unset, .unset, .unset, .unset, .unset] [(.int (fl &&& (4 : Int32)))])) _
          refine XS.ifYes X0.here hx rfl (pc0 := 32) (pc' := 39) rfl (hb hby at_32) rfl ((if0 _ _).trans (teq hm40).1) (by decide) (by decide) ?_
          show Steps p.tables e below (s₁.setTop (mkF m 39 #[.val (.long q0), .second, .val (.long q1), .second, .val (.int fl), .val (.long q3), .second, .val (.long q4), .second, .val (.long q5), .second, .val (.int (own_b b1)), .val (.int (own_b b2)), .unset, .unset, .unset, .unset, .unset, .unset, .unset, .unset, .unset, .unset, .unset, .unset, .unset, .unset, .unset, .unset, .unset, .unset, .unset] [])) _
          refine XS.iconst X0.here hx rfl (hb hby at_39) ?_
          exact k
        exact k40 false
      · refine own_st (B := s₁.setTop (mkF m 40 #[.val (.long q0), .second, .val (.long q1), .second, .val (.int fl), .val (.long q3), .second, .val (.long q4), .second, .val (.long q5), .second, .val (.int (own_b b1)), .val (.int (own_b b2)), .unset, .unset, .unset, .unset, .unset, .unset, .unset, .unset, .unset, .unset, .unset, .unset, .unset, .unset, .unset, .unset, .unset, .unset, .unset] [(.int (1 : Int32))])) (fun t k => ?_) ?_
        · show Steps p.tables e below (s₁.setTop (mkF m 32 #[.val (.long q0), .second, .val (.long q1), .second, .val (.int fl), .val (.long q3), .second, .val (.long q4), .second, .val (.long q5), .second, .val (.int (own_b b1)), .val (.int (own_b b2)), .unset, .unset, .unset, .unset, .unset, .unset, .unset, .unset, .unset, .unset, .unset, .unset, .unset, .unset, .unset, .unset, .unset, .unset, .unset] [(.int (fl &&& (4 : Int32)))])) _
          refine XS.ifNo X0.here hx rfl (hb hby at_32) rfl ((if0 _ _).trans (feq hm40).1) ?_
          show Steps p.tables e below (s₁.setTop (mkF m 35 #[.val (.long q0), .second, .val (.long q1), .second, .val (.int fl), .val (.long q3), .second, .val (.long q4), .second, .val (.long q5), .second, .val (.int (own_b b1)), .val (.int (own_b b2)), .unset, .unset, .unset, .unset, .unset, .unset, .unset, .unset, .unset, .unset, .unset, .unset, .unset, .unset, .unset, .unset, .unset, .unset, .unset] [])) _
          refine XS.iconst X0.here hx rfl (hb hby at_35) ?_
          show Steps p.tables e below (s₁.setTop (mkF m 36 #[.val (.long q0), .second, .val (.long q1), .second, .val (.int fl), .val (.long q3), .second, .val (.long q4), .second, .val (.long q5), .second, .val (.int (own_b b1)), .val (.int (own_b b2)), .unset, .unset, .unset, .unset, .unset, .unset, .unset, .unset, .unset, .unset, .unset, .unset, .unset, .unset, .unset, .unset, .unset, .unset, .unset] [(.int (1 : Int32))])) _
          refine XS.goto X0.here hx rfl (pc0 := 36) (pc' := 40) rfl (hb hby at_36) (by decide) (by decide) ?_
          exact k
        exact k40 true
    by_cases hm26 : (fl &&& (2 : Int32)) = (0 : Int32)
    · refine own_st (B := s₁.setTop (mkF m 26 #[.val (.long q0), .second, .val (.long q1), .second, .val (.int fl), .val (.long q3), .second, .val (.long q4), .second, .val (.long q5), .second, .val (.int (own_b b1)), .unset, .unset, .unset, .unset, .unset, .unset, .unset, .unset, .unset, .unset, .unset, .unset, .unset, .unset, .unset, .unset, .unset, .unset, .unset, .unset] [(.int (0 : Int32))])) (fun t k => ?_) ?_
      · show Steps p.tables e below (s₁.setTop (mkF m 18 #[.val (.long q0), .second, .val (.long q1), .second, .val (.int fl), .val (.long q3), .second, .val (.long q4), .second, .val (.long q5), .second, .val (.int (own_b b1)), .unset, .unset, .unset, .unset, .unset, .unset, .unset, .unset, .unset, .unset, .unset, .unset, .unset, .unset, .unset, .unset, .unset, .unset, .unset, .unset] [(.int (fl &&& (2 : Int32)))])) _
        refine XS.ifYes X0.here hx rfl (pc0 := 18) (pc' := 25) rfl (hb hby at_18) rfl ((if0 _ _).trans (teq hm26).1) (by decide) (by decide) ?_
        show Steps p.tables e below (s₁.setTop (mkF m 25 #[.val (.long q0), .second, .val (.long q1), .second, .val (.int fl), .val (.long q3), .second, .val (.long q4), .second, .val (.long q5), .second, .val (.int (own_b b1)), .unset, .unset, .unset, .unset, .unset, .unset, .unset, .unset, .unset, .unset, .unset, .unset, .unset, .unset, .unset, .unset, .unset, .unset, .unset, .unset] [])) _
        refine XS.iconst X0.here hx rfl (hb hby at_25) ?_
        exact k
      exact k26 false
    · refine own_st (B := s₁.setTop (mkF m 26 #[.val (.long q0), .second, .val (.long q1), .second, .val (.int fl), .val (.long q3), .second, .val (.long q4), .second, .val (.long q5), .second, .val (.int (own_b b1)), .unset, .unset, .unset, .unset, .unset, .unset, .unset, .unset, .unset, .unset, .unset, .unset, .unset, .unset, .unset, .unset, .unset, .unset, .unset, .unset] [(.int (1 : Int32))])) (fun t k => ?_) ?_
      · show Steps p.tables e below (s₁.setTop (mkF m 18 #[.val (.long q0), .second, .val (.long q1), .second, .val (.int fl), .val (.long q3), .second, .val (.long q4), .second, .val (.long q5), .second, .val (.int (own_b b1)), .unset, .unset, .unset, .unset, .unset, .unset, .unset, .unset, .unset, .unset, .unset, .unset, .unset, .unset, .unset, .unset, .unset, .unset, .unset, .unset] [(.int (fl &&& (2 : Int32)))])) _
        refine XS.ifNo X0.here hx rfl (hb hby at_18) rfl ((if0 _ _).trans (feq hm26).1) ?_
        show Steps p.tables e below (s₁.setTop (mkF m 21 #[.val (.long q0), .second, .val (.long q1), .second, .val (.int fl), .val (.long q3), .second, .val (.long q4), .second, .val (.long q5), .second, .val (.int (own_b b1)), .unset, .unset, .unset, .unset, .unset, .unset, .unset, .unset, .unset, .unset, .unset, .unset, .unset, .unset, .unset, .unset, .unset, .unset, .unset, .unset] [])) _
        refine XS.iconst X0.here hx rfl (hb hby at_21) ?_
        show Steps p.tables e below (s₁.setTop (mkF m 22 #[.val (.long q0), .second, .val (.long q1), .second, .val (.int fl), .val (.long q3), .second, .val (.long q4), .second, .val (.long q5), .second, .val (.int (own_b b1)), .unset, .unset, .unset, .unset, .unset, .unset, .unset, .unset, .unset, .unset, .unset, .unset, .unset, .unset, .unset, .unset, .unset, .unset, .unset, .unset] [(.int (1 : Int32))])) _
        refine XS.goto X0.here hx rfl (pc0 := 22) (pc' := 26) rfl (hb hby at_22) (by decide) (by decide) ?_
        exact k
      exact k26 true
  by_cases hm12 : (fl &&& (1 : Int32)) = (0 : Int32)
  · refine own_st (B := s₁.setTop (mkF m 12 #[.val (.long q0), .second, .val (.long q1), .second, .val (.int fl), .val (.long q3), .second, .val (.long q4), .second, .val (.long q5), .second, .unset, .unset, .unset, .unset, .unset, .unset, .unset, .unset, .unset, .unset, .unset, .unset, .unset, .unset, .unset, .unset, .unset, .unset, .unset, .unset, .unset] [(.int (0 : Int32))])) (fun t k => ?_) ?_
    · show Steps p.tables e below (s₁.setTop (mkF m 4 #[.val (.long q0), .second, .val (.long q1), .second, .val (.int fl), .val (.long q3), .second, .val (.long q4), .second, .val (.long q5), .second, .unset, .unset, .unset, .unset, .unset, .unset, .unset, .unset, .unset, .unset, .unset, .unset, .unset, .unset, .unset, .unset, .unset, .unset, .unset, .unset, .unset] [(.int (fl &&& (1 : Int32)))])) _
      refine XS.ifYes X0.here hx rfl (pc0 := 4) (pc' := 11) rfl (hb hby at_4) rfl ((if0 _ _).trans (teq hm12).1) (by decide) (by decide) ?_
      show Steps p.tables e below (s₁.setTop (mkF m 11 #[.val (.long q0), .second, .val (.long q1), .second, .val (.int fl), .val (.long q3), .second, .val (.long q4), .second, .val (.long q5), .second, .unset, .unset, .unset, .unset, .unset, .unset, .unset, .unset, .unset, .unset, .unset, .unset, .unset, .unset, .unset, .unset, .unset, .unset, .unset, .unset, .unset] [])) _
      refine XS.iconst X0.here hx rfl (hb hby at_11) ?_
      exact k
    exact k12 false
  · refine own_st (B := s₁.setTop (mkF m 12 #[.val (.long q0), .second, .val (.long q1), .second, .val (.int fl), .val (.long q3), .second, .val (.long q4), .second, .val (.long q5), .second, .unset, .unset, .unset, .unset, .unset, .unset, .unset, .unset, .unset, .unset, .unset, .unset, .unset, .unset, .unset, .unset, .unset, .unset, .unset, .unset, .unset] [(.int (1 : Int32))])) (fun t k => ?_) ?_
    · show Steps p.tables e below (s₁.setTop (mkF m 4 #[.val (.long q0), .second, .val (.long q1), .second, .val (.int fl), .val (.long q3), .second, .val (.long q4), .second, .val (.long q5), .second, .unset, .unset, .unset, .unset, .unset, .unset, .unset, .unset, .unset, .unset, .unset, .unset, .unset, .unset, .unset, .unset, .unset, .unset, .unset, .unset, .unset] [(.int (fl &&& (1 : Int32)))])) _
      refine XS.ifNo X0.here hx rfl (hb hby at_4) rfl ((if0 _ _).trans (feq hm12).1) ?_
      show Steps p.tables e below (s₁.setTop (mkF m 7 #[.val (.long q0), .second, .val (.long q1), .second, .val (.int fl), .val (.long q3), .second, .val (.long q4), .second, .val (.long q5), .second, .unset, .unset, .unset, .unset, .unset, .unset, .unset, .unset, .unset, .unset, .unset, .unset, .unset, .unset, .unset, .unset, .unset, .unset, .unset, .unset, .unset] [])) _
      refine XS.iconst X0.here hx rfl (hb hby at_7) ?_
      show Steps p.tables e below (s₁.setTop (mkF m 8 #[.val (.long q0), .second, .val (.long q1), .second, .val (.int fl), .val (.long q3), .second, .val (.long q4), .second, .val (.long q5), .second, .unset, .unset, .unset, .unset, .unset, .unset, .unset, .unset, .unset, .unset, .unset, .unset, .unset, .unset, .unset, .unset, .unset, .unset, .unset, .unset, .unset] [(.int (1 : Int32))])) _
      refine XS.goto X0.here hx rfl (pc0 := 8) (pc' := 12) rfl (hb hby at_8) (by decide) (by decide) ?_
      exact k
    exact k12 true
set_option maxRecDepth 65536 in
set_option maxHeartbeats 40000000 in
theorem comes_1 {Post : Tables → Env → Array Value → State → Outcome → State → Prop} (hpost : ∀ tb e args s v u, (limb_1_1.after args s (.returned v) u = true ∧ limb_1_2.after args s (.returned v) u = true) → FrameEnd s (.returned v) u (Jvm.fieldLocs frame_1_writes args s ++ Jvm.arrayLocs frame_1_arrays args s ++ Jvm.staticLocs frame_1_statics s) 16 128 → Post tb e args s (.returned v) u) :
    ArmFor flags0 classFile x code maxLocals ret World_1 tables_1 room_1 Calls_1 rest_1 Pre_1 Post := by
  intro l hfl _ _ p e ha hc hk s m args below hf hA hF happ hP
  obtain ⟨hcalls, hrest, hpre⟩ := hP
  obtain ⟨-, -, -, hnamed, -, -, -, hat⟩ := (Spec.applies_iff hf).mp happ
  obtain ⟨hg, hn⟩ := and_e (Cond.before_iff.mp (show (Jvm.Cond.and given_1 narrow_1).before args s = true from hpre))
  obtain ⟨gc, g0⟩ := and_e hg
  obtain ⟨ga0, g1⟩ := and_e g0
  obtain ⟨ga1, g2⟩ := and_e g1
  obtain ⟨ga2, g3⟩ := and_e g2
  obtain ⟨ga3, g4⟩ := and_e g3
  obtain ⟨ga4, g5⟩ := and_e g4
  have ga5 := g5
  obtain ⟨w0, w1, w2, w3, w4, w5, rfl⟩ : ∃ w0 w1 w2 w3 w4 w5 : Value, args = #[w0, w1, w2, w3, w4, w5] := by
    have hs : args.size = 6 := by simpa [Cond.value, given_1] using gc
    obtain ⟨L⟩ := args
    match L, hs with
    | [w0, w1, w2, w3, w4, w5], _ => exact ⟨w0, w1, w2, w3, w4, w5, rfl⟩
  have hw := fun d (hd : d ∈ tables_1) => atoms_spec (ws := Jvm.Cond.code x code maxLocals ret :: tables_1) hat d (List.mem_cons_of_mem _ hd)
  obtain ⟨i0, ei0⟩ := isL_v ga0
  obtain rfl : w0 = (.long i0) := Option.some.inj ei0
  obtain ⟨i1, ei1⟩ := isL_v ga1
  obtain rfl : w1 = (.long i1) := Option.some.inj ei1
  obtain ⟨i2, ei2⟩ := is_v ga2
  obtain rfl : w2 = (.int i2) := Option.some.inj ei2
  obtain ⟨i3, ei3⟩ := isL_v ga3
  obtain rfl : w3 = (.long i3) := Option.some.inj ei3
  obtain ⟨i4, ei4⟩ := isL_v ga4
  obtain rfl : w4 = (.long i4) := Option.some.inj ei4
  obtain ⟨i5, ei5⟩ := isL_v ga5
  obtain rfl : w5 = (.long i5) := Option.some.inj ei5
  obtain ⟨n, o, h1, h2, h3, _, L, rfl, ⟨rfl, N⟩, hq⟩ := rm0 l s _ hw tables_1 i0 i1 i2 i3 i4 i5 s.heap s.heap.size (Nat.le_refl _) p e ha hc hk s m _ below hf ((Spec.applies_iff_loose hf).mp happ).1 ⟨rfl, State.Warmed39.refl s, rfl⟩ trivial
  refine ⟨n, _, h1, h2, h3, hpost _ _ _ _ _ _ ⟨Cond.after_iff.mpr rfl, Cond.after_iff.mpr (eq_i res_at (Term.int_eval (1)) rfl)⟩ ⟨hq.1, hq.2.1, (hq.2.2.sift fun y hy => Or.inr (N y hy)).mono (by decide) (by decide)⟩⟩
theorem main_1_1 : Claimed_1_1 := comes_1 fun _ _ _ _ _ _ h hF => ⟨h.1, hF⟩
theorem main_1_2 : Claimed_1_2 := comes_1 fun _ _ _ _ _ _ h hF => ⟨h.2, hF⟩
end Jvm.Pilot.@@N@@
namespace Jvm.Pilot.@@N@@
open Jvm Jvm.ClassFile Sem Op Lib Jvm.Free Jvm.Stand Jvm.Pilot.@@N@@.Jvm.D
/-! MADE BY PROGRAM (witnessworld.py) out of the Statement's table words and the real class files: 10 classes; the members and pool entries that the words name. The judged class is class 1, her method 1. -/
namespace start1
open Jvm.ClassFile
def u (s : String) : CpInfo := .utf8 (stringToUtf16 s)
/-- a pool by its gaps: so many unusable entries, then the entry; so many at the end -/
def gap : Nat → List CpInfo → List CpInfo
  | 0, r => r
  | n + 1, r => .unusable :: gap n r
def poolList (es : List (Nat × CpInfo)) (last : Nat) : List CpInfo := es.foldr (fun e r => gap e.1 (e.2 :: r)) (gap last [])
def pool (es : List (Nat × CpInfo)) (last : Nat) : Array CpInfo := ⟨poolList es last⟩
def fileOf (pool : Array CpInfo) (this : Nat) (attrs : Array Attribute := #[]) (ms : Array MethodInfo := #[]) (fl : Nat := 33) (sup : Nat := 0) (ifs : Array Nat := #[]) (fds : Array FieldInfo := #[]) : ClassFile where
  minorVersion := 0
  majorVersion := 65
  constantPool := pool
  accessFlags := fl
  thisClass := this
  superClass := sup
  interfaces := ifs
  fields := fds
  methods := ms
  attributes := attrs
def plain (name : String) (sup : Option ClassId) : Class where
  name := name
  kind := .ordinary
  loader := none
  accessFlags := 33
  super := sup
  interfaces := #[]
  cf := none
  fields := #[]
  methods := #[]
  instanceTypes := #[]
  staticTypes := #[]
  resolved := #[]
  callSites := []
  init := .initialized
  statics := none
  mirror := none

def pool0 : Array CpInfo := pool [(5, u "<init>"), (0, u "()V"), (1, .class_ 10), (1, u "java/lang/Object")] 113

def k0c0 : Code := { maxStack := 0, maxLocals := 1, code := object_method_1_code, exceptionTable := #[], attributes := #[] }
def k0m0 : Method := { name := "<init>", desc := "()V", sig := { parameters := [], returnType := none }, accessFlags := 1, code := some k0c0 }
/-- java/lang/Object -/
def k0 : Class := { plain "java/lang/Object" none with
  accessFlags := 33
  interfaces := #[]
  cf := some (fileOf pool0 8 #[] #[{ accessFlags := 1, nameIndex := 5, descriptorIndex := 6, attributes := #[] }] 33 0 #[] #[])
  fields := #[]
  methods := #[k0m0]
  instanceTypes := #[]
  staticTypes := #[]
  resolved := Array.replicate 124 none
  statics := none }

def pool1 : Array CpInfo := pool [(2, .class_ 4), (0, .nameAndType 5 6), (0, u "java/lang/Object"), (0, u "<init>"), (0, u "()V"), (0, .long 127), (1, .class_ 10), (0, u "com/example/cairn/cairn/Groups"), (0, .methodref 9 3), (0, .methodref 9 13), (0, .nameAndType 14 15), (0, u "start"), (0, u "(JZ)Z"), (0, .methodref 9 17), (0, .nameAndType 18 19), (0, u "end"), (0, u "(J)V"), (0, .methodref 9 21), (0, .nameAndType 22 23), (0, u "ended"), (0, u "()Z"), (0, .methodref 9 25), (0, .nameAndType 26 27), (0, u "group"), (0, u "()J"), (0, .methodref 9 29), (0, .nameAndType 30 31), (0, u "place"), (0, u "()I"), (0, .methodref 33 34), (0, .class_ 35), (0, .nameAndType 36 37), (0, u "com/example/cairn/cairn/GroupsStartPinLaw"), (0, u "ends"), (0, u "(IJ)Z"), (2, .long 80), (3, u "law"), (0, u "(JJIJJJ)Z")] 3

def k1m0 : Method := { name := "<init>", desc := "()V", sig := { parameters := [], returnType := none }, accessFlags := 1, code := none }
def k1c1 : Code := { maxStack := 5, maxLocals := 32, code := code, exceptionTable := #[], attributes := #[] }
def k1m1 : Method := { name := "law", desc := "(JJIJJJ)Z", sig := { parameters := [.long, .long, .int, .long, .long, .long], returnType := some .boolean }, accessFlags := 9, code := some k1c1 }
def k1c2 : Code := { maxStack := 4, maxLocals := 3, code := method_3_code, exceptionTable := #[], attributes := #[] }
def k1m2 : Method := { name := "ends", desc := "(IJ)Z", sig := { parameters := [.int, .long], returnType := some .boolean }, accessFlags := 10, code := some k1c2 }
/-- com/example/cairn/cairn/GroupsStartPinLaw -/
def k1 : Class := { plain "com/example/cairn/cairn/GroupsStartPinLaw" (some 0) with
  accessFlags := 49
  interfaces := #[]
  cf := some (fileOf pool1 33 #[] #[{ accessFlags := 1, nameIndex := 5, descriptorIndex := 6, attributes := #[] }, { accessFlags := 9, nameIndex := 44, descriptorIndex := 45, attributes := #[] }, { accessFlags := 10, nameIndex := 36, descriptorIndex := 37, attributes := #[] }] 49 2 #[] #[])
  fields := #[]
  methods := #[k1m0, k1m1, k1m2]
  instanceTypes := #[]
  staticTypes := #[]
  resolved := Array.replicate 49 none
  statics := none }

def pool2 : Array CpInfo := pool [(1, .methodref 2 3), (0, .class_ 4), (0, .nameAndType 5 6), (0, u "java/lang/Object"), (0, u "<init>"), (0, u "()V"), (0, .fieldref 8 9), (0, .class_ 10), (0, .nameAndType 11 12), (0, u "com/example/cairn/cairn/Groups"), (0, u "ended"), (0, u "Z"), (0, .fieldref 8 14), (0, .nameAndType 15 16), (0, u "group"), (0, u "J"), (0, .fieldref 8 18), (0, .nameAndType 19 20), (0, u "records"), (0, u "I"), (0, .fieldref 8 22), (0, .nameAndType 23 16), (0, u "bytes"), (0, .fieldref 8 25), (0, .nameAndType 26 20), (0, u "place"), (0, .methodref 28 29), (0, .class_ 30), (0, .nameAndType 31 32), (0, u "com/example/cairn/cairn/Records"), (0, u "endsGroup"), (0, u "(IJ)Z"), (2, u "start"), (0, u "(JZ)Z"), (2, u "end"), (0, u "(J)V"), (0, u "()Z"), (0, u "()J"), (0, u "()I")] 2

def k2c0 : Code := { maxStack := 2, maxLocals := 1, code := prog_45_method_1_code, exceptionTable := #[], attributes := #[] }
def k2m0 : Method := { name := "<init>", desc := "()V", sig := { parameters := [], returnType := none }, accessFlags := 0, code := some k2c0 }
def k2c1 : Code := { maxStack := 3, maxLocals := 5, code := prog_45_method_2_code, exceptionTable := #[], attributes := #[] }
def k2m1 : Method := { name := "start", desc := "(JZ)Z", sig := { parameters := [.long, .boolean], returnType := some .boolean }, accessFlags := 0, code := some k2c1 }
def k2c2 : Code := { maxStack := 5, maxLocals := 3, code := prog_45_method_4_code, exceptionTable := #[], attributes := #[] }
def k2m2 : Method := { name := "end", desc := "(J)V", sig := { parameters := [.long], returnType := none }, accessFlags := 0, code := some k2c2 }
def k2c3 : Code := { maxStack := 1, maxLocals := 1, code := prog_45_method_5_code, exceptionTable := #[], attributes := #[] }
def k2m3 : Method := { name := "ended", desc := "()Z", sig := { parameters := [], returnType := some .boolean }, accessFlags := 0, code := some k2c3 }
def k2c4 : Code := { maxStack := 2, maxLocals := 1, code := prog_45_method_6_code, exceptionTable := #[], attributes := #[] }
def k2m4 : Method := { name := "group", desc := "()J", sig := { parameters := [], returnType := some .long }, accessFlags := 0, code := some k2c4 }
def k2c5 : Code := { maxStack := 1, maxLocals := 1, code := prog_45_method_7_code, exceptionTable := #[], attributes := #[] }
def k2m5 : Method := { name := "place", desc := "()I", sig := { parameters := [], returnType := some .int }, accessFlags := 0, code := some k2c5 }
/-- com/example/cairn/cairn/Groups -/
def k2 : Class := { plain "com/example/cairn/cairn/Groups" (some 0) with
  accessFlags := 48
  interfaces := #[]
  cf := some (fileOf pool2 8 #[] #[{ accessFlags := 0, nameIndex := 5, descriptorIndex := 6, attributes := #[] }, { accessFlags := 0, nameIndex := 35, descriptorIndex := 36, attributes := #[] }, { accessFlags := 0, nameIndex := 39, descriptorIndex := 40, attributes := #[] }, { accessFlags := 0, nameIndex := 11, descriptorIndex := 41, attributes := #[] }, { accessFlags := 0, nameIndex := 15, descriptorIndex := 42, attributes := #[] }, { accessFlags := 0, nameIndex := 26, descriptorIndex := 43, attributes := #[] }] 48 2 #[] #[{ accessFlags := 2, nameIndex := 11, descriptorIndex := 12, attributes := #[] }, { accessFlags := 2, nameIndex := 15, descriptorIndex := 16, attributes := #[] }, { accessFlags := 2, nameIndex := 19, descriptorIndex := 20, attributes := #[] }, { accessFlags := 2, nameIndex := 23, descriptorIndex := 16, attributes := #[] }, { accessFlags := 2, nameIndex := 26, descriptorIndex := 20, attributes := #[] }])
  fields := #[{ name := "ended", type := .boolean, accessFlags := 2, slot := 0, constantValue := 0 }, { name := "group", type := .long, accessFlags := 2, slot := 1, constantValue := 0 }, { name := "records", type := .int, accessFlags := 2, slot := 2, constantValue := 0 }, { name := "bytes", type := .long, accessFlags := 2, slot := 3, constantValue := 0 }, { name := "place", type := .int, accessFlags := 2, slot := 4, constantValue := 0 }]
  methods := #[k2m0, k2m1, k2m2, k2m3, k2m4, k2m5]
  instanceTypes := #[.boolean, .long, .int, .long, .int]
  staticTypes := #[]
  resolved := Array.replicate 46 none
  statics := none }

def pool3 : Array CpInfo := pool [(1, .class_ 2), (0, u "com/example/cairn/cairn/Records"), (5, .class_ 10), (1, u "java/lang/Object"), (8, u "breaksRanges"), (0, u "Lcom/example/cairn/cairn/DeletedRanges$Refusal;"), (2, u "file"), (0, u "Lcom/example/cairn/cairn/TableFile;"), (2, u "timed"), (0, u "Z"), (2, u "partitionNumbersSize"), (3, u "I"), (2, u "dataEnd"), (0, u "J"), (2, u "rowIndexStart"), (2, u "rowIndexEnd"), (0, .long 80), (9, u "BOUNDS"), (0, u "[Lcom/example/cairn/cairn/KeyRange$Bound;"), (2, u "KIND_RULES"), (0, u "[Lcom/example/cairn/cairn/Records$KindRule;"), (1, .class_ 65), (1, u "com/example/cairn/cairn/Records$KindRule"), (48, u "EXPIRING"), (44, .class_ 161), (1, u "com/example/cairn/cairn/Records$PartitionState"), (33, .class_ 197), (1, u "com/example/cairn/cairn/Records$PartitionRecord"), (42, u "UNTIMED"), (24, .class_ 266), (0, u "com/example/cairn/cairn/Records$EntryNumbers"), (58, .class_ 327), (1, u "com/example/cairn/cairn/Records$Found"), (50, u "endsGroup"), (0, u "(IJ)Z"), (65, .class_ 446), (0, u "com/example/cairn/cairn/Records$Reader"), (79, u "KINDS"), (56, u "KEY_LENGTH_BYTES"), (2, u "VALUE_LENGTH_BYTES"), (1, u "LOOKAHEAD"), (1, u "GROUP_ENTRIES"), (1, u "GROUP_BYTES"), (1, u "TIMESTAMP_WIDTH"), (1, u "LEAST_TIMED_NUMBERS"), (1, u "MOST_TIMED_NUMBERS"), (1, u "ROWS_LENGTH_AT"), (1, u "ROWS_LENGTH_WIDTH"), (0, u "ROOT_AT"), (0, u "ROOT_WIDTH"), (0, u "PARTITION_NUMBERS_SIZE"), (1, u "FLAGS_AT"), (0, u "DELETION_AT"), (1, u "DELETION_WIDTH"), (0, u "START_DELETION_AT"), (0, u "START_DELETION_WIDTH"), (0, u "TIMED_PARTITION_NUMBERS_SIZE"), (1, u "LAST_EXPIRY_WIDTH"), (0, u "DELETED"), (1, u "LIVE"), (0, u "RANGED"), (1, u "STARTS_DELETED"), (0, u "EXPIRING_LIVE"), (1, u "ROW"), (0, u "ROW_DELETION"), (0, u "FIRST_BOUND"), (0, u "KIND_BITS"), (1, u "WIDTH_SHIFT"), (0, u "WIDTH_BITS"), (0, u "MARK_BITS"), (1, u "UNMARKED"), (0, u "MARKED_CLOSED"), (1, u "MARKED_OPEN"), (1, u "MAX_KEY_LENGTH"), (0, u "MAX_VALUE_LENGTH"), (0, u "CUT_SHORT"), (0, u "NOT_A_LENGTH"), (0, u "SIZE_BITS"), (0, u "SHORT_SIZE"), (0, u "SHORT_SHARED_BITS"), (0, u "SHORT_REST_BITS"), (0, u "SHORT_VALUE_BITS"), (0, u "SHORT_MOST_SHARED"), (1, u "SHORT_MOST_REST"), (0, u "SHORT_MOST_VALUE"), (1, u "SHORT_FORM"), (0, u "GROUP_READ"), (1, u "MANY_SHARED"), (0, u "LONG_SMALL_SIZE"), (0, u "LONG_MOST_SIZE"), (1, u "NOT_SMALL"), (0, u "SMALL_FIELD"), (0, u "SMALL_FIELD_BITS"), (1, u "BELOW"), (0, u "SAME"), (0, u "ABOVE"), (0, u "ORDER_WIDTH"), (0, u "ORDER_BITS")] 104

def k3c0 : Code := { maxStack := 4, maxLocals := 3, code := prog_88_method_2_code, exceptionTable := #[], attributes := #[] }
def k3m0 : Method := { name := "endsGroup", desc := "(IJ)Z", sig := { parameters := [.int, .long], returnType := some .boolean }, accessFlags := 8, code := some k3c0 }
/-- com/example/cairn/cairn/Records -/
def k3 : Class := { plain "com/example/cairn/cairn/Records" (some 0) with
  accessFlags := 48
  interfaces := #[]
  cf := some (fileOf pool3 1 #[.nestMembers #[159, 195, 63, 445, 325, 265]] #[{ accessFlags := 8, nameIndex := 378, descriptorIndex := 379, attributes := #[] }] 48 8 #[] #[{ accessFlags := 26, nameIndex := 583, descriptorIndex := 35, attributes := #[] }, { accessFlags := 26, nameIndex := 586, descriptorIndex := 35, attributes := #[] }, { accessFlags := 24, nameIndex := 588, descriptorIndex := 35, attributes := #[] }, { accessFlags := 24, nameIndex := 590, descriptorIndex := 35, attributes := #[] }, { accessFlags := 24, nameIndex := 592, descriptorIndex := 35, attributes := #[] }, { accessFlags := 26, nameIndex := 594, descriptorIndex := 35, attributes := #[] }, { accessFlags := 26, nameIndex := 596, descriptorIndex := 35, attributes := #[] }, { accessFlags := 26, nameIndex := 598, descriptorIndex := 35, attributes := #[] }, { accessFlags := 26, nameIndex := 600, descriptorIndex := 35, attributes := #[] }, { accessFlags := 26, nameIndex := 602, descriptorIndex := 35, attributes := #[] }, { accessFlags := 26, nameIndex := 603, descriptorIndex := 35, attributes := #[] }, { accessFlags := 26, nameIndex := 604, descriptorIndex := 35, attributes := #[] }, { accessFlags := 26, nameIndex := 605, descriptorIndex := 35, attributes := #[] }, { accessFlags := 26, nameIndex := 607, descriptorIndex := 35, attributes := #[] }, { accessFlags := 26, nameIndex := 608, descriptorIndex := 35, attributes := #[] }, { accessFlags := 26, nameIndex := 610, descriptorIndex := 35, attributes := #[] }, { accessFlags := 26, nameIndex := 611, descriptorIndex := 35, attributes := #[] }, { accessFlags := 26, nameIndex := 612, descriptorIndex := 35, attributes := #[] }, { accessFlags := 26, nameIndex := 613, descriptorIndex := 35, attributes := #[] }, { accessFlags := 26, nameIndex := 615, descriptorIndex := 35, attributes := #[] }, { accessFlags := 26, nameIndex := 616, descriptorIndex := 35, attributes := #[] }, { accessFlags := 26, nameIndex := 618, descriptorIndex := 35, attributes := #[] }, { accessFlags := 26, nameIndex := 619, descriptorIndex := 35, attributes := #[] }, { accessFlags := 26, nameIndex := 621, descriptorIndex := 35, attributes := #[] }, { accessFlags := 26, nameIndex := 622, descriptorIndex := 35, attributes := #[] }, { accessFlags := 24, nameIndex := 240, descriptorIndex := 35, attributes := #[] }, { accessFlags := 24, nameIndex := 624, descriptorIndex := 35, attributes := #[] }, { accessFlags := 24, nameIndex := 625, descriptorIndex := 35, attributes := #[] }, { accessFlags := 26, nameIndex := 626, descriptorIndex := 35, attributes := #[] }, { accessFlags := 26, nameIndex := 56, descriptorIndex := 57, attributes := #[] }, { accessFlags := 24, nameIndex := 114, descriptorIndex := 35, attributes := #[] }, { accessFlags := 26, nameIndex := 60, descriptorIndex := 61, attributes := #[] }, { accessFlags := 24, nameIndex := 526, descriptorIndex := 35, attributes := #[] }, { accessFlags := 26, nameIndex := 627, descriptorIndex := 35, attributes := #[] }, { accessFlags := 26, nameIndex := 629, descriptorIndex := 35, attributes := #[] }, { accessFlags := 26, nameIndex := 630, descriptorIndex := 35, attributes := #[] }, { accessFlags := 26, nameIndex := 631, descriptorIndex := 35, attributes := #[] }, { accessFlags := 24, nameIndex := 633, descriptorIndex := 35, attributes := #[] }, { accessFlags := 24, nameIndex := 634, descriptorIndex := 35, attributes := #[] }, { accessFlags := 24, nameIndex := 636, descriptorIndex := 35, attributes := #[] }, { accessFlags := 24, nameIndex := 638, descriptorIndex := 35, attributes := #[] }, { accessFlags := 24, nameIndex := 639, descriptorIndex := 35, attributes := #[] }, { accessFlags := 26, nameIndex := 640, descriptorIndex := 39, attributes := #[] }, { accessFlags := 26, nameIndex := 641, descriptorIndex := 39, attributes := #[] }, { accessFlags := 26, nameIndex := 642, descriptorIndex := 35, attributes := #[] }, { accessFlags := 26, nameIndex := 643, descriptorIndex := 35, attributes := #[] }, { accessFlags := 26, nameIndex := 644, descriptorIndex := 35, attributes := #[] }, { accessFlags := 26, nameIndex := 645, descriptorIndex := 35, attributes := #[] }, { accessFlags := 26, nameIndex := 646, descriptorIndex := 35, attributes := #[] }, { accessFlags := 26, nameIndex := 647, descriptorIndex := 35, attributes := #[] }, { accessFlags := 26, nameIndex := 649, descriptorIndex := 35, attributes := #[] }, { accessFlags := 26, nameIndex := 650, descriptorIndex := 35, attributes := #[] }, { accessFlags := 26, nameIndex := 652, descriptorIndex := 35, attributes := #[] }, { accessFlags := 26, nameIndex := 653, descriptorIndex := 35, attributes := #[] }, { accessFlags := 26, nameIndex := 655, descriptorIndex := 35, attributes := #[] }, { accessFlags := 26, nameIndex := 656, descriptorIndex := 35, attributes := #[] }, { accessFlags := 26, nameIndex := 657, descriptorIndex := 35, attributes := #[] }, { accessFlags := 26, nameIndex := 659, descriptorIndex := 35, attributes := #[] }, { accessFlags := 26, nameIndex := 660, descriptorIndex := 35, attributes := #[] }, { accessFlags := 26, nameIndex := 661, descriptorIndex := 35, attributes := #[] }, { accessFlags := 26, nameIndex := 663, descriptorIndex := 35, attributes := #[] }, { accessFlags := 26, nameIndex := 664, descriptorIndex := 35, attributes := #[] }, { accessFlags := 26, nameIndex := 665, descriptorIndex := 35, attributes := #[] }, { accessFlags := 26, nameIndex := 666, descriptorIndex := 35, attributes := #[] }, { accessFlags := 26, nameIndex := 667, descriptorIndex := 35, attributes := #[] }, { accessFlags := 18, nameIndex := 23, descriptorIndex := 24, attributes := #[] }, { accessFlags := 18, nameIndex := 19, descriptorIndex := 20, attributes := #[] }, { accessFlags := 18, nameIndex := 27, descriptorIndex := 28, attributes := #[] }, { accessFlags := 18, nameIndex := 31, descriptorIndex := 35, attributes := #[] }, { accessFlags := 18, nameIndex := 38, descriptorIndex := 39, attributes := #[] }, { accessFlags := 18, nameIndex := 42, descriptorIndex := 39, attributes := #[] }, { accessFlags := 18, nameIndex := 45, descriptorIndex := 39, attributes := #[] }])
  fields := #[{ name := "KEY_LENGTH_BYTES", type := .int, accessFlags := 26, slot := 0, constantValue := 0 }, { name := "VALUE_LENGTH_BYTES", type := .int, accessFlags := 26, slot := 1, constantValue := 0 }, { name := "LOOKAHEAD", type := .int, accessFlags := 24, slot := 2, constantValue := 0 }, { name := "GROUP_ENTRIES", type := .int, accessFlags := 24, slot := 3, constantValue := 0 }, { name := "GROUP_BYTES", type := .int, accessFlags := 24, slot := 4, constantValue := 0 }, { name := "TIMESTAMP_WIDTH", type := .int, accessFlags := 26, slot := 5, constantValue := 0 }, { name := "LEAST_TIMED_NUMBERS", type := .int, accessFlags := 26, slot := 6, constantValue := 0 }, { name := "MOST_TIMED_NUMBERS", type := .int, accessFlags := 26, slot := 7, constantValue := 0 }, { name := "ROWS_LENGTH_AT", type := .int, accessFlags := 26, slot := 8, constantValue := 0 }, { name := "ROWS_LENGTH_WIDTH", type := .int, accessFlags := 26, slot := 9, constantValue := 0 }, { name := "ROOT_AT", type := .int, accessFlags := 26, slot := 10, constantValue := 0 }, { name := "ROOT_WIDTH", type := .int, accessFlags := 26, slot := 11, constantValue := 0 }, { name := "PARTITION_NUMBERS_SIZE", type := .int, accessFlags := 26, slot := 12, constantValue := 0 }, { name := "FLAGS_AT", type := .int, accessFlags := 26, slot := 13, constantValue := 0 }, { name := "DELETION_AT", type := .int, accessFlags := 26, slot := 14, constantValue := 0 }, { name := "DELETION_WIDTH", type := .int, accessFlags := 26, slot := 15, constantValue := 0 }, { name := "START_DELETION_AT", type := .int, accessFlags := 26, slot := 16, constantValue := 0 }, { name := "START_DELETION_WIDTH", type := .int, accessFlags := 26, slot := 17, constantValue := 0 }, { name := "TIMED_PARTITION_NUMBERS_SIZE", type := .int, accessFlags := 26, slot := 18, constantValue := 0 }, { name := "LAST_EXPIRY_WIDTH", type := .int, accessFlags := 26, slot := 19, constantValue := 0 }, { name := "DELETED", type := .int, accessFlags := 26, slot := 20, constantValue := 0 }, { name := "LIVE", type := .int, accessFlags := 26, slot := 21, constantValue := 0 }, { name := "RANGED", type := .int, accessFlags := 26, slot := 22, constantValue := 0 }, { name := "STARTS_DELETED", type := .int, accessFlags := 26, slot := 23, constantValue := 0 }, { name := "EXPIRING_LIVE", type := .int, accessFlags := 26, slot := 24, constantValue := 0 }, { name := "UNTIMED", type := .int, accessFlags := 24, slot := 25, constantValue := 0 }, { name := "ROW", type := .int, accessFlags := 24, slot := 26, constantValue := 0 }, { name := "ROW_DELETION", type := .int, accessFlags := 24, slot := 27, constantValue := 0 }, { name := "FIRST_BOUND", type := .int, accessFlags := 26, slot := 28, constantValue := 0 }, { name := "BOUNDS", type := (.array (.object "com/example/cairn/cairn/KeyRange$Bound")), accessFlags := 26, slot := 29, constantValue := 0 }, { name := "EXPIRING", type := .int, accessFlags := 24, slot := 30, constantValue := 0 }, { name := "KIND_RULES", type := (.array (.object "com/example/cairn/cairn/Records$KindRule")), accessFlags := 26, slot := 31, constantValue := 0 }, { name := "KINDS", type := .int, accessFlags := 24, slot := 32, constantValue := 0 }, { name := "KIND_BITS", type := .int, accessFlags := 26, slot := 33, constantValue := 0 }, { name := "WIDTH_SHIFT", type := .int, accessFlags := 26, slot := 34, constantValue := 0 }, { name := "WIDTH_BITS", type := .int, accessFlags := 26, slot := 35, constantValue := 0 }, { name := "MARK_BITS", type := .int, accessFlags := 26, slot := 36, constantValue := 0 }, { name := "UNMARKED", type := .int, accessFlags := 24, slot := 37, constantValue := 0 }, { name := "MARKED_CLOSED", type := .int, accessFlags := 24, slot := 38, constantValue := 0 }, { name := "MARKED_OPEN", type := .int, accessFlags := 24, slot := 39, constantValue := 0 }, { name := "MAX_KEY_LENGTH", type := .int, accessFlags := 24, slot := 40, constantValue := 0 }, { name := "MAX_VALUE_LENGTH", type := .int, accessFlags := 24, slot := 41, constantValue := 0 }, { name := "CUT_SHORT", type := .long, accessFlags := 26, slot := 42, constantValue := 0 }, { name := "NOT_A_LENGTH", type := .long, accessFlags := 26, slot := 43, constantValue := 0 }, { name := "SIZE_BITS", type := .int, accessFlags := 26, slot := 44, constantValue := 0 }, { name := "SHORT_SIZE", type := .int, accessFlags := 26, slot := 45, constantValue := 0 }, { name := "SHORT_SHARED_BITS", type := .int, accessFlags := 26, slot := 46, constantValue := 0 }, { name := "SHORT_REST_BITS", type := .int, accessFlags := 26, slot := 47, constantValue := 0 }, { name := "SHORT_VALUE_BITS", type := .int, accessFlags := 26, slot := 48, constantValue := 0 }, { name := "SHORT_MOST_SHARED", type := .int, accessFlags := 26, slot := 49, constantValue := 0 }, { name := "SHORT_MOST_REST", type := .int, accessFlags := 26, slot := 50, constantValue := 0 }, { name := "SHORT_MOST_VALUE", type := .int, accessFlags := 26, slot := 51, constantValue := 0 }, { name := "SHORT_FORM", type := .int, accessFlags := 26, slot := 52, constantValue := 0 }, { name := "GROUP_READ", type := .int, accessFlags := 26, slot := 53, constantValue := 0 }, { name := "MANY_SHARED", type := .int, accessFlags := 26, slot := 54, constantValue := 0 }, { name := "LONG_SMALL_SIZE", type := .int, accessFlags := 26, slot := 55, constantValue := 0 }, { name := "LONG_MOST_SIZE", type := .int, accessFlags := 26, slot := 56, constantValue := 0 }, { name := "NOT_SMALL", type := .int, accessFlags := 26, slot := 57, constantValue := 0 }, { name := "SMALL_FIELD", type := .int, accessFlags := 26, slot := 58, constantValue := 0 }, { name := "SMALL_FIELD_BITS", type := .int, accessFlags := 26, slot := 59, constantValue := 0 }, { name := "BELOW", type := .int, accessFlags := 26, slot := 60, constantValue := 0 }, { name := "SAME", type := .int, accessFlags := 26, slot := 61, constantValue := 0 }, { name := "ABOVE", type := .int, accessFlags := 26, slot := 62, constantValue := 0 }, { name := "ORDER_WIDTH", type := .int, accessFlags := 26, slot := 63, constantValue := 0 }, { name := "ORDER_BITS", type := .int, accessFlags := 26, slot := 64, constantValue := 0 }, { name := "file", type := (.object "com/example/cairn/cairn/TableFile"), accessFlags := 18, slot := 0, constantValue := 0 }, { name := "breaksRanges", type := (.object "com/example/cairn/cairn/DeletedRanges$Refusal"), accessFlags := 18, slot := 1, constantValue := 0 }, { name := "timed", type := .boolean, accessFlags := 18, slot := 2, constantValue := 0 }, { name := "partitionNumbersSize", type := .int, accessFlags := 18, slot := 3, constantValue := 0 }, { name := "dataEnd", type := .long, accessFlags := 18, slot := 4, constantValue := 0 }, { name := "rowIndexStart", type := .long, accessFlags := 18, slot := 5, constantValue := 0 }, { name := "rowIndexEnd", type := .long, accessFlags := 18, slot := 6, constantValue := 0 }]
  methods := #[k3m0]
  instanceTypes := #[(.object "com/example/cairn/cairn/TableFile"), (.object "com/example/cairn/cairn/DeletedRanges$Refusal"), .boolean, .int, .long, .long, .long]
  staticTypes := #[.int, .int, .int, .int, .int, .int, .int, .int, .int, .int, .int, .int, .int, .int, .int, .int, .int, .int, .int, .int, .int, .int, .int, .int, .int, .int, .int, .int, .int, (.array (.object "com/example/cairn/cairn/KeyRange$Bound")), .int, (.array (.object "com/example/cairn/cairn/Records$KindRule")), .int, .int, .int, .int, .int, .int, .int, .int, .int, .int, .long, .long, .int, .int, .int, .int, .int, .int, .int, .int, .int, .int, .int, .int, .int, .int, .int, .int, .int, .int, .int, .int, .int]
  resolved := Array.replicate 772 none
  statics := none }

def pool4 : Array CpInfo := pool [(1, u "java/lang/Cloneable"), (0, .class_ 1), (0, u "java/lang/Object"), (0, .class_ 3)] 3

/-- java/lang/Cloneable -/
def k4 : Class := { plain "java/lang/Cloneable" (some 0) with
  accessFlags := 1537
  interfaces := #[]
  cf := some (fileOf pool4 2 #[] #[] 1537 4 #[] #[])
  fields := #[]
  methods := #[]
  instanceTypes := #[]
  staticTypes := #[]
  resolved := Array.replicate 8 none
  statics := none }

def pool5 : Array CpInfo := pool [(1, u "java/io/Serializable"), (0, .class_ 1), (0, u "java/lang/Object"), (0, .class_ 3)] 3

/-- java/io/Serializable -/
def k5 : Class := { plain "java/io/Serializable" (some 0) with
  accessFlags := 1537
  interfaces := #[]
  cf := some (fileOf pool5 2 #[] #[] 1537 4 #[] #[])
  fields := #[]
  methods := #[]
  instanceTypes := #[]
  staticTypes := #[]
  resolved := Array.replicate 8 none
  statics := none }

/-- the primitive byte -/
def k6 : Class := { plain "byte" none with kind := .primitive 'B', accessFlags := 0x411 }
/-- [B -/
def k7 : Class := { plain "[B" (some 0) with kind := .array 6 .byte, interfaces := #[4, 5], accessFlags := 1041 }

/-- the primitive int -/
def k8 : Class := { plain "int" none with kind := .primitive 'I', accessFlags := 0x411 }
/-- [I -/
def k9 : Class := { plain "[I" (some 0) with kind := .array 8 .int, interfaces := #[4, 5], accessFlags := 1041 }

def heap : Heap := #[]
def classes : Array Class := #[k0, k1, k2, k3, k4, k5, k6, k7, k8, k9]
def interned : List (Array UInt16 × Addr) := []
def slotsUsed : Nat := 0
def theMethod : MethodId := ⟨1, 1⟩
def args0 : Array Value := #[.long 1, .long 2, .int 5, .long 3, .long 4, .long 5]
def aboutOver (below : List Frame) : State where
  vm := { classes := classes, interned := interned.toArray }
  heap := heap
  slotsUsed := slotsUsed
  threads := #[{ frames := .invoking theMethod args0 :: below }]
def below0 : List Frame := [.native { method := ⟨0, 0⟩, args := #[] }]
def about1 : State := aboutOver below0
def p0 : Program := .bare "" "" ""
def e0 : Env := launch0.env 0 0 0
theorem w_frames : about1.frames = Frame.invoking theMethod args0 :: below0 := rfl
set_option maxRecDepth 65536 in
theorem w_args : argsFit about1.vm theMethod args0 = true := by decide +kernel
set_option maxRecDepth 65536 in
theorem w_heap : heapFits about1 = true := by decide +kernel
set_option maxRecDepth 65536 in
theorem w_runnable : about1.curStatus? = some .runnable := by decide +kernel
set_option maxRecDepth 65536 in
theorem w_alone : about1.alone = true := by decide +kernel
set_option maxRecDepth 65536 in
theorem w_named : about1.methodNamed? x = some theMethod := by decide +kernel
set_option maxRecDepth 65536 in
theorem w_hears : about1.hears theMethod below0 = true := by decide +kernel
set_option maxRecDepth 65536 in
theorem w_ripe : about1.ripe theMethod args0 below0 = true := by decide +kernel
theorem w_running : about1.status = .running := rfl
set_option maxRecDepth 65536 in
theorem w_room : about1.hasRoom e0.platform room_1 = true :=
  launch0.hasRoom_least _ room_1 (by decide +kernel) (by decide +kernel) (by decide +kernel) (by decide +kernel) (by decide +kernel) (by decide +kernel)
theorem allAtoms_all (ts : List Jvm.Cond) (a : Array Jvm.Value) (st : Jvm.State) : (allAtoms ts).before a st = ts.all (fun c => c.before a st) := by
  induction ts with
  | nil => rfl
  | cons c t ih =>
    show (Jvm.Cond.and c (allAtoms t)).before a st = _
    rw [Jvm.Cond.before_and, ih, List.all_cons]
def words1 : List Jvm.Cond := Jvm.Cond.code x code maxLocals ret :: tables_1
/-- a 'code' word, met by the world's own term for the bytes: nothing is compared byte by byte -/
theorem code_word {y : MethodName} {bytes : ByteArray} {mx : Nat} {rt : Option FieldType} {a : Array Value} {s : State} {m : MethodId} {meth : Method} {c : Code} (h1 : s.methodNamed? y = some m) (h2 : s.vm.method? m = some meth) (h3 : meth.code = some c) (h4 : c.code = bytes)
    (h5 : (c.maxLocals == mx && c.exceptionTable.isEmpty && decide (c.maxStack ≤ mostOperands) && decide (meth.sig.returnType = rt) && !meth.locks && decide (parseMethodDescriptor y.desc = some meth.sig)) = true) : (Jvm.Cond.code y bytes mx rt).before a s = true := by
  simp only [Bool.and_eq_true, beq_iff_eq, Bool.not_eq_true', decide_eq_true_eq] at h5
  obtain ⟨⟨⟨⟨⟨g1, g2⟩, g3⟩, g4⟩, g5⟩, g6⟩ := h5
  simp [Cond.before, Cond.holds, Cond.value, h1, h2, h3, h4, g1, g2, g3, g4, g5, g6]
def isCode : Jvm.Cond → Bool
  | .code _ _ _ _ => true
  | _ => false
theorem all_split {L : List Jvm.Cond} {P : Jvm.Cond → Bool} (h1 : L.all (fun c => isCode c || P c) = true) (h2 : ∀ c ∈ L.filter isCode, P c = true) : L.all P = true := by
  refine List.all_eq_true.mpr fun c hc => ?_
  have h := List.all_eq_true.mp h1 c hc
  rcases Bool.eq_false_or_eq_true (isCode c) with hi | hi
  · exact h2 c (List.mem_filter.mpr ⟨hc, hi⟩)
  · simpa [hi] using h
set_option maxRecDepth 65536 in
theorem w_c0 : (Jvm.Cond.code x code maxLocals ret).before args0 about1 = true := code_word (m := ⟨1, 1⟩) (meth := k1m1) (c := k1c1) (by decide +kernel) rfl rfl rfl (by decide +kernel)
set_option maxRecDepth 65536 in
theorem w_c1 : (Jvm.Cond.code ({ cls := "com/example/cairn/cairn/Groups", name := "<init>", desc := "()V" } : Jvm.MethodName) prog_45_method_1_code (1 : Nat) (Option.none : Option Jvm.ClassFile.FieldType)).before args0 about1 = true := code_word (m := ⟨2, 0⟩) (meth := k2m0) (c := k2c0) (by decide +kernel) rfl rfl rfl (by decide +kernel)
set_option maxRecDepth 65536 in
theorem w_c2 : (Jvm.Cond.code ({ cls := "java/lang/Object", name := "<init>", desc := "()V" } : Jvm.MethodName) object_method_1_code (1 : Nat) (Option.none : Option Jvm.ClassFile.FieldType)).before args0 about1 = true := code_word (m := ⟨0, 0⟩) (meth := k0m0) (c := k0c0) (by decide +kernel) rfl rfl rfl (by decide +kernel)
set_option maxRecDepth 65536 in
theorem w_c3 : (Jvm.Cond.code ({ cls := "com/example/cairn/cairn/Groups", name := "start", desc := "(JZ)Z" } : Jvm.MethodName) prog_45_method_2_code (5 : Nat) (Option.some Jvm.ClassFile.FieldType.boolean)).before args0 about1 = true := code_word (m := ⟨2, 1⟩) (meth := k2m1) (c := k2c1) (by decide +kernel) rfl rfl rfl (by decide +kernel)
set_option maxRecDepth 65536 in
theorem w_c4 : (Jvm.Cond.code ({ cls := "com/example/cairn/cairn/Groups", name := "end", desc := "(J)V" } : Jvm.MethodName) prog_45_method_4_code (3 : Nat) (Option.none : Option Jvm.ClassFile.FieldType)).before args0 about1 = true := code_word (m := ⟨2, 2⟩) (meth := k2m2) (c := k2c2) (by decide +kernel) rfl rfl rfl (by decide +kernel)
set_option maxRecDepth 65536 in
theorem w_c5 : (Jvm.Cond.code ({ cls := "com/example/cairn/cairn/Records", name := "endsGroup", desc := "(IJ)Z" } : Jvm.MethodName) prog_88_method_2_code (3 : Nat) (Option.some Jvm.ClassFile.FieldType.boolean)).before args0 about1 = true := code_word (m := ⟨3, 0⟩) (meth := k3m0) (c := k3c0) (by decide +kernel) rfl rfl rfl (by decide +kernel)
set_option maxRecDepth 65536 in
theorem w_c6 : (Jvm.Cond.code ({ cls := "com/example/cairn/cairn/Groups", name := "ended", desc := "()Z" } : Jvm.MethodName) prog_45_method_5_code (1 : Nat) (Option.some Jvm.ClassFile.FieldType.boolean)).before args0 about1 = true := code_word (m := ⟨2, 3⟩) (meth := k2m3) (c := k2c3) (by decide +kernel) rfl rfl rfl (by decide +kernel)
set_option maxRecDepth 65536 in
theorem w_c7 : (Jvm.Cond.code ({ cls := "com/example/cairn/cairn/Groups", name := "group", desc := "()J" } : Jvm.MethodName) prog_45_method_6_code (1 : Nat) (Option.some Jvm.ClassFile.FieldType.long)).before args0 about1 = true := code_word (m := ⟨2, 4⟩) (meth := k2m4) (c := k2c4) (by decide +kernel) rfl rfl rfl (by decide +kernel)
set_option maxRecDepth 65536 in
theorem w_c8 : (Jvm.Cond.code ({ cls := "com/example/cairn/cairn/Groups", name := "place", desc := "()I" } : Jvm.MethodName) prog_45_method_7_code (1 : Nat) (Option.some Jvm.ClassFile.FieldType.int)).before args0 about1 = true := code_word (m := ⟨2, 5⟩) (meth := k2m5) (c := k2c5) (by decide +kernel) rfl rfl rfl (by decide +kernel)
set_option maxRecDepth 65536 in
theorem w_c9 : (Jvm.Cond.code ({ cls := "com/example/cairn/cairn/GroupsStartPinLaw", name := "ends", desc := "(IJ)Z" } : Jvm.MethodName) method_3_code (3 : Nat) (Option.some Jvm.ClassFile.FieldType.boolean)).before args0 about1 = true := code_word (m := ⟨1, 2⟩) (meth := k1m2) (c := k1c2) (by decide +kernel) rfl rfl rfl (by decide +kernel)
def codes1 : List Jvm.Cond := [Jvm.Cond.code x code maxLocals ret, Jvm.Cond.code ({ cls := "com/example/cairn/cairn/Groups", name := "<init>", desc := "()V" } : Jvm.MethodName) prog_45_method_1_code (1 : Nat) (Option.none : Option Jvm.ClassFile.FieldType), Jvm.Cond.code ({ cls := "java/lang/Object", name := "<init>", desc := "()V" } : Jvm.MethodName) object_method_1_code (1 : Nat) (Option.none : Option Jvm.ClassFile.FieldType), Jvm.Cond.code ({ cls := "com/example/cairn/cairn/Groups", name := "start", desc := "(JZ)Z" } : Jvm.MethodName) prog_45_method_2_code (5 : Nat) (Option.some Jvm.ClassFile.FieldType.boolean), Jvm.Cond.code ({ cls := "com/example/cairn/cairn/Groups", name := "end", desc := "(J)V" } : Jvm.MethodName) prog_45_method_4_code (3 : Nat) (Option.none : Option Jvm.ClassFile.FieldType), Jvm.Cond.code ({ cls := "com/example/cairn/cairn/Records", name := "endsGroup", desc := "(IJ)Z" } : Jvm.MethodName) prog_88_method_2_code (3 : Nat) (Option.some Jvm.ClassFile.FieldType.boolean), Jvm.Cond.code ({ cls := "com/example/cairn/cairn/Groups", name := "ended", desc := "()Z" } : Jvm.MethodName) prog_45_method_5_code (1 : Nat) (Option.some Jvm.ClassFile.FieldType.boolean), Jvm.Cond.code ({ cls := "com/example/cairn/cairn/Groups", name := "group", desc := "()J" } : Jvm.MethodName) prog_45_method_6_code (1 : Nat) (Option.some Jvm.ClassFile.FieldType.long), Jvm.Cond.code ({ cls := "com/example/cairn/cairn/Groups", name := "place", desc := "()I" } : Jvm.MethodName) prog_45_method_7_code (1 : Nat) (Option.some Jvm.ClassFile.FieldType.int), Jvm.Cond.code ({ cls := "com/example/cairn/cairn/GroupsStartPinLaw", name := "ends", desc := "(IJ)Z" } : Jvm.MethodName) method_3_code (3 : Nat) (Option.some Jvm.ClassFile.FieldType.boolean)]
set_option maxRecDepth 65536 in
theorem codes_eq : words1.filter isCode = codes1 := rfl
theorem w_codes : ∀ c ∈ words1.filter isCode, c.before args0 about1 = true := by
  rw [codes_eq]
  intro c hc
  simp only [codes1, List.mem_cons, List.not_mem_nil, or_false] at hc
  rcases hc with rfl | rfl | rfl | rfl | rfl | rfl | rfl | rfl | rfl | rfl
  · exact w_c0
  · exact w_c1
  · exact w_c2
  · exact w_c3
  · exact w_c4
  · exact w_c5
  · exact w_c6
  · exact w_c7
  · exact w_c8
  · exact w_c9
set_option maxRecDepth 65536 in
theorem w_t1 : (words1.take 24).all (fun c => isCode c || c.before args0 about1) = true := by decide +kernel
set_option maxRecDepth 65536 in
theorem w_t2 : ((words1.drop 24).take 24).all (fun c => isCode c || c.before args0 about1) = true := by decide +kernel
set_option maxRecDepth 65536 in
theorem w_t3 : ((words1.drop 24).drop 24).all (fun c => isCode c || c.before args0 about1) = true := by decide +kernel
theorem w_tables : (allAtoms (Jvm.Cond.code x code maxLocals ret :: tables_1)).before args0 about1 = true := by
  rw [allAtoms_all]
  show words1.all (fun c => c.before args0 about1) = true
  refine all_split ?_ w_codes
  rw [← List.take_append_drop 24 words1, List.all_append, w_t1, ← List.take_append_drop 24 (words1.drop 24), List.all_append, w_t2, w_t3]
  rfl
set_option maxRecDepth 65536 in
theorem w_case : (Jvm.Cond.and given_1 narrow_1).before args0 about1 = true := by decide +kernel
theorem w_applies : (headSpec (Jvm.Cond.code x code maxLocals ret :: tables_1) room_1).applies x e0.platform about1 = true :=
  (Spec.applies_iff w_frames).mpr ⟨w_running, w_runnable, w_alone, w_named, w_hears, w_ripe, w_room, w_tables⟩
theorem atStart : AtStart classFile x code maxLocals ret World_1 tables_1 room_1 Calls_1 rest_1 Pre_1 launch0 p0 e0 about1 theMethod args0 below0 :=
  ⟨lists_1, trivial, launch0.admits_env _ _ _, launch0.least_env, fairChoices_fair.cas, fairChoices_fair.clock, w_frames, w_args, w_heap, w_applies, trivial, trivial, w_case⟩
end start1
theorem witness_1 : WitnessClaimed_1 := ⟨start1.p0, start1.e0, start1.about1, start1.theMethod, start1.args0, start1.below0, start1.atStart⟩
end Jvm.Pilot.@@N@@
