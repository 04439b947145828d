import JvmDerived
import JvmDerived.Pilot.@@N@@Statement
import JvmDerived.Pilot.@@N@@Code
set_option linter.unusedVariables false
set_option linter.unusedSimpArgs false
namespace Jvm.Pilot.@@N@@
open Jvm Jvm.ClassFile Sem Op Lib Jvm.Free Jvm.Stand Jvm.LawKit Jvm.RoadKit Bundle Jvm.Pilot.@@N@@.Jvm.D
def own_G (p : Program) (e : Env) (below : List Frame) (C : State → Outcome → Prop) (A : State) : Prop := ∃ (t : State) (o : Outcome), Steps p.tables e below A t ∧ C t o
theorem own_st {p : Program} {e : Env} {below : List Frame} {C : State → Outcome → Prop} {A B : State} (k : ∀ t, Steps p.tables e below B t → Steps p.tables e below A t) (h : own_G p e below C B) : own_G p e below C A := by
  obtain ⟨t, o, h1, h2⟩ := h
  exact ⟨t, o, k t h1, h2⟩
abbrev own_b (c : Bool) : Int32 := bif c then 1 else 0
theorem own_nb (c : Bool) : narrow .boolean (.int (own_b c)) = .int (own_b c) := by cases c <;> rfl
theorem own_b_ne {c : Bool} : (own_b c = 0) ↔ c = false := by cases c <;> decide
def own_emp (x1 x2 x3 x4 : Int32) : Bool := !decide (x1 < x3) || !decide (x2 < x4)
theorem own_wd (l r : Int32) : (0 < r.toInt64 - l.toInt64) ↔ l < r := by
  have e : (r.toInt64 - l.toInt64).toInt = r.toInt - l.toInt := by
    rw [Int64.toInt_sub, Int32.toInt_toInt64, Int32.toInt_toInt64]
    have h1 := r.toInt_lt; have h2 := r.le_toInt; have h3 := l.toInt_lt; have h4 := l.le_toInt
    rw [Int.bmod_eq_of_le] <;> omega
  rw [Int64.lt_iff_toInt_lt, Int32.lt_iff_toInt_lt, e]
  have e0 : (0 : Int64).toInt = 0 := by decide
  omega
def own_R (Z : State) (h : Heap) (a : Addr) (x1 : Int32) (x2 : Int32) (x3 : Int32) (x4 : Int32) : Prop := Exa Z h a "com/example/framewright/framewright/Rect" ∧ Fld Z h a "com/example/framewright/framewright/Rect" "left" "I" (.int x1) ∧ Fld Z h a "com/example/framewright/framewright/Rect" "top" "I" (.int x2) ∧ Fld Z h a "com/example/framewright/framewright/Rect" "right" "I" (.int x3) ∧ Fld Z h a "com/example/framewright/framewright/Rect" "bottom" "I" (.int x4)
theorem own_R.put_left {Z : State} {a0 : Array Value} (hw : ∀ d ∈ tables_1, d.before a0 Z = true) {h h' : Heap} {a : Addr} {x1 : Int32} {x2 : Int32} {x3 : Int32} {x4 : Int32} {y : Int32} (G : own_R Z h a x1 x2 x3 x4) (W : Wr h h' a (Jvm.RoadKit.slotOf Z "com/example/framewright/framewright/Rect" "left" "I") (.int y)) : own_R Z h' a y x2 x3 x4 := by
  obtain ⟨E, F0, F1, F2, F3⟩ := G
  exact ⟨E.wr W, F0.same W, F1.other W (Or.inr (slot_ne (Or.inl (hw _ (List.mem_of_getElem? (i := 17) rfl))) (Or.inl (hw _ (List.mem_of_getElem? (i := 15) rfl))) (by decide) (t := .int) (t' := .int) (by decide) (by decide))), F2.other W (Or.inr (slot_ne (Or.inl (hw _ (List.mem_of_getElem? (i := 19) rfl))) (Or.inl (hw _ (List.mem_of_getElem? (i := 15) rfl))) (by decide) (t := .int) (t' := .int) (by decide) (by decide))), F3.other W (Or.inr (slot_ne (Or.inl (hw _ (List.mem_of_getElem? (i := 21) rfl))) (Or.inl (hw _ (List.mem_of_getElem? (i := 15) rfl))) (by decide) (t := .int) (t' := .int) (by decide) (by decide)))⟩
theorem own_R.put_top {Z : State} {a0 : Array Value} (hw : ∀ d ∈ tables_1, d.before a0 Z = true) {h h' : Heap} {a : Addr} {x1 : Int32} {x2 : Int32} {x3 : Int32} {x4 : Int32} {y : Int32} (G : own_R Z h a x1 x2 x3 x4) (W : Wr h h' a (Jvm.RoadKit.slotOf Z "com/example/framewright/framewright/Rect" "top" "I") (.int y)) : own_R Z h' a x1 y x3 x4 := by
  obtain ⟨E, F0, F1, F2, F3⟩ := G
  exact ⟨E.wr W, F0.other W (Or.inr (slot_ne (Or.inl (hw _ (List.mem_of_getElem? (i := 15) rfl))) (Or.inl (hw _ (List.mem_of_getElem? (i := 17) rfl))) (by decide) (t := .int) (t' := .int) (by decide) (by decide))), F1.same W, F2.other W (Or.inr (slot_ne (Or.inl (hw _ (List.mem_of_getElem? (i := 19) rfl))) (Or.inl (hw _ (List.mem_of_getElem? (i := 17) rfl))) (by decide) (t := .int) (t' := .int) (by decide) (by decide))), F3.other W (Or.inr (slot_ne (Or.inl (hw _ (List.mem_of_getElem? (i := 21) rfl))) (Or.inl (hw _ (List.mem_of_getElem? (i := 17) rfl))) (by decide) (t := .int) (t' := .int) (by decide) (by decide)))⟩
theorem own_R.put_right {Z : State} {a0 : Array Value} (hw : ∀ d ∈ tables_1, d.before a0 Z = true) {h h' : Heap} {a : Addr} {x1 : Int32} {x2 : Int32} {x3 : Int32} {x4 : Int32} {y : Int32} (G : own_R Z h a x1 x2 x3 x4) (W : Wr h h' a (Jvm.RoadKit.slotOf Z "com/example/framewright/framewright/Rect" "right" "I") (.int y)) : own_R Z h' a x1 x2 y x4 := by
  obtain ⟨E, F0, F1, F2, F3⟩ := G
  exact ⟨E.wr W, F0.other W (Or.inr (slot_ne (Or.inl (hw _ (List.mem_of_getElem? (i := 15) rfl))) (Or.inl (hw _ (List.mem_of_getElem? (i := 19) rfl))) (by decide) (t := .int) (t' := .int) (by decide) (by decide))), F1.other W (Or.inr (slot_ne (Or.inl (hw _ (List.mem_of_getElem? (i := 17) rfl))) (Or.inl (hw _ (List.mem_of_getElem? (i := 19) rfl))) (by decide) (t := .int) (t' := .int) (by decide) (by decide))), F2.same W, F3.other W (Or.inr (slot_ne (Or.inl (hw _ (List.mem_of_getElem? (i := 21) rfl))) (Or.inl (hw _ (List.mem_of_getElem? (i := 19) rfl))) (by decide) (t := .int) (t' := .int) (by decide) (by decide)))⟩
theorem own_R.put_bottom {Z : State} {a0 : Array Value} (hw : ∀ d ∈ tables_1, d.before a0 Z = true) {h h' : Heap} {a : Addr} {x1 : Int32} {x2 : Int32} {x3 : Int32} {x4 : Int32} {y : Int32} (G : own_R Z h a x1 x2 x3 x4) (W : Wr h h' a (Jvm.RoadKit.slotOf Z "com/example/framewright/framewright/Rect" "bottom" "I") (.int y)) : own_R Z h' a x1 x2 x3 y := by
  obtain ⟨E, F0, F1, F2, F3⟩ := G
  exact ⟨E.wr W, F0.other W (Or.inr (slot_ne (Or.inl (hw _ (List.mem_of_getElem? (i := 15) rfl))) (Or.inl (hw _ (List.mem_of_getElem? (i := 21) rfl))) (by decide) (t := .int) (t' := .int) (by decide) (by decide))), F1.other W (Or.inr (slot_ne (Or.inl (hw _ (List.mem_of_getElem? (i := 17) rfl))) (Or.inl (hw _ (List.mem_of_getElem? (i := 21) rfl))) (by decide) (t := .int) (t' := .int) (by decide) (by decide))), F2.other W (Or.inr (slot_ne (Or.inl (hw _ (List.mem_of_getElem? (i := 19) rfl))) (Or.inl (hw _ (List.mem_of_getElem? (i := 21) rfl))) (by decide) (t := .int) (t' := .int) (by decide) (by decide))), F3.same W⟩
theorem own_R.ext {Z : State} {h h' : Heap} {a : Addr} {x1 : Int32} {x2 : Int32} {x3 : Int32} {x4 : Int32} (G : own_R Z h a x1 x2 x3 x4) (E' : Ext h h') : own_R Z h' a x1 x2 x3 x4 := by
  obtain ⟨E, F0, F1, F2, F3⟩ := G
  exact ⟨E.ext E', F0.ext E', F1.ext E', F2.ext E', F3.ext E'⟩
theorem own_R.keep {Z : State} {h h' : Heap} {a : Addr} {ws : List Addr} {x1 : Int32} {x2 : Int32} {x3 : Int32} {x4 : Int32} (G : own_R Z h a x1 x2 x3 x4) (K : Keep h h' ws) (hn : a ∉ ws) : own_R Z h' a x1 x2 x3 x4 := by
  obtain ⟨E, F0, F1, F2, F3⟩ := G
  exact ⟨E.keep K, F0.keep K hn, F1.keep K hn, F2.keep K hn, F3.keep K hn⟩
theorem own_R.new {Z : State} {a0 : Array Value} (hw : ∀ d ∈ tables_1, d.before a0 Z = true) {h : Heap} {a : Addr} (A : Exa Z h a "com/example/framewright/framewright/Rect") (D : ∀ {O nm d : String} {ty : FieldType}, Laid Z a0 "com/example/framewright/framewright/Rect" O nm d → parseFieldDescriptor d = some ty → Fld Z h a O nm d (defaultValue ty)) : own_R Z h a 0 0 0 0 :=
  ⟨A, D (Or.inl (hw _ (List.mem_of_getElem? (i := 15) rfl))) (ty := .int) (by decide), D (Or.inl (hw _ (List.mem_of_getElem? (i := 17) rfl))) (ty := .int) (by decide), D (Or.inl (hw _ (List.mem_of_getElem? (i := 19) rfl))) (ty := .int) (by decide), D (Or.inl (hw _ (List.mem_of_getElem? (i := 21) rfl))) (ty := .int) (by decide)⟩
theorem d3_0 : decode prog_25_method_2_code 0 = .ok (.aload_n 0, 1) := by decide +kernel
theorem d3_1 : decode prog_25_method_2_code 1 = .ok (.iload_n 1, 1) := by decide +kernel
theorem d3_2 : decode prog_25_method_2_code 2 = .ok (.putfield 13, 3) := by decide +kernel
theorem d3_5 : decode prog_25_method_2_code 5 = .ok (.aload_n 0, 1) := by decide +kernel
theorem d3_6 : decode prog_25_method_2_code 6 = .ok (.iload_n 2, 1) := by decide +kernel
theorem d3_7 : decode prog_25_method_2_code 7 = .ok (.putfield 17, 3) := by decide +kernel
theorem d3_10 : decode prog_25_method_2_code 10 = .ok (.aload_n 0, 1) := by decide +kernel
theorem d3_11 : decode prog_25_method_2_code 11 = .ok (.iload_n 3, 1) := by decide +kernel
theorem d3_12 : decode prog_25_method_2_code 12 = .ok (.putfield 20, 3) := by decide +kernel
theorem d3_15 : decode prog_25_method_2_code 15 = .ok (.aload_n 0, 1) := by decide +kernel
theorem d3_16 : decode prog_25_method_2_code 16 = .ok (.iload 4, 2) := by decide +kernel
theorem d3_18 : decode prog_25_method_2_code 18 = .ok (.putfield 23, 3) := by decide +kernel
theorem d3_21 : decode prog_25_method_2_code 21 = .ok (.return_, 1) := by decide +kernel
theorem pn_3 : plainName "com/example/framewright/framewright/Rect" = true := by first | (simp [plainName, overriddenIn]; done) | decide +kernel
theorem ef_3 (m : MethodId) (x0 : Addr) (x1 : Int32) (x2 : Int32) (x3 : Int32) (x4 : Int32) : entryFrame m #[(.ref x0), (.int x1), (.int x2), (.int x3), (.int x4)] 5 = mkF m 0 #[.val (.ref x0), .val (.int x1), .val (.int x2), .val (.int x3), .val (.int x4)] [] := by first | (simp [entryFrame, mkF, argsToLocals, Value.category]; done) | rfl
def Q3 (Z : State) (r0 : Addr) (p1 : Int32) (p2 : Int32) (p3 : Int32) (p4 : Int32) (x1 : Int32) (x2 : Int32) (x3 : Int32) (x4 : Int32) (h0 : Heap) (n0 : Nat) (v : Option Value) (h : Heap) (L : List Loc) : Prop := v = none ∧ Fr n0 L ∧ Keep h0 h [r0] ∧ own_R Z h r0 p1 p2 p3 p4
set_option maxRecDepth 65536 in
set_option maxHeartbeats 40000000 in
theorem rm3 (l : Launch) (Z : State) (a0 : Array Value) (hw : ∀ d ∈ tables_1, d.before a0 Z = true) (ws : List Jvm.Cond) (r0 : Addr) (p1 : Int32) (p2 : Int32) (p3 : Int32) (p4 : Int32) (x1 : Int32) (x2 : Int32) (x3 : Int32) (x4 : Int32) (h0 : Heap) (n0 : Nat) (Z0 : n0 ≤ h0.size) (G : own_R Z h0 r0 x1 x2 x3 x4) (ge : n0 ≤ r0) :
    MetFree l (⟨"com/example/framewright/framewright/Rect", "set", "(IIII)V"⟩ : MethodName) (head1 (Jvm.Cond.code (⟨"com/example/framewright/framewright/Rect", "set", "(IIII)V"⟩ : MethodName) prog_25_method_2_code 5 none :: ws) ({ frames := 0, cells := 0, slots := 0, locals := 0 } : Room)) (fun a U => a = #[(.ref r0), (.int p1), (.int p2), (.int p3), (.int p4)] ∧ Z.Warmed39 U.vm ∧ U.heap = h0) (fun _ _ _ _ _ => True) (fun _ U o U' => ∃ v L, o = .returned v ∧ Q3 Z r0 p1 p2 p3 p4 x1 x2 x3 x4 h0 n0 v U'.heap L ∧ FrameEnd U o U' L ({ frames := 0, cells := 0, slots := 0, locals := 0 } : Room).cells ({ frames := 0, cells := 0, slots := 0, locals := 0 } : Room).slots) := by
  refine MetFree.of_bodySF (plainFor_of_name pn_3) hisR ?_
  intro p e s m args below meth c s₁ Bd hml0 hP hK
  obtain ⟨rfl, hZ, hh⟩ := hP
  have hx := Bd.exec
  have hby := Bd.bytes
  have hml : c.maxLocals = 5 := hml0
  have hown : s.vm.findClass "com/example/framewright/framewright/Rect" = some m.cls := findClass_of_methodNamed Bd.named
  have hnm := (name_of_methodNamed Bd.named Bd.method).1
  have X0 : Stand p l e ({ frames := 0, cells := 0, slots := 0, locals := 0 } : Room) s m #[(.ref r0), (.int p1), (.int p2), (.int p3), (.int p4)] below meth c s₁ [] 0 0 := Stand.of_body Bd
  have e0 : s₁.heap = h0 := by rw [← hh, Bd.state]; rfl
  have N0 := Fr.nil n0
  show own_G p e below (fun (t : State) (o : Outcome) => t.status = .running ∧ Ended t below o ∧ ∃ v L, o = .returned v ∧ Q3 Z r0 p1 p2 p3 p4 x1 x2 x3 x4 h0 n0 v t.heap L ∧ FrameEnd s o t L ({ frames := 0, cells := 0, slots := 0, locals := 0 } : Room).cells ({ frames := 0, cells := 0, slots := 0, locals := 0 } : Room).slots) (s₁.setTop (entryFrame m #[(.ref r0), (.int p1), (.int p2), (.int p3), (.int p4)] 5))
  rw [ef_3 m r0 p1 p2 p3 p4]
  have K := Keep.refl h0 [r0]
  refine own_st (B := s₁.setTop (mkF m 2 #[.val (.ref r0), .val (.int p1), .val (.int p2), .val (.int p3), .val (.int p4)] [(.int p1), (.ref r0)])) (fun t k => ?_) ?_
  · show Steps p.tables e below (s₁.setTop (mkF m 0 #[.val (.ref r0), .val (.int p1), .val (.int p2), .val (.int p3), .val (.int p4)] [])) _
    refine XS.aloadN X0.here hx rfl (hb hby d3_0) rfl rfl ?_
    show Steps p.tables e below (s₁.setTop (mkF m 1 #[.val (.ref r0), .val (.int p1), .val (.int p2), .val (.int p3), .val (.int p4)] [(.ref r0)])) _
    refine XS.iloadN X0.here hx rfl (hb hby d3_1) rfl ?_
    exact k
  obtain ⟨T1, h1, X1, e1, W1, st1⟩ := putF X0 hx hZ hown (host := "") (Or.inl (hw _ (List.mem_of_getElem? (i := 14) rfl))) Via.refl e0 G.2.1 G.1 (Or.inl (hw _ (List.mem_of_getElem? (i := 15) rfl))) (hw _ (List.mem_of_getElem? (i := 1) rfl)) (ty := .int) (by decide) rfl rfl (g := (mkF m 2 #[.val (.ref r0), .val (.int p1), .val (.int p2), .val (.int p3), .val (.int p4)] [(.int p1), (.ref r0)])) rfl rfl (hb hby d3_2)
  refine own_st (B := T1.setTop (mkF m 5 #[.val (.ref r0), .val (.int p1), .val (.int p2), .val (.int p3), .val (.int p4)] [])) (fun t k => st1 t k) ?_
  have N1 := Fr.snoc X1 N0 ge
  have Gs1 := G.put_left hw W1
  have Ks1 : Keep h0 h1 [r0] := K.wr W1 (Or.inl (List.mem_of_getElem? (i := 0) rfl))
  refine own_st (B := T1.setTop (mkF m 7 #[.val (.ref r0), .val (.int p1), .val (.int p2), .val (.int p3), .val (.int p4)] [(.int p2), (.ref r0)])) (fun t k => ?_) ?_
  · show Steps p.tables e below (T1.setTop (mkF m 5 #[.val (.ref r0), .val (.int p1), .val (.int p2), .val (.int p3), .val (.int p4)] [])) _
    refine XS.aloadN X1.here hx rfl (hb hby d3_5) rfl rfl ?_
    show Steps p.tables e below (T1.setTop (mkF m 6 #[.val (.ref r0), .val (.int p1), .val (.int p2), .val (.int p3), .val (.int p4)] [(.ref r0)])) _
    refine XS.iloadN X1.here hx rfl (hb hby d3_6) rfl ?_
    exact k
  obtain ⟨T2, h2, X2, e2, W2, st2⟩ := putF X1 hx hZ hown (host := "") (Or.inl (hw _ (List.mem_of_getElem? (i := 16) rfl))) Via.refl e1 Gs1.2.2.1 Gs1.1 (Or.inl (hw _ (List.mem_of_getElem? (i := 17) rfl))) (hw _ (List.mem_of_getElem? (i := 1) rfl)) (ty := .int) (by decide) rfl rfl (g := (mkF m 7 #[.val (.ref r0), .val (.int p1), .val (.int p2), .val (.int p3), .val (.int p4)] [(.int p2), (.ref r0)])) rfl rfl (hb hby d3_7)
  refine own_st (B := T2.setTop (mkF m 10 #[.val (.ref r0), .val (.int p1), .val (.int p2), .val (.int p3), .val (.int p4)] [])) (fun t k => st2 t k) ?_
  have N2 := Fr.snoc X2 N1 ge
  have Gs2 := Gs1.put_top hw W2
  have Ks2 : Keep h0 h2 [r0] := Ks1.wr W2 (Or.inl (List.mem_of_getElem? (i := 0) rfl))
  refine own_st (B := T2.setTop (mkF m 12 #[.val (.ref r0), .val (.int p1), .val (.int p2), .val (.int p3), .val (.int p4)] [(.int p3), (.ref r0)])) (fun t k => ?_) ?_
  · show Steps p.tables e below (T2.setTop (mkF m 10 #[.val (.ref r0), .val (.int p1), .val (.int p2), .val (.int p3), .val (.int p4)] [])) _
    refine XS.aloadN X2.here hx rfl (hb hby d3_10) rfl rfl ?_
    show Steps p.tables e below (T2.setTop (mkF m 11 #[.val (.ref r0), .val (.int p1), .val (.int p2), .val (.int p3), .val (.int p4)] [(.ref r0)])) _
    refine XS.iloadN X2.here hx rfl (hb hby d3_11) rfl ?_
    exact k
  obtain ⟨T3, h3, X3, e3, W3, st3⟩ := putF X2 hx hZ hown (host := "") (Or.inl (hw _ (List.mem_of_getElem? (i := 18) rfl))) Via.refl e2 Gs2.2.2.2.1 Gs2.1 (Or.inl (hw _ (List.mem_of_getElem? (i := 19) rfl))) (hw _ (List.mem_of_getElem? (i := 1) rfl)) (ty := .int) (by decide) rfl rfl (g := (mkF m 12 #[.val (.ref r0), .val (.int p1), .val (.int p2), .val (.int p3), .val (.int p4)] [(.int p3), (.ref r0)])) rfl rfl (hb hby d3_12)
  refine own_st (B := T3.setTop (mkF m 15 #[.val (.ref r0), .val (.int p1), .val (.int p2), .val (.int p3), .val (.int p4)] [])) (fun t k => st3 t k) ?_
  have N3 := Fr.snoc X3 N2 ge
  have Gs3 := Gs2.put_right hw W3
  have Ks3 : Keep h0 h3 [r0] := Ks2.wr W3 (Or.inl (List.mem_of_getElem? (i := 0) rfl))
  refine own_st (B := T3.setTop (mkF m 18 #[.val (.ref r0), .val (.int p1), .val (.int p2), .val (.int p3), .val (.int p4)] [(.int p4), (.ref r0)])) (fun t k => ?_) ?_
  · show Steps p.tables e below (T3.setTop (mkF m 15 #[.val (.ref r0), .val (.int p1), .val (.int p2), .val (.int p3), .val (.int p4)] [])) _
    refine XS.aloadN X3.here hx rfl (hb hby d3_15) rfl rfl ?_
    show Steps p.tables e below (T3.setTop (mkF m 16 #[.val (.ref r0), .val (.int p1), .val (.int p2), .val (.int p3), .val (.int p4)] [(.ref r0)])) _
    refine XS.iload X3.here hx rfl (hb hby d3_16) rfl ?_
    exact k
  obtain ⟨T4, h4, X4, e4, W4, st4⟩ := putF X3 hx hZ hown (host := "") (Or.inl (hw _ (List.mem_of_getElem? (i := 20) rfl))) Via.refl e3 Gs3.2.2.2.2 Gs3.1 (Or.inl (hw _ (List.mem_of_getElem? (i := 21) rfl))) (hw _ (List.mem_of_getElem? (i := 1) rfl)) (ty := .int) (by decide) rfl rfl (g := (mkF m 18 #[.val (.ref r0), .val (.int p1), .val (.int p2), .val (.int p3), .val (.int p4)] [(.int p4), (.ref r0)])) rfl rfl (hb hby d3_18)
  refine own_st (B := T4.setTop (mkF m 21 #[.val (.ref r0), .val (.int p1), .val (.int p2), .val (.int p3), .val (.int p4)] [])) (fun t k => st4 t k) ?_
  have N4 := Fr.snoc X4 N3 ge
  have Gs4 := Gs3.put_bottom hw W4
  have Ks4 : Keep h0 h4 [r0] := Ks3.wr W4 (Or.inl (List.mem_of_getElem? (i := 0) rfl))
  obtain ⟨fs, hr, hrun, hended, hW, hsame⟩ := X4.leave (v := none) (fun _ => rfl)
  refine ⟨_, _, ?_, hrun, hended, _, _, rfl, ?_, ⟨_, rfl⟩, hW, hsame.mono (by decide) (by decide)⟩
  · exact X4.returnOut hx Bd.returns (hb hby d3_21) hr
  · show Q3 Z r0 p1 p2 p3 p4 x1 x2 x3 x4 h0 n0 _ T4.heap _
    rw [e4]
    exact ⟨rfl, N4, Ks4, Gs4⟩
theorem d1_0 : decode prog_25_method_1_code 0 = .ok (.aload_n 0, 1) := by decide +kernel
theorem d1_1 : decode prog_25_method_1_code 1 = .ok (.invokespecial 1, 3) := by decide +kernel
theorem d1_4 : decode prog_25_method_1_code 4 = .ok (.aload_n 0, 1) := by decide +kernel
theorem d1_5 : decode prog_25_method_1_code 5 = .ok (.iload_n 1, 1) := by decide +kernel
theorem d1_6 : decode prog_25_method_1_code 6 = .ok (.iload_n 2, 1) := by decide +kernel
theorem d1_7 : decode prog_25_method_1_code 7 = .ok (.iload_n 3, 1) := by decide +kernel
theorem d1_8 : decode prog_25_method_1_code 8 = .ok (.iload 4, 2) := by decide +kernel
theorem d1_10 : decode prog_25_method_1_code 10 = .ok (.invokevirtual 7, 3) := by decide +kernel
theorem d1_13 : decode prog_25_method_1_code 13 = .ok (.return_, 1) := by decide +kernel
theorem ef_1 (m : MethodId) (x0 : Addr) (x1 : Int32) (x2 : Int32) (x3 : Int32) (x4 : Int32) : entryFrame m #[(.ref x0), (.int x1), (.int x2), (.int x3), (.int x4)] 5 = mkF m 0 #[.val (.ref x0), .val (.int x1), .val (.int x2), .val (.int x3), .val (.int x4)] [] := by first | (simp [entryFrame, mkF, argsToLocals, Value.category]; done) | rfl
def Q1 (Z : State) (r0 : Addr) (p1 : Int32) (p2 : Int32) (p3 : Int32) (p4 : Int32) (x1 : Int32) (x2 : Int32) (x3 : Int32) (x4 : Int32) (h0 : Heap) (n0 : Nat) (v : Option Value) (h : Heap) (L : List Loc) : Prop := v = none ∧ Fr n0 L ∧ Keep h0 h [r0] ∧ own_R Z h r0 p1 p2 p3 p4
theorem pd_0 : parseMethodDescriptor "(IIII)V" = some ⟨[.int, .int, .int, .int], none⟩ := by decide +kernel
set_option maxRecDepth 65536 in
set_option maxHeartbeats 40000000 in
theorem rm1 (l : Launch) (Z : State) (a0 : Array Value) (hw : ∀ d ∈ tables_1, d.before a0 Z = true) (ws : List Jvm.Cond) (r0 : Addr) (p1 : Int32) (p2 : Int32) (p3 : Int32) (p4 : Int32) (x1 : Int32) (x2 : Int32) (x3 : Int32) (x4 : Int32) (h0 : Heap) (n0 : Nat) (Z0 : n0 ≤ h0.size) (G : own_R Z h0 r0 x1 x2 x3 x4) (ge : n0 ≤ r0) :
    MetFree l (⟨"com/example/framewright/framewright/Rect", "<init>", "(IIII)V"⟩ : MethodName) (head1 (Jvm.Cond.code (⟨"com/example/framewright/framewright/Rect", "<init>", "(IIII)V"⟩ : MethodName) prog_25_method_1_code 5 none :: ws) ({ frames := 1, cells := 0, slots := 0, locals := 16 } : Room)) (fun a U => a = #[(.ref r0), (.int p1), (.int p2), (.int p3), (.int p4)] ∧ Z.Warmed39 U.vm ∧ U.heap = h0) (fun _ _ _ _ _ => True) (fun _ U o U' => ∃ v L, o = .returned v ∧ Q1 Z r0 p1 p2 p3 p4 x1 x2 x3 x4 h0 n0 v U'.heap L ∧ FrameEnd U o U' L ({ frames := 1, cells := 0, slots := 0, locals := 16 } : Room).cells ({ frames := 1, cells := 0, slots := 0, locals := 16 } : Room).slots) := by
  refine MetFree.of_bodySF (plainFor_of_name pn_3) hisR ?_
  intro p e s m args below meth c s₁ Bd hml0 hP hK
  obtain ⟨rfl, hZ, hh⟩ := hP
  have hx := Bd.exec
  have hby := Bd.bytes
  have hml : c.maxLocals = 5 := hml0
  have hown : s.vm.findClass "com/example/framewright/framewright/Rect" = some m.cls := findClass_of_methodNamed Bd.named
  have hnm := (name_of_methodNamed Bd.named Bd.method).1
  have X0 : Stand p l e ({ frames := 1, cells := 0, slots := 0, locals := 16 } : Room) s m #[(.ref r0), (.int p1), (.int p2), (.int p3), (.int p4)] below meth c s₁ [] 0 0 := Stand.of_body Bd
  have e0 : s₁.heap = h0 := by rw [← hh, Bd.state]; rfl
  have N0 := Fr.nil n0
  show own_G p e below (fun (t : State) (o : Outcome) => t.status = .running ∧ Ended t below o ∧ ∃ v L, o = .returned v ∧ Q1 Z r0 p1 p2 p3 p4 x1 x2 x3 x4 h0 n0 v t.heap L ∧ FrameEnd s o t L ({ frames := 1, cells := 0, slots := 0, locals := 16 } : Room).cells ({ frames := 1, cells := 0, slots := 0, locals := 16 } : Room).slots) (s₁.setTop (entryFrame m #[(.ref r0), (.int p1), (.int p2), (.int p3), (.int p4)] 5))
  rw [ef_1 m r0 p1 p2 p3 p4]
  refine own_st (B := s₁.setTop (mkF m 1 #[.val (.ref r0), .val (.int p1), .val (.int p2), .val (.int p3), .val (.int p4)] [(.ref r0)])) (fun t k => ?_) ?_
  · show Steps p.tables e below (s₁.setTop (mkF m 0 #[.val (.ref r0), .val (.int p1), .val (.int p2), .val (.int p3), .val (.int p4)] [])) _
    refine XS.aloadN X0.here hx rfl (hb hby d1_0) rfl rfl ?_
    exact k
  obtain ⟨T1, X1, e1, st1⟩ := initO X0 hx hZ hown (hw _ (List.mem_of_getElem? (i := 6) rfl)) (hw _ (List.mem_of_getElem? (i := 7) rfl)) (hw _ (List.mem_of_getElem? (i := 8) rfl)) e0 (g := (mkF m 1 #[.val (.ref r0), .val (.int p1), .val (.int p2), .val (.int p3), .val (.int p4)] [(.ref r0)])) rfl (by rw [hml]; rfl) rfl (hb hby d1_1) (by decide) (W := 0) (by show 2 * 0 + _ ≤ _; exact Nat.le_of_eq rfl) (by decide)
  refine own_st (B := T1.setTop (mkF m 4 #[.val (.ref r0), .val (.int p1), .val (.int p2), .val (.int p3), .val (.int p4)] [])) (fun t k => st1 t k) ?_
  refine own_st (B := T1.setTop (mkF m 10 #[.val (.ref r0), .val (.int p1), .val (.int p2), .val (.int p3), .val (.int p4)] [(.int p4), (.int p3), (.int p2), (.int p1), (.ref r0)])) (fun t k => ?_) ?_
  · show Steps p.tables e below (T1.setTop (mkF m 4 #[.val (.ref r0), .val (.int p1), .val (.int p2), .val (.int p3), .val (.int p4)] [])) _
    refine XS.aloadN X1.here hx rfl (hb hby d1_4) rfl rfl ?_
    show Steps p.tables e below (T1.setTop (mkF m 5 #[.val (.ref r0), .val (.int p1), .val (.int p2), .val (.int p3), .val (.int p4)] [(.ref r0)])) _
    refine XS.iloadN X1.here hx rfl (hb hby d1_5) rfl ?_
    show Steps p.tables e below (T1.setTop (mkF m 6 #[.val (.ref r0), .val (.int p1), .val (.int p2), .val (.int p3), .val (.int p4)] [(.int p1), (.ref r0)])) _
    refine XS.iloadN X1.here hx rfl (hb hby d1_6) rfl ?_
    show Steps p.tables e below (T1.setTop (mkF m 7 #[.val (.ref r0), .val (.int p1), .val (.int p2), .val (.int p3), .val (.int p4)] [(.int p2), (.int p1), (.ref r0)])) _
    refine XS.iloadN X1.here hx rfl (hb hby d1_7) rfl ?_
    show Steps p.tables e below (T1.setTop (mkF m 8 #[.val (.ref r0), .val (.int p1), .val (.int p2), .val (.int p3), .val (.int p4)] [(.int p3), (.int p2), (.int p1), (.ref r0)])) _
    refine XS.iload X1.here hx rfl (hb hby d1_8) rfl ?_
    exact k
  obtain ⟨cq2, kq2, q2a, q2b, q2c⟩ := isOf hZ e1 G.1
  obtain ⟨_, _, ⟨T2, L2, k2, n2⟩, -, X2, ⟨Lc2, hQ2, l2, y2, z2⟩, st2⟩ := X1.virtualBack hx (y := (⟨"com/example/framewright/framewright/Rect", "set", "(IIII)V"⟩ : MethodName)) (z := (⟨"com/example/framewright/framewright/Rect", "set", "(IIII)V"⟩ : MethodName)) hown (mvT hZ (hw _ (List.mem_of_getElem? (i := 9) rfl))) (mvT hZ (hw _ (List.mem_of_getElem? (i := 10) rfl))) (notFace_of_selects (args := #[]) (mvT hZ (hw _ (List.mem_of_getElem? (i := 12) rfl)))) (mvT hZ (hw _ (List.mem_of_getElem? (i := 12) rfl))) (mvT hZ (hw _ (List.mem_of_getElem? (i := 11) rfl))) (by decide) (backOf (W := 0) (rm3 l Z a0 hw [] r0 p1 p2 p3 p4 x1 x2 x3 x4 h0 n0 Z0 G ge) hZ (hw _ (List.mem_of_getElem? (i := 13) rfl)) (hw _ (List.mem_of_getElem? (i := 2) rfl)) (by decide) (by decide)) q2a q2c (g := (mkF m 10 #[.val (.ref r0), .val (.int p1), .val (.int p2), .val (.int p3), .val (.int p4)] [(.int p4), (.int p3), (.int p2), (.int p1), (.ref r0)])) rfl (by rw [hml]; rfl) (Steps.refl _) (argsL := [(.int p1), (.int p2), (.int p3), (.int p4)]) (rest := []) (lenOf pd_0 rfl) rfl (by show 2 * 0 + _ ≤ _; exact Nat.le_of_eq rfl) (hb hby d1_10) (fun _ _ => ⟨rfl, e1, (by decide : 0 + 0 ≤ _), (by decide : 0 + 0 ≤ _)⟩)
  dsimp only [Pt.U, Pt.locs, Pt.cells, Pt.slots] at X2 l2 y2 z2 st2 hQ2
  subst l2 y2 z2
  obtain ⟨rfl, N2q, K, G'⟩ := hQ2
  have N2 := Fr.app N0 N2q
  refine own_st (B := T2.setTop (mkF m 13 #[.val (.ref r0), .val (.int p1), .val (.int p2), .val (.int p3), .val (.int p4)] [])) (fun t k => st2.trans k) ?_
  obtain ⟨fs, hr, hrun, hended, hW, hsame⟩ := X2.leave (v := none) (fun _ => rfl)
  refine ⟨_, _, ?_, hrun, hended, _, _, rfl, ?_, ⟨_, rfl⟩, hW, hsame.mono (by decide) (by decide)⟩
  · exact X2.returnOut hx Bd.returns (hb hby d1_13) hr
  · show Q1 Z r0 p1 p2 p3 p4 x1 x2 x3 x4 h0 n0 _ T2.heap _
    exact ⟨rfl, N2, K, G'⟩
theorem d4_0 : decode prog_25_method_7_code 0 = .ok (.aload_n 0, 1) := by decide +kernel
theorem d4_1 : decode prog_25_method_7_code 1 = .ok (.getfield 20, 3) := by decide +kernel
theorem d4_4 : decode prog_25_method_7_code 4 = .ok (.aload_n 0, 1) := by decide +kernel
theorem d4_5 : decode prog_25_method_7_code 5 = .ok (.getfield 13, 3) := by decide +kernel
theorem d4_8 : decode prog_25_method_7_code 8 = .ok (.if_icmp .le 14, 3) := by decide +kernel
theorem d4_11 : decode prog_25_method_7_code 11 = .ok (.aload_n 0, 1) := by decide +kernel
theorem d4_12 : decode prog_25_method_7_code 12 = .ok (.getfield 23, 3) := by decide +kernel
theorem d4_15 : decode prog_25_method_7_code 15 = .ok (.aload_n 0, 1) := by decide +kernel
theorem d4_16 : decode prog_25_method_7_code 16 = .ok (.getfield 17, 3) := by decide +kernel
theorem d4_19 : decode prog_25_method_7_code 19 = .ok (.if_icmp .gt 7, 3) := by decide +kernel
theorem d4_22 : decode prog_25_method_7_code 22 = .ok (.iconst 1, 1) := by decide +kernel
theorem d4_23 : decode prog_25_method_7_code 23 = .ok (.goto 4, 3) := by decide +kernel
theorem d4_26 : decode prog_25_method_7_code 26 = .ok (.iconst 0, 1) := by decide +kernel
theorem d4_27 : decode prog_25_method_7_code 27 = .ok (.ireturn, 1) := by decide +kernel
theorem ef_4 (m : MethodId) (x0 : Addr) : entryFrame m #[(.ref x0)] 1 = mkF m 0 #[.val (.ref x0)] [] := by first | (simp [entryFrame, mkF, argsToLocals, Value.category]; done) | rfl
def Q4 (Z : State) (r0 : Addr) (x1 : Int32) (x2 : Int32) (x3 : Int32) (x4 : Int32) (h0 : Heap) (n0 : Nat) (v : Option Value) (h : Heap) (L : List Loc) : Prop := v = some (.int (own_b (own_emp x1 x2 x3 x4))) ∧ Fr n0 L ∧ h = h0
set_option maxRecDepth 65536 in
set_option maxHeartbeats 40000000 in
theorem rm4 (l : Launch) (Z : State) (a0 : Array Value) (hw : ∀ d ∈ tables_1, d.before a0 Z = true) (ws : List Jvm.Cond) (r0 : Addr) (x1 : Int32) (x2 : Int32) (x3 : Int32) (x4 : Int32) (h0 : Heap) (n0 : Nat) (Z0 : n0 ≤ h0.size) (G : own_R Z h0 r0 x1 x2 x3 x4) :
    MetFree l (⟨"com/example/framewright/framewright/Rect", "isEmpty", "()Z"⟩ : MethodName) (head1 (Jvm.Cond.code (⟨"com/example/framewright/framewright/Rect", "isEmpty", "()Z"⟩ : MethodName) prog_25_method_7_code 1 (some .boolean) :: ws) ({ frames := 0, cells := 0, slots := 0, locals := 0 } : Room)) (fun a U => a = #[(.ref r0)] ∧ Z.Warmed39 U.vm ∧ U.heap = h0) (fun _ _ _ _ _ => True) (fun _ U o U' => ∃ v L, o = .returned v ∧ Q4 Z r0 x1 x2 x3 x4 h0 n0 v U'.heap L ∧ FrameEnd U o U' L ({ frames := 0, cells := 0, slots := 0, locals := 0 } : Room).cells ({ frames := 0, cells := 0, slots := 0, locals := 0 } : Room).slots) := by
  refine MetFree.of_bodySF (plainFor_of_name pn_3) hisR ?_
  intro p e s m args below meth c s₁ Bd hml0 hP hK
  obtain ⟨rfl, hZ, hh⟩ := hP
  have hx := Bd.exec
  have hby := Bd.bytes
  have hml : c.maxLocals = 1 := hml0
  have hown : s.vm.findClass "com/example/framewright/framewright/Rect" = some m.cls := findClass_of_methodNamed Bd.named
  have hnm := (name_of_methodNamed Bd.named Bd.method).1
  have X0 : Stand p l e ({ frames := 0, cells := 0, slots := 0, locals := 0 } : Room) s m #[(.ref r0)] below meth c s₁ [] 0 0 := Stand.of_body Bd
  have e0 : s₁.heap = h0 := by rw [← hh, Bd.state]; rfl
  have N0 := Fr.nil n0
  show own_G p e below (fun (t : State) (o : Outcome) => t.status = .running ∧ Ended t below o ∧ ∃ v L, o = .returned v ∧ Q4 Z r0 x1 x2 x3 x4 h0 n0 v t.heap L ∧ FrameEnd s o t L ({ frames := 0, cells := 0, slots := 0, locals := 0 } : Room).cells ({ frames := 0, cells := 0, slots := 0, locals := 0 } : Room).slots) (s₁.setTop (entryFrame m #[(.ref r0)] 1))
  rw [ef_4 m r0]
  refine own_st (B := s₁.setTop (mkF m 1 #[.val (.ref r0)] [(.ref r0)])) (fun t k => ?_) ?_
  · show Steps p.tables e below (s₁.setTop (mkF m 0 #[.val (.ref r0)] [])) _
    refine XS.aloadN X0.here hx rfl (hb hby d4_0) rfl rfl ?_
    exact k
  obtain ⟨T1, X1, e1, st1⟩ := getF X0 hx hZ hown (host := "") (Or.inl (hw _ (List.mem_of_getElem? (i := 18) rfl))) Via.refl e0 G.2.2.2.1 (g := (mkF m 1 #[.val (.ref r0)] [(.ref r0)])) rfl rfl (hb hby d4_1)
  refine own_st (B := T1.setTop (mkF m 4 #[.val (.ref r0)] [(.int x3)])) (fun t k => st1 t k) ?_
  refine own_st (B := T1.setTop (mkF m 5 #[.val (.ref r0)] [(.ref r0), (.int x3)])) (fun t k => ?_) ?_
  · show Steps p.tables e below (T1.setTop (mkF m 4 #[.val (.ref r0)] [(.int x3)])) _
    refine XS.aloadN X1.here hx rfl (hb hby d4_4) rfl rfl ?_
    exact k
  obtain ⟨T2, X2, e2, st2⟩ := getF X1 hx hZ hown (host := "") (Or.inl (hw _ (List.mem_of_getElem? (i := 14) rfl))) Via.refl e1 G.2.1 (g := (mkF m 5 #[.val (.ref r0)] [(.ref r0), (.int x3)])) rfl rfl (hb hby d4_5)
  refine own_st (B := T2.setTop (mkF m 8 #[.val (.ref r0)] [(.int x1), (.int x3)])) (fun t k => st2 t k) ?_
  by_cases h8 : x1 < x3
  · refine own_st (B := T2.setTop (mkF m 12 #[.val (.ref r0)] [(.ref r0)])) (fun t k => ?_) ?_
    · show Steps p.tables e below (T2.setTop (mkF m 8 #[.val (.ref r0)] [(.int x1), (.int x3)])) _
      refine XS.icmpNo X2.here hx rfl (hb hby d4_8) rfl (tlt h8).2.2.2 ?_
      show Steps p.tables e below (T2.setTop (mkF m 11 #[.val (.ref r0)] [])) _
      refine XS.aloadN X2.here hx rfl (hb hby d4_11) rfl rfl ?_
      exact k
    obtain ⟨T3, X3, e3, st3⟩ := getF X2 hx hZ hown (host := "") (Or.inl (hw _ (List.mem_of_getElem? (i := 20) rfl))) Via.refl e2 G.2.2.2.2 (g := (mkF m 12 #[.val (.ref r0)] [(.ref r0)])) rfl rfl (hb hby d4_12)
    refine own_st (B := T3.setTop (mkF m 15 #[.val (.ref r0)] [(.int x4)])) (fun t k => st3 t k) ?_
    refine own_st (B := T3.setTop (mkF m 16 #[.val (.ref r0)] [(.ref r0), (.int x4)])) (fun t k => ?_) ?_
    · show Steps p.tables e below (T3.setTop (mkF m 15 #[.val (.ref r0)] [(.int x4)])) _
      refine XS.aloadN X3.here hx rfl (hb hby d4_15) rfl rfl ?_
      exact k
    obtain ⟨T4, X4, e4, st4⟩ := getF X3 hx hZ hown (host := "") (Or.inl (hw _ (List.mem_of_getElem? (i := 16) rfl))) Via.refl e3 G.2.2.1 (g := (mkF m 16 #[.val (.ref r0)] [(.ref r0), (.int x4)])) rfl rfl (hb hby d4_16)
    refine own_st (B := T4.setTop (mkF m 19 #[.val (.ref r0)] [(.int x2), (.int x4)])) (fun t k => st4 t k) ?_
    by_cases h19 : x2 < x4
    · refine own_st (B := T4.setTop (mkF m 27 #[.val (.ref r0)] [(.int (0 : Int32))])) (fun t k => ?_) ?_
      · show Steps p.tables e below (T4.setTop (mkF m 19 #[.val (.ref r0)] [(.int x2), (.int x4)])) _
        refine XS.icmpYes X4.here hx rfl (pc0 := 19) (pc' := 26) rfl (hb hby d4_19) rfl (tlt h19).2.2.1 (by decide) (by decide) ?_
        show Steps p.tables e below (T4.setTop (mkF m 26 #[.val (.ref r0)] [])) _
        refine XS.iconst X4.here hx rfl (hb hby d4_26) ?_
        exact k
      obtain ⟨fs, hr, hrun, hended, hW, hsame⟩ := X4.leave (v := some (.int (0 : Int32))) (fun h => by rw [Bd.returns] at h; cases h)
      refine ⟨_, _, ?_, hrun, hended, _, _, rfl, ?_, ⟨_, rfl⟩, hW, hsame.mono (by decide) (by decide)⟩
      · exact retOut X4 hx Bd.returns rfl (Or.inl ⟨rfl, by simp, _, rfl⟩) (hb hby d4_27) hr
      · show Q4 Z r0 x1 x2 x3 x4 h0 n0 _ T4.heap _
        rw [e4]
        exact ⟨by simp [own_emp, h8, h19], N0, rfl⟩
    · refine own_st (B := T4.setTop (mkF m 27 #[.val (.ref r0)] [(.int (1 : Int32))])) (fun t k => ?_) ?_
      · show Steps p.tables e below (T4.setTop (mkF m 19 #[.val (.ref r0)] [(.int x2), (.int x4)])) _
        refine XS.icmpNo X4.here hx rfl (hb hby d4_19) rfl (flt h19).2.2.1 ?_
        show Steps p.tables e below (T4.setTop (mkF m 22 #[.val (.ref r0)] [])) _
        refine XS.iconst X4.here hx rfl (hb hby d4_22) ?_
        show Steps p.tables e below (T4.setTop (mkF m 23 #[.val (.ref r0)] [(.int (1 : Int32))])) _
        refine XS.goto X4.here hx rfl (pc0 := 23) (pc' := 27) rfl (hb hby d4_23) (by decide) (by decide) ?_
        exact k
      obtain ⟨fs, hr, hrun, hended, hW, hsame⟩ := X4.leave (v := some (.int (1 : Int32))) (fun h => by rw [Bd.returns] at h; cases h)
      refine ⟨_, _, ?_, hrun, hended, _, _, rfl, ?_, ⟨_, rfl⟩, hW, hsame.mono (by decide) (by decide)⟩
      · exact retOut X4 hx Bd.returns rfl (Or.inl ⟨rfl, by simp, _, rfl⟩) (hb hby d4_27) hr
      · show Q4 Z r0 x1 x2 x3 x4 h0 n0 _ T4.heap _
        rw [e4]
        exact ⟨by simp [own_emp, h8, h19], N0, rfl⟩
  · refine own_st (B := T2.setTop (mkF m 27 #[.val (.ref r0)] [(.int (1 : Int32))])) (fun t k => ?_) ?_
    · show Steps p.tables e below (T2.setTop (mkF m 8 #[.val (.ref r0)] [(.int x1), (.int x3)])) _
      refine XS.icmpYes X2.here hx rfl (pc0 := 8) (pc' := 22) rfl (hb hby d4_8) rfl (flt h8).2.2.2 (by decide) (by decide) ?_
      show Steps p.tables e below (T2.setTop (mkF m 22 #[.val (.ref r0)] [])) _
      refine XS.iconst X2.here hx rfl (hb hby d4_22) ?_
      show Steps p.tables e below (T2.setTop (mkF m 23 #[.val (.ref r0)] [(.int (1 : Int32))])) _
      refine XS.goto X2.here hx rfl (pc0 := 23) (pc' := 27) rfl (hb hby d4_23) (by decide) (by decide) ?_
      exact k
    obtain ⟨fs, hr, hrun, hended, hW, hsame⟩ := X2.leave (v := some (.int (1 : Int32))) (fun h => by rw [Bd.returns] at h; cases h)
    refine ⟨_, _, ?_, hrun, hended, _, _, rfl, ?_, ⟨_, rfl⟩, hW, hsame.mono (by decide) (by decide)⟩
    · exact retOut X2 hx Bd.returns rfl (Or.inl ⟨rfl, by simp, _, rfl⟩) (hb hby d4_27) hr
    · show Q4 Z r0 x1 x2 x3 x4 h0 n0 _ T2.heap _
      rw [e2]
      exact ⟨by simp [own_emp, h8], N0, rfl⟩
theorem d5_0 : decode prog_25_method_3_code 0 = .ok (.aload_n 0, 1) := by decide +kernel
theorem d5_1 : decode prog_25_method_3_code 1 = .ok (.getfield 13, 3) := by decide +kernel
theorem d5_4 : decode prog_25_method_3_code 4 = .ok (.ireturn, 1) := by decide +kernel
theorem ef_5 (m : MethodId) (x0 : Addr) : entryFrame m #[(.ref x0)] 1 = mkF m 0 #[.val (.ref x0)] [] := by first | (simp [entryFrame, mkF, argsToLocals, Value.category]; done) | rfl
def Q5 (Z : State) (r0 : Addr) (x1 : Int32) (x2 : Int32) (x3 : Int32) (x4 : Int32) (h0 : Heap) (n0 : Nat) (v : Option Value) (h : Heap) (L : List Loc) : Prop := v = some (.int x1) ∧ Fr n0 L ∧ h = h0
set_option maxRecDepth 65536 in
set_option maxHeartbeats 40000000 in
theorem rm5 (l : Launch) (Z : State) (a0 : Array Value) (hw : ∀ d ∈ tables_1, d.before a0 Z = true) (ws : List Jvm.Cond) (r0 : Addr) (x1 : Int32) (x2 : Int32) (x3 : Int32) (x4 : Int32) (h0 : Heap) (n0 : Nat) (Z0 : n0 ≤ h0.size) (G : own_R Z h0 r0 x1 x2 x3 x4) :
    MetFree l (⟨"com/example/framewright/framewright/Rect", "getLeft", "()I"⟩ : MethodName) (head1 (Jvm.Cond.code (⟨"com/example/framewright/framewright/Rect", "getLeft", "()I"⟩ : MethodName) prog_25_method_3_code 1 (some .int) :: ws) ({ frames := 0, cells := 0, slots := 0, locals := 0 } : Room)) (fun a U => a = #[(.ref r0)] ∧ Z.Warmed39 U.vm ∧ U.heap = h0) (fun _ _ _ _ _ => True) (fun _ U o U' => ∃ v L, o = .returned v ∧ Q5 Z r0 x1 x2 x3 x4 h0 n0 v U'.heap L ∧ FrameEnd U o U' L ({ frames := 0, cells := 0, slots := 0, locals := 0 } : Room).cells ({ frames := 0, cells := 0, slots := 0, locals := 0 } : Room).slots) := by
  refine MetFree.of_bodySF (plainFor_of_name pn_3) hisR ?_
  intro p e s m args below meth c s₁ Bd hml0 hP hK
  obtain ⟨rfl, hZ, hh⟩ := hP
  have hx := Bd.exec
  have hby := Bd.bytes
  have hml : c.maxLocals = 1 := hml0
  have hown : s.vm.findClass "com/example/framewright/framewright/Rect" = some m.cls := findClass_of_methodNamed Bd.named
  have hnm := (name_of_methodNamed Bd.named Bd.method).1
  have X0 : Stand p l e ({ frames := 0, cells := 0, slots := 0, locals := 0 } : Room) s m #[(.ref r0)] below meth c s₁ [] 0 0 := Stand.of_body Bd
  have e0 : s₁.heap = h0 := by rw [← hh, Bd.state]; rfl
  have N0 := Fr.nil n0
  show own_G p e below (fun (t : State) (o : Outcome) => t.status = .running ∧ Ended t below o ∧ ∃ v L, o = .returned v ∧ Q5 Z r0 x1 x2 x3 x4 h0 n0 v t.heap L ∧ FrameEnd s o t L ({ frames := 0, cells := 0, slots := 0, locals := 0 } : Room).cells ({ frames := 0, cells := 0, slots := 0, locals := 0 } : Room).slots) (s₁.setTop (entryFrame m #[(.ref r0)] 1))
  rw [ef_5 m r0]
  refine own_st (B := s₁.setTop (mkF m 1 #[.val (.ref r0)] [(.ref r0)])) (fun t k => ?_) ?_
  · show Steps p.tables e below (s₁.setTop (mkF m 0 #[.val (.ref r0)] [])) _
    refine XS.aloadN X0.here hx rfl (hb hby d5_0) rfl rfl ?_
    exact k
  obtain ⟨T1, X1, e1, st1⟩ := getF X0 hx hZ hown (host := "") (Or.inl (hw _ (List.mem_of_getElem? (i := 14) rfl))) Via.refl e0 G.2.1 (g := (mkF m 1 #[.val (.ref r0)] [(.ref r0)])) rfl rfl (hb hby d5_1)
  refine own_st (B := T1.setTop (mkF m 4 #[.val (.ref r0)] [(.int x1)])) (fun t k => st1 t k) ?_
  obtain ⟨fs, hr, hrun, hended, hW, hsame⟩ := X1.leave (v := some (.int x1)) (fun h => by rw [Bd.returns] at h; cases h)
  refine ⟨_, _, ?_, hrun, hended, _, _, rfl, ?_, ⟨_, rfl⟩, hW, hsame.mono (by decide) (by decide)⟩
  · exact retOut X1 hx Bd.returns rfl (Or.inl ⟨rfl, by simp, _, rfl⟩) (hb hby d5_4) hr
  · show Q5 Z r0 x1 x2 x3 x4 h0 n0 _ T1.heap _
    rw [e1]
    exact ⟨rfl, N0, rfl⟩
theorem d6_0 : decode prog_25_method_4_code 0 = .ok (.aload_n 0, 1) := by decide +kernel
theorem d6_1 : decode prog_25_method_4_code 1 = .ok (.getfield 17, 3) := by decide +kernel
theorem d6_4 : decode prog_25_method_4_code 4 = .ok (.ireturn, 1) := by decide +kernel
theorem ef_6 (m : MethodId) (x0 : Addr) : entryFrame m #[(.ref x0)] 1 = mkF m 0 #[.val (.ref x0)] [] := by first | (simp [entryFrame, mkF, argsToLocals, Value.category]; done) | rfl
def Q6 (Z : State) (r0 : Addr) (x1 : Int32) (x2 : Int32) (x3 : Int32) (x4 : Int32) (h0 : Heap) (n0 : Nat) (v : Option Value) (h : Heap) (L : List Loc) : Prop := v = some (.int x2) ∧ Fr n0 L ∧ h = h0
set_option maxRecDepth 65536 in
set_option maxHeartbeats 40000000 in
theorem rm6 (l : Launch) (Z : State) (a0 : Array Value) (hw : ∀ d ∈ tables_1, d.before a0 Z = true) (ws : List Jvm.Cond) (r0 : Addr) (x1 : Int32) (x2 : Int32) (x3 : Int32) (x4 : Int32) (h0 : Heap) (n0 : Nat) (Z0 : n0 ≤ h0.size) (G : own_R Z h0 r0 x1 x2 x3 x4) :
    MetFree l (⟨"com/example/framewright/framewright/Rect", "getTop", "()I"⟩ : MethodName) (head1 (Jvm.Cond.code (⟨"com/example/framewright/framewright/Rect", "getTop", "()I"⟩ : MethodName) prog_25_method_4_code 1 (some .int) :: ws) ({ frames := 0, cells := 0, slots := 0, locals := 0 } : Room)) (fun a U => a = #[(.ref r0)] ∧ Z.Warmed39 U.vm ∧ U.heap = h0) (fun _ _ _ _ _ => True) (fun _ U o U' => ∃ v L, o = .returned v ∧ Q6 Z r0 x1 x2 x3 x4 h0 n0 v U'.heap L ∧ FrameEnd U o U' L ({ frames := 0, cells := 0, slots := 0, locals := 0 } : Room).cells ({ frames := 0, cells := 0, slots := 0, locals := 0 } : Room).slots) := by
  refine MetFree.of_bodySF (plainFor_of_name pn_3) hisR ?_
  intro p e s m args below meth c s₁ Bd hml0 hP hK
  obtain ⟨rfl, hZ, hh⟩ := hP
  have hx := Bd.exec
  have hby := Bd.bytes
  have hml : c.maxLocals = 1 := hml0
  have hown : s.vm.findClass "com/example/framewright/framewright/Rect" = some m.cls := findClass_of_methodNamed Bd.named
  have hnm := (name_of_methodNamed Bd.named Bd.method).1
  have X0 : Stand p l e ({ frames := 0, cells := 0, slots := 0, locals := 0 } : Room) s m #[(.ref r0)] below meth c s₁ [] 0 0 := Stand.of_body Bd
  have e0 : s₁.heap = h0 := by rw [← hh, Bd.state]; rfl
  have N0 := Fr.nil n0
  show own_G p e below (fun (t : State) (o : Outcome) => t.status = .running ∧ Ended t below o ∧ ∃ v L, o = .returned v ∧ Q6 Z r0 x1 x2 x3 x4 h0 n0 v t.heap L ∧ FrameEnd s o t L ({ frames := 0, cells := 0, slots := 0, locals := 0 } : Room).cells ({ frames := 0, cells := 0, slots := 0, locals := 0 } : Room).slots) (s₁.setTop (entryFrame m #[(.ref r0)] 1))
  rw [ef_6 m r0]
  refine own_st (B := s₁.setTop (mkF m 1 #[.val (.ref r0)] [(.ref r0)])) (fun t k => ?_) ?_
  · show Steps p.tables e below (s₁.setTop (mkF m 0 #[.val (.ref r0)] [])) _
    refine XS.aloadN X0.here hx rfl (hb hby d6_0) rfl rfl ?_
    exact k
  obtain ⟨T1, X1, e1, st1⟩ := getF X0 hx hZ hown (host := "") (Or.inl (hw _ (List.mem_of_getElem? (i := 16) rfl))) Via.refl e0 G.2.2.1 (g := (mkF m 1 #[.val (.ref r0)] [(.ref r0)])) rfl rfl (hb hby d6_1)
  refine own_st (B := T1.setTop (mkF m 4 #[.val (.ref r0)] [(.int x2)])) (fun t k => st1 t k) ?_
  obtain ⟨fs, hr, hrun, hended, hW, hsame⟩ := X1.leave (v := some (.int x2)) (fun h => by rw [Bd.returns] at h; cases h)
  refine ⟨_, _, ?_, hrun, hended, _, _, rfl, ?_, ⟨_, rfl⟩, hW, hsame.mono (by decide) (by decide)⟩
  · exact retOut X1 hx Bd.returns rfl (Or.inl ⟨rfl, by simp, _, rfl⟩) (hb hby d6_4) hr
  · show Q6 Z r0 x1 x2 x3 x4 h0 n0 _ T1.heap _
    rw [e1]
    exact ⟨rfl, N0, rfl⟩
theorem d7_0 : decode prog_25_method_5_code 0 = .ok (.aload_n 0, 1) := by decide +kernel
theorem d7_1 : decode prog_25_method_5_code 1 = .ok (.getfield 20, 3) := by decide +kernel
theorem d7_4 : decode prog_25_method_5_code 4 = .ok (.ireturn, 1) := by decide +kernel
theorem ef_7 (m : MethodId) (x0 : Addr) : entryFrame m #[(.ref x0)] 1 = mkF m 0 #[.val (.ref x0)] [] := by first | (simp [entryFrame, mkF, argsToLocals, Value.category]; done) | rfl
def Q7 (Z : State) (r0 : Addr) (x1 : Int32) (x2 : Int32) (x3 : Int32) (x4 : Int32) (h0 : Heap) (n0 : Nat) (v : Option Value) (h : Heap) (L : List Loc) : Prop := v = some (.int x3) ∧ Fr n0 L ∧ h = h0
set_option maxRecDepth 65536 in
set_option maxHeartbeats 40000000 in
theorem rm7 (l : Launch) (Z : State) (a0 : Array Value) (hw : ∀ d ∈ tables_1, d.before a0 Z = true) (ws : List Jvm.Cond) (r0 : Addr) (x1 : Int32) (x2 : Int32) (x3 : Int32) (x4 : Int32) (h0 : Heap) (n0 : Nat) (Z0 : n0 ≤ h0.size) (G : own_R Z h0 r0 x1 x2 x3 x4) :
    MetFree l (⟨"com/example/framewright/framewright/Rect", "getRight", "()I"⟩ : MethodName) (head1 (Jvm.Cond.code (⟨"com/example/framewright/framewright/Rect", "getRight", "()I"⟩ : MethodName) prog_25_method_5_code 1 (some .int) :: ws) ({ frames := 0, cells := 0, slots := 0, locals := 0 } : Room)) (fun a U => a = #[(.ref r0)] ∧ Z.Warmed39 U.vm ∧ U.heap = h0) (fun _ _ _ _ _ => True) (fun _ U o U' => ∃ v L, o = .returned v ∧ Q7 Z r0 x1 x2 x3 x4 h0 n0 v U'.heap L ∧ FrameEnd U o U' L ({ frames := 0, cells := 0, slots := 0, locals := 0 } : Room).cells ({ frames := 0, cells := 0, slots := 0, locals := 0 } : Room).slots) := by
  refine MetFree.of_bodySF (plainFor_of_name pn_3) hisR ?_
  intro p e s m args below meth c s₁ Bd hml0 hP hK
  obtain ⟨rfl, hZ, hh⟩ := hP
  have hx := Bd.exec
  have hby := Bd.bytes
  have hml : c.maxLocals = 1 := hml0
  have hown : s.vm.findClass "com/example/framewright/framewright/Rect" = some m.cls := findClass_of_methodNamed Bd.named
  have hnm := (name_of_methodNamed Bd.named Bd.method).1
  have X0 : Stand p l e ({ frames := 0, cells := 0, slots := 0, locals := 0 } : Room) s m #[(.ref r0)] below meth c s₁ [] 0 0 := Stand.of_body Bd
  have e0 : s₁.heap = h0 := by rw [← hh, Bd.state]; rfl
  have N0 := Fr.nil n0
  show own_G p e below (fun (t : State) (o : Outcome) => t.status = .running ∧ Ended t below o ∧ ∃ v L, o = .returned v ∧ Q7 Z r0 x1 x2 x3 x4 h0 n0 v t.heap L ∧ FrameEnd s o t L ({ frames := 0, cells := 0, slots := 0, locals := 0 } : Room).cells ({ frames := 0, cells := 0, slots := 0, locals := 0 } : Room).slots) (s₁.setTop (entryFrame m #[(.ref r0)] 1))
  rw [ef_7 m r0]
  refine own_st (B := s₁.setTop (mkF m 1 #[.val (.ref r0)] [(.ref r0)])) (fun t k => ?_) ?_
  · show Steps p.tables e below (s₁.setTop (mkF m 0 #[.val (.ref r0)] [])) _
    refine XS.aloadN X0.here hx rfl (hb hby d7_0) rfl rfl ?_
    exact k
  obtain ⟨T1, X1, e1, st1⟩ := getF X0 hx hZ hown (host := "") (Or.inl (hw _ (List.mem_of_getElem? (i := 18) rfl))) Via.refl e0 G.2.2.2.1 (g := (mkF m 1 #[.val (.ref r0)] [(.ref r0)])) rfl rfl (hb hby d7_1)
  refine own_st (B := T1.setTop (mkF m 4 #[.val (.ref r0)] [(.int x3)])) (fun t k => st1 t k) ?_
  obtain ⟨fs, hr, hrun, hended, hW, hsame⟩ := X1.leave (v := some (.int x3)) (fun h => by rw [Bd.returns] at h; cases h)
  refine ⟨_, _, ?_, hrun, hended, _, _, rfl, ?_, ⟨_, rfl⟩, hW, hsame.mono (by decide) (by decide)⟩
  · exact retOut X1 hx Bd.returns rfl (Or.inl ⟨rfl, by simp, _, rfl⟩) (hb hby d7_4) hr
  · show Q7 Z r0 x1 x2 x3 x4 h0 n0 _ T1.heap _
    rw [e1]
    exact ⟨rfl, N0, rfl⟩
theorem d8_0 : decode prog_25_method_6_code 0 = .ok (.aload_n 0, 1) := by decide +kernel
theorem d8_1 : decode prog_25_method_6_code 1 = .ok (.getfield 23, 3) := by decide +kernel
theorem d8_4 : decode prog_25_method_6_code 4 = .ok (.ireturn, 1) := by decide +kernel
theorem ef_8 (m : MethodId) (x0 : Addr) : entryFrame m #[(.ref x0)] 1 = mkF m 0 #[.val (.ref x0)] [] := by first | (simp [entryFrame, mkF, argsToLocals, Value.category]; done) | rfl
def Q8 (Z : State) (r0 : Addr) (x1 : Int32) (x2 : Int32) (x3 : Int32) (x4 : Int32) (h0 : Heap) (n0 : Nat) (v : Option Value) (h : Heap) (L : List Loc) : Prop := v = some (.int x4) ∧ Fr n0 L ∧ h = h0
set_option maxRecDepth 65536 in
set_option maxHeartbeats 40000000 in
theorem rm8 (l : Launch) (Z : State) (a0 : Array Value) (hw : ∀ d ∈ tables_1, d.before a0 Z = true) (ws : List Jvm.Cond) (r0 : Addr) (x1 : Int32) (x2 : Int32) (x3 : Int32) (x4 : Int32) (h0 : Heap) (n0 : Nat) (Z0 : n0 ≤ h0.size) (G : own_R Z h0 r0 x1 x2 x3 x4) :
    MetFree l (⟨"com/example/framewright/framewright/Rect", "getBottom", "()I"⟩ : MethodName) (head1 (Jvm.Cond.code (⟨"com/example/framewright/framewright/Rect", "getBottom", "()I"⟩ : MethodName) prog_25_method_6_code 1 (some .int) :: ws) ({ frames := 0, cells := 0, slots := 0, locals := 0 } : Room)) (fun a U => a = #[(.ref r0)] ∧ Z.Warmed39 U.vm ∧ U.heap = h0) (fun _ _ _ _ _ => True) (fun _ U o U' => ∃ v L, o = .returned v ∧ Q8 Z r0 x1 x2 x3 x4 h0 n0 v U'.heap L ∧ FrameEnd U o U' L ({ frames := 0, cells := 0, slots := 0, locals := 0 } : Room).cells ({ frames := 0, cells := 0, slots := 0, locals := 0 } : Room).slots) := by
  refine MetFree.of_bodySF (plainFor_of_name pn_3) hisR ?_
  intro p e s m args below meth c s₁ Bd hml0 hP hK
  obtain ⟨rfl, hZ, hh⟩ := hP
  have hx := Bd.exec
  have hby := Bd.bytes
  have hml : c.maxLocals = 1 := hml0
  have hown : s.vm.findClass "com/example/framewright/framewright/Rect" = some m.cls := findClass_of_methodNamed Bd.named
  have hnm := (name_of_methodNamed Bd.named Bd.method).1
  have X0 : Stand p l e ({ frames := 0, cells := 0, slots := 0, locals := 0 } : Room) s m #[(.ref r0)] below meth c s₁ [] 0 0 := Stand.of_body Bd
  have e0 : s₁.heap = h0 := by rw [← hh, Bd.state]; rfl
  have N0 := Fr.nil n0
  show own_G p e below (fun (t : State) (o : Outcome) => t.status = .running ∧ Ended t below o ∧ ∃ v L, o = .returned v ∧ Q8 Z r0 x1 x2 x3 x4 h0 n0 v t.heap L ∧ FrameEnd s o t L ({ frames := 0, cells := 0, slots := 0, locals := 0 } : Room).cells ({ frames := 0, cells := 0, slots := 0, locals := 0 } : Room).slots) (s₁.setTop (entryFrame m #[(.ref r0)] 1))
  rw [ef_8 m r0]
  refine own_st (B := s₁.setTop (mkF m 1 #[.val (.ref r0)] [(.ref r0)])) (fun t k => ?_) ?_
  · show Steps p.tables e below (s₁.setTop (mkF m 0 #[.val (.ref r0)] [])) _
    refine XS.aloadN X0.here hx rfl (hb hby d8_0) rfl rfl ?_
    exact k
  obtain ⟨T1, X1, e1, st1⟩ := getF X0 hx hZ hown (host := "") (Or.inl (hw _ (List.mem_of_getElem? (i := 20) rfl))) Via.refl e0 G.2.2.2.2 (g := (mkF m 1 #[.val (.ref r0)] [(.ref r0)])) rfl rfl (hb hby d8_1)
  refine own_st (B := T1.setTop (mkF m 4 #[.val (.ref r0)] [(.int x4)])) (fun t k => st1 t k) ?_
  obtain ⟨fs, hr, hrun, hended, hW, hsame⟩ := X1.leave (v := some (.int x4)) (fun h => by rw [Bd.returns] at h; cases h)
  refine ⟨_, _, ?_, hrun, hended, _, _, rfl, ?_, ⟨_, rfl⟩, hW, hsame.mono (by decide) (by decide)⟩
  · exact retOut X1 hx Bd.returns rfl (Or.inl ⟨rfl, by simp, _, rfl⟩) (hb hby d8_4) hr
  · show Q8 Z r0 x1 x2 x3 x4 h0 n0 _ T1.heap _
    rw [e1]
    exact ⟨rfl, N0, rfl⟩
theorem pn_0 : plainName "com/example/framewright/framewright/RectIsEmptyPinLaw" = true := by first | (simp [plainName, overriddenIn]; done) | decide +kernel
theorem ef_0 (m : MethodId) (x0 : Int32) (x1 : Int32) (x2 : Int32) (x3 : Int32) : entryFrame m #[(.int x0), (.int x1), (.int x2), (.int x3)] maxLocals = mkF m 0 #[.val (.int x0), .val (.int x1), .val (.int x2), .val (.int x3), .unset, .unset, .unset, .unset, .unset, .unset, .unset, .unset, .unset] [] := by first | (simp [entryFrame, mkF, argsToLocals, Value.category, maxLocals]; done) | rfl
def Q0 (Z : State) (p0 : Int32) (p1 : Int32) (p2 : Int32) (p3 : Int32) (h0 : Heap) (n0 : Nat) (v : Option Value) (h : Heap) (L : List Loc) : Prop := v = some (.int (1 : Int32)) ∧ Fr n0 L
theorem pd_1 : parseMethodDescriptor "()Z" = some ⟨[], some .boolean⟩ := by decide +kernel
theorem pd_2 : parseMethodDescriptor "()I" = some ⟨[], some .int⟩ := by decide +kernel
set_option maxRecDepth 65536 in
set_option maxHeartbeats 40000000 in
theorem rm0 (l : Launch) (Z : State) (a0 : Array Value) (hw : ∀ d ∈ tables_1, d.before a0 Z = true) (ws : List Jvm.Cond) (p0 : Int32) (p1 : Int32) (p2 : Int32) (p3 : Int32) (h0 : Heap) (n0 : Nat) (Z0 : n0 ≤ h0.size) :
    MetFree l x (head1 (Jvm.Cond.code x code maxLocals ret :: ws) room_1) (fun a U => a = #[(.int p0), (.int p1), (.int p2), (.int p3)] ∧ Z.Warmed39 U.vm ∧ U.heap = h0) (fun _ _ _ _ _ => True) (fun _ U o U' => ∃ v L, o = .returned v ∧ Q0 Z p0 p1 p2 p3 h0 n0 v U'.heap L ∧ FrameEnd U o U' L room_1.cells room_1.slots) := by
  refine MetFree.of_bodySF (plainFor_of_name pn_0) hisR ?_
  intro p e s m args below meth c s₁ Bd hml0 hP hK
  obtain ⟨rfl, hZ, hh⟩ := hP
  have hx := Bd.exec
  have hby := Bd.bytes
  have hml : c.maxLocals = 13 := hml0
  have hown : s.vm.findClass "com/example/framewright/framewright/RectIsEmptyPinLaw" = some m.cls := findClass_of_methodNamed Bd.named
  have hnm := (name_of_methodNamed Bd.named Bd.method).1
  have X0 : Stand p l e room_1 s m #[(.int p0), (.int p1), (.int p2), (.int p3)] below meth c s₁ [] 0 0 := Stand.of_body Bd
  have e0 : s₁.heap = h0 := by rw [← hh, Bd.state]; rfl
  have N0 := Fr.nil n0
  show own_G p e below (fun (t : State) (o : Outcome) => t.status = .running ∧ Ended t below o ∧ ∃ v L, o = .returned v ∧ Q0 Z p0 p1 p2 p3 h0 n0 v t.heap L ∧ FrameEnd s o t L room_1.cells room_1.slots) (s₁.setTop (entryFrame m #[(.int p0), (.int p1), (.int p2), (.int p3)] maxLocals))
  rw [ef_0 m p0 p1 p2 p3]
  obtain ⟨T1, h1, X1, e1, E1, A1, D1, -, st1⟩ := newO X0 hx hZ hown (hw _ (List.mem_of_getElem? (i := 0) rfl)) (hw _ (List.mem_of_getElem? (i := 1) rfl)) (hw _ (List.mem_of_getElem? (i := 2) rfl)) e0 (g := (mkF m 0 #[.val (.int p0), .val (.int p1), .val (.int p2), .val (.int p3), .unset, .unset, .unset, .unset, .unset, .unset, .unset, .unset, .unset] [])) rfl (hb hby at_0) (by decide) (by decide)
  obtain ⟨b, g1⟩ : ∃ z, z = h0.size := ⟨_, rfl⟩
  rw [← g1] at A1 D1 st1
  refine own_st (B := T1.setTop (mkF m 3 #[.val (.int p0), .val (.int p1), .val (.int p2), .val (.int p3), .unset, .unset, .unset, .unset, .unset, .unset, .unset, .unset, .unset] [(.ref b)])) (fun t k => st1 t k) ?_
  have G0 := own_R.new hw A1 D1
  have gb : n0 ≤ b := Nat.le_trans Z0 (Nat.le_of_eq g1.symm)
  have Zb : n0 ≤ h1.size := Nat.le_trans Z0 E1.1
  refine own_st (B := T1.setTop (mkF m 8 #[.val (.int p0), .val (.int p1), .val (.int p2), .val (.int p3), .unset, .unset, .unset, .unset, .unset, .unset, .unset, .unset, .unset] [(.int p3), (.int p2), (.int p1), (.int p0), (.ref b), (.ref b)])) (fun t k => ?_) ?_
  · show Steps p.tables e below (T1.setTop (mkF m 3 #[.val (.int p0), .val (.int p1), .val (.int p2), .val (.int p3), .unset, .unset, .unset, .unset, .unset, .unset, .unset, .unset, .unset] [(.ref b)])) _
    refine XS.dup X1.here hx rfl (hb hby at_3) rfl rfl ?_
    show Steps p.tables e below (T1.setTop (mkF m 4 #[.val (.int p0), .val (.int p1), .val (.int p2), .val (.int p3), .unset, .unset, .unset, .unset, .unset, .unset, .unset, .unset, .unset] [(.ref b), (.ref b)])) _
    refine XS.iloadN X1.here hx rfl (hb hby at_4) rfl ?_
    show Steps p.tables e below (T1.setTop (mkF m 5 #[.val (.int p0), .val (.int p1), .val (.int p2), .val (.int p3), .unset, .unset, .unset, .unset, .unset, .unset, .unset, .unset, .unset] [(.int p0), (.ref b), (.ref b)])) _
    refine XS.iloadN X1.here hx rfl (hb hby at_5) rfl ?_
    show Steps p.tables e below (T1.setTop (mkF m 6 #[.val (.int p0), .val (.int p1), .val (.int p2), .val (.int p3), .unset, .unset, .unset, .unset, .unset, .unset, .unset, .unset, .unset] [(.int p1), (.int p0), (.ref b), (.ref b)])) _
    refine XS.iloadN X1.here hx rfl (hb hby at_6) rfl ?_
    show Steps p.tables e below (T1.setTop (mkF m 7 #[.val (.int p0), .val (.int p1), .val (.int p2), .val (.int p3), .unset, .unset, .unset, .unset, .unset, .unset, .unset, .unset, .unset] [(.int p2), (.int p1), (.int p0), (.ref b), (.ref b)])) _
    refine XS.iloadN X1.here hx rfl (hb hby at_7) rfl ?_
    exact k
  obtain ⟨_, _, ⟨T2, L2, k2, n2⟩, -, X2, ⟨Lc2, hQ2, l2, y2, z2⟩, st2⟩ := X1.specialBack hx (y := (⟨"com/example/framewright/framewright/Rect", "<init>", "(IIII)V"⟩ : MethodName)) rfl hown (mvT hZ (hw _ (List.mem_of_getElem? (i := 3) rfl))) (mvT hZ (hw _ (List.mem_of_getElem? (i := 4) rfl))) (mvT hZ (hw _ (List.mem_of_getElem? (i := 5) rfl))) (by decide) (backOf (W := 1) (rm1 l Z a0 hw [] b p0 p1 p2 p3 0 0 0 0 h1 n0 Zb G0 gb) hZ (hw _ (List.mem_of_getElem? (i := 5) rfl)) (hw _ (List.mem_of_getElem? (i := 2) rfl)) (by decide) (by decide)) (g := (mkF m 8 #[.val (.int p0), .val (.int p1), .val (.int p2), .val (.int p3), .unset, .unset, .unset, .unset, .unset, .unset, .unset, .unset, .unset] [(.int p3), (.int p2), (.int p1), (.int p0), (.ref b), (.ref b)])) rfl (by rw [hml]; rfl) (Steps.refl _) (a := b) (argsL := [(.int p0), (.int p1), (.int p2), (.int p3)]) (rest := [(.ref b)]) (lenOf pd_0 rfl) rfl (by show 2 * 0 + _ ≤ _; exact Nat.le_of_eq rfl) (hb hby at_8) (fun _ _ => ⟨rfl, e1, (by decide : 1 + 0 ≤ _), (by decide : 4 + 0 ≤ _)⟩)
  dsimp only [Pt.U, Pt.locs, Pt.cells, Pt.slots] at X2 l2 y2 z2 st2 hQ2
  subst l2 y2 z2
  obtain ⟨rfl, N2q, K1, G⟩ := hQ2
  have N2 := Fr.app N0 N2q
  refine own_st (B := T2.setTop (mkF m 11 #[.val (.int p0), .val (.int p1), .val (.int p2), .val (.int p3), .unset, .unset, .unset, .unset, .unset, .unset, .unset, .unset, .unset] [(.ref b)])) (fun t k => st2.trans k) ?_
  have Zc : n0 ≤ T2.heap.size := Nat.le_trans Zb K1.1
  refine own_st (B := T2.setTop (mkF m 31 #[.val (.int p0), .val (.int p1), .val (.int p2), .val (.int p3), .val (.ref b), .val (.long ((p2.toInt64) - (p0.toInt64))), .second, .val (.long ((p3.toInt64) - (p1.toInt64))), .second, .unset, .unset, .unset, .unset] [(.int (lcmpW ((p2.toInt64) - (p0.toInt64)) (0 : Int64)))])) (fun t k => ?_) ?_
  · show Steps p.tables e below (T2.setTop (mkF m 11 #[.val (.int p0), .val (.int p1), .val (.int p2), .val (.int p3), .unset, .unset, .unset, .unset, .unset, .unset, .unset, .unset, .unset] [(.ref b)])) _
    refine XS.astore X2.here hx rfl (hb hby at_11) rfl rfl (l' := #[.val (.int p0), .val (.int p1), .val (.int p2), .val (.int p3), .val (.ref b), .unset, .unset, .unset, .unset, .unset, .unset, .unset, .unset]) rfl ?_
    show Steps p.tables e below (T2.setTop (mkF m 13 #[.val (.int p0), .val (.int p1), .val (.int p2), .val (.int p3), .val (.ref b), .unset, .unset, .unset, .unset, .unset, .unset, .unset, .unset] [])) _
    refine XS.iloadN X2.here hx rfl (hb hby at_13) rfl ?_
    show Steps p.tables e below (T2.setTop (mkF m 14 #[.val (.int p0), .val (.int p1), .val (.int p2), .val (.int p3), .val (.ref b), .unset, .unset, .unset, .unset, .unset, .unset, .unset, .unset] [(.int p2)])) _
    refine XS.i2l X2.here hx rfl (hb hby at_14) rfl ?_
    show Steps p.tables e below (T2.setTop (mkF m 15 #[.val (.int p0), .val (.int p1), .val (.int p2), .val (.int p3), .val (.ref b), .unset, .unset, .unset, .unset, .unset, .unset, .unset, .unset] [(.long (p2.toInt64))])) _
    refine XS.iloadN X2.here hx rfl (hb hby at_15) rfl ?_
    show Steps p.tables e below (T2.setTop (mkF m 16 #[.val (.int p0), .val (.int p1), .val (.int p2), .val (.int p3), .val (.ref b), .unset, .unset, .unset, .unset, .unset, .unset, .unset, .unset] [(.int p0), (.long (p2.toInt64))])) _
    refine XS.i2l X2.here hx rfl (hb hby at_16) rfl ?_
    show Steps p.tables e below (T2.setTop (mkF m 17 #[.val (.int p0), .val (.int p1), .val (.int p2), .val (.int p3), .val (.ref b), .unset, .unset, .unset, .unset, .unset, .unset, .unset, .unset] [(.long (p0.toInt64)), (.long (p2.toInt64))])) _
    refine XS.lsub X2.here hx rfl (hb hby at_17) rfl ?_
    show Steps p.tables e below (T2.setTop (mkF m 18 #[.val (.int p0), .val (.int p1), .val (.int p2), .val (.int p3), .val (.ref b), .unset, .unset, .unset, .unset, .unset, .unset, .unset, .unset] [(.long ((p2.toInt64) - (p0.toInt64)))])) _
    refine XS.lstore X2.here hx rfl (hb hby at_18) rfl (l' := #[.val (.int p0), .val (.int p1), .val (.int p2), .val (.int p3), .val (.ref b), .val (.long ((p2.toInt64) - (p0.toInt64))), .second, .unset, .unset, .unset, .unset, .unset, .unset]) rfl ?_
    show Steps p.tables e below (T2.setTop (mkF m 20 #[.val (.int p0), .val (.int p1), .val (.int p2), .val (.int p3), .val (.ref b), .val (.long ((p2.toInt64) - (p0.toInt64))), .second, .unset, .unset, .unset, .unset, .unset, .unset] [])) _
    refine XS.iloadN X2.here hx rfl (hb hby at_20) rfl ?_
    show Steps p.tables e below (T2.setTop (mkF m 21 #[.val (.int p0), .val (.int p1), .val (.int p2), .val (.int p3), .val (.ref b), .val (.long ((p2.toInt64) - (p0.toInt64))), .second, .unset, .unset, .unset, .unset, .unset, .unset] [(.int p3)])) _
    refine XS.i2l X2.here hx rfl (hb hby at_21) rfl ?_
    show Steps p.tables e below (T2.setTop (mkF m 22 #[.val (.int p0), .val (.int p1), .val (.int p2), .val (.int p3), .val (.ref b), .val (.long ((p2.toInt64) - (p0.toInt64))), .second, .unset, .unset, .unset, .unset, .unset, .unset] [(.long (p3.toInt64))])) _
    refine XS.iloadN X2.here hx rfl (hb hby at_22) rfl ?_
    show Steps p.tables e below (T2.setTop (mkF m 23 #[.val (.int p0), .val (.int p1), .val (.int p2), .val (.int p3), .val (.ref b), .val (.long ((p2.toInt64) - (p0.toInt64))), .second, .unset, .unset, .unset, .unset, .unset, .unset] [(.int p1), (.long (p3.toInt64))])) _
    refine XS.i2l X2.here hx rfl (hb hby at_23) rfl ?_
    show Steps p.tables e below (T2.setTop (mkF m 24 #[.val (.int p0), .val (.int p1), .val (.int p2), .val (.int p3), .val (.ref b), .val (.long ((p2.toInt64) - (p0.toInt64))), .second, .unset, .unset, .unset, .unset, .unset, .unset] [(.long (p1.toInt64)), (.long (p3.toInt64))])) _
    refine XS.lsub X2.here hx rfl (hb hby at_24) rfl ?_
    show Steps p.tables e below (T2.setTop (mkF m 25 #[.val (.int p0), .val (.int p1), .val (.int p2), .val (.int p3), .val (.ref b), .val (.long ((p2.toInt64) - (p0.toInt64))), .second, .unset, .unset, .unset, .unset, .unset, .unset] [(.long ((p3.toInt64) - (p1.toInt64)))])) _
    refine XS.lstore X2.here hx rfl (hb hby at_25) rfl (l' := #[.val (.int p0), .val (.int p1), .val (.int p2), .val (.int p3), .val (.ref b), .val (.long ((p2.toInt64) - (p0.toInt64))), .second, .val (.long ((p3.toInt64) - (p1.toInt64))), .second, .unset, .unset, .unset, .unset]) rfl ?_
    show Steps p.tables e below (T2.setTop (mkF m 27 #[.val (.int p0), .val (.int p1), .val (.int p2), .val (.int p3), .val (.ref b), .val (.long ((p2.toInt64) - (p0.toInt64))), .second, .val (.long ((p3.toInt64) - (p1.toInt64))), .second, .unset, .unset, .unset, .unset] [])) _
    refine XS.lload X2.here hx rfl (hb hby at_27) rfl ?_
    show Steps p.tables e below (T2.setTop (mkF m 29 #[.val (.int p0), .val (.int p1), .val (.int p2), .val (.int p3), .val (.ref b), .val (.long ((p2.toInt64) - (p0.toInt64))), .second, .val (.long ((p3.toInt64) - (p1.toInt64))), .second, .unset, .unset, .unset, .unset] [(.long ((p2.toInt64) - (p0.toInt64)))])) _
    refine XS.lconst X2.here hx rfl (hb hby at_29) ?_
    show Steps p.tables e below (T2.setTop (mkF m 30 #[.val (.int p0), .val (.int p1), .val (.int p2), .val (.int p3), .val (.ref b), .val (.long ((p2.toInt64) - (p0.toInt64))), .second, .val (.long ((p3.toInt64) - (p1.toInt64))), .second, .unset, .unset, .unset, .unset] [(.long (0 : Int64)), (.long ((p2.toInt64) - (p0.toInt64)))])) _
    refine XS.lcmp X2.here hx rfl (hb hby at_30) rfl ?_
    exact k
  have k46 : own_G p e below (fun (t : State) (o : Outcome) => t.status = .running ∧ Ended t below o ∧ ∃ v L, o = .returned v ∧ Q0 Z p0 p1 p2 p3 h0 n0 v t.heap L ∧ FrameEnd s o t L room_1.cells room_1.slots) (T2.setTop (mkF m 46 #[.val (.int p0), .val (.int p1), .val (.int p2), .val (.int p3), .val (.ref b), .val (.long ((p2.toInt64) - (p0.toInt64))), .second, .val (.long ((p3.toInt64) - (p1.toInt64))), .second, .unset, .unset, .unset, .unset] [(.int (own_b (own_emp p0 p1 p2 p3)))])) := by
    refine own_st (B := T2.setTop (mkF m 50 #[.val (.int p0), .val (.int p1), .val (.int p2), .val (.int p3), .val (.ref b), .val (.long ((p2.toInt64) - (p0.toInt64))), .second, .val (.long ((p3.toInt64) - (p1.toInt64))), .second, .val (.int (own_b (own_emp p0 p1 p2 p3))), .unset, .unset, .unset] [(.ref b)])) (fun t k => ?_) ?_
    · show Steps p.tables e below (T2.setTop (mkF m 46 #[.val (.int p0), .val (.int p1), .val (.int p2), .val (.int p3), .val (.ref b), .val (.long ((p2.toInt64) - (p0.toInt64))), .second, .val (.long ((p3.toInt64) - (p1.toInt64))), .second, .unset, .unset, .unset, .unset] [(.int (own_b (own_emp p0 p1 p2 p3)))])) _
      refine XS.istore X2.here hx rfl (hb hby at_46) rfl (l' := #[.val (.int p0), .val (.int p1), .val (.int p2), .val (.int p3), .val (.ref b), .val (.long ((p2.toInt64) - (p0.toInt64))), .second, .val (.long ((p3.toInt64) - (p1.toInt64))), .second, .val (.int (own_b (own_emp p0 p1 p2 p3))), .unset, .unset, .unset]) rfl ?_
      show Steps p.tables e below (T2.setTop (mkF m 48 #[.val (.int p0), .val (.int p1), .val (.int p2), .val (.int p3), .val (.ref b), .val (.long ((p2.toInt64) - (p0.toInt64))), .second, .val (.long ((p3.toInt64) - (p1.toInt64))), .second, .val (.int (own_b (own_emp p0 p1 p2 p3))), .unset, .unset, .unset] [])) _
      refine XS.aload X2.here hx rfl (hb hby at_48) rfl rfl ?_
      exact k
    obtain ⟨cq3, kq3, q3a, q3b, q3c⟩ := isOf hZ rfl G.1
    obtain ⟨_, _, ⟨T3, L3, k3, n3⟩, -, X3, ⟨Lc3, hQ3, l3, y3, z3⟩, st3⟩ := X2.virtualBack hx (y := (⟨"com/example/framewright/framewright/Rect", "isEmpty", "()Z"⟩ : MethodName)) (z := (⟨"com/example/framewright/framewright/Rect", "isEmpty", "()Z"⟩ : MethodName)) hown (mvT hZ (hw _ (List.mem_of_getElem? (i := 22) rfl))) (mvT hZ (hw _ (List.mem_of_getElem? (i := 23) rfl))) (notFace_of_selects (args := #[]) (mvT hZ (hw _ (List.mem_of_getElem? (i := 25) rfl)))) (mvT hZ (hw _ (List.mem_of_getElem? (i := 25) rfl))) (mvT hZ (hw _ (List.mem_of_getElem? (i := 24) rfl))) (by decide) (backOf (W := 0) (rm4 l Z a0 hw [] b p0 p1 p2 p3 T2.heap n0 Zc G) hZ (hw _ (List.mem_of_getElem? (i := 26) rfl)) (hw _ (List.mem_of_getElem? (i := 2) rfl)) (by decide) (by decide)) q3a q3c (g := (mkF m 50 #[.val (.int p0), .val (.int p1), .val (.int p2), .val (.int p3), .val (.ref b), .val (.long ((p2.toInt64) - (p0.toInt64))), .second, .val (.long ((p3.toInt64) - (p1.toInt64))), .second, .val (.int (own_b (own_emp p0 p1 p2 p3))), .unset, .unset, .unset] [(.ref b)])) rfl (by rw [hml]; rfl) (Steps.refl _) (argsL := []) (rest := []) (lenOf pd_1 rfl) rfl (by show 2 * 0 + _ ≤ _; exact Nat.le_of_eq rfl) (hb hby at_50) (fun _ _ => ⟨rfl, rfl, (by decide : 1 + 0 ≤ _), (by decide : 4 + 0 ≤ _)⟩)
    dsimp only [Pt.U, Pt.locs, Pt.cells, Pt.slots] at X3 l3 y3 z3 st3 hQ3
    subst l3 y3 z3
    obtain ⟨rfl, N3q, e3⟩ := hQ3
    have N3 := Fr.app N2 N3q
    refine own_st (B := T3.setTop (mkF m 53 #[.val (.int p0), .val (.int p1), .val (.int p2), .val (.int p3), .val (.ref b), .val (.long ((p2.toInt64) - (p0.toInt64))), .second, .val (.long ((p3.toInt64) - (p1.toInt64))), .second, .val (.int (own_b (own_emp p0 p1 p2 p3))), .unset, .unset, .unset] [(.int (own_b (own_emp p0 p1 p2 p3)))])) (fun t k => st3.trans k) ?_
    refine own_st (B := T3.setTop (mkF m 57 #[.val (.int p0), .val (.int p1), .val (.int p2), .val (.int p3), .val (.ref b), .val (.long ((p2.toInt64) - (p0.toInt64))), .second, .val (.long ((p3.toInt64) - (p1.toInt64))), .second, .val (.int (own_b (own_emp p0 p1 p2 p3))), .val (.int (own_b (own_emp p0 p1 p2 p3))), .unset, .unset] [(.ref b)])) (fun t k => ?_) ?_
    · show Steps p.tables e below (T3.setTop (mkF m 53 #[.val (.int p0), .val (.int p1), .val (.int p2), .val (.int p3), .val (.ref b), .val (.long ((p2.toInt64) - (p0.toInt64))), .second, .val (.long ((p3.toInt64) - (p1.toInt64))), .second, .val (.int (own_b (own_emp p0 p1 p2 p3))), .unset, .unset, .unset] [(.int (own_b (own_emp p0 p1 p2 p3)))])) _
      refine XS.istore X3.here hx rfl (hb hby at_53) rfl (l' := #[.val (.int p0), .val (.int p1), .val (.int p2), .val (.int p3), .val (.ref b), .val (.long ((p2.toInt64) - (p0.toInt64))), .second, .val (.long ((p3.toInt64) - (p1.toInt64))), .second, .val (.int (own_b (own_emp p0 p1 p2 p3))), .val (.int (own_b (own_emp p0 p1 p2 p3))), .unset, .unset]) rfl ?_
      show Steps p.tables e below (T3.setTop (mkF m 55 #[.val (.int p0), .val (.int p1), .val (.int p2), .val (.int p3), .val (.ref b), .val (.long ((p2.toInt64) - (p0.toInt64))), .second, .val (.long ((p3.toInt64) - (p1.toInt64))), .second, .val (.int (own_b (own_emp p0 p1 p2 p3))), .val (.int (own_b (own_emp p0 p1 p2 p3))), .unset, .unset] [])) _
      refine XS.aload X3.here hx rfl (hb hby at_55) rfl rfl ?_
      exact k
    obtain ⟨cq4, kq4, q4a, q4b, q4c⟩ := isOf hZ e3 G.1
    obtain ⟨_, _, ⟨T4, L4, k4, n4⟩, -, X4, ⟨Lc4, hQ4, l4, y4, z4⟩, st4⟩ := X3.virtualBack hx (y := (⟨"com/example/framewright/framewright/Rect", "isEmpty", "()Z"⟩ : MethodName)) (z := (⟨"com/example/framewright/framewright/Rect", "isEmpty", "()Z"⟩ : MethodName)) hown (mvT hZ (hw _ (List.mem_of_getElem? (i := 22) rfl))) (mvT hZ (hw _ (List.mem_of_getElem? (i := 23) rfl))) (notFace_of_selects (args := #[]) (mvT hZ (hw _ (List.mem_of_getElem? (i := 25) rfl)))) (mvT hZ (hw _ (List.mem_of_getElem? (i := 25) rfl))) (mvT hZ (hw _ (List.mem_of_getElem? (i := 24) rfl))) (by decide) (backOf (W := 0) (rm4 l Z a0 hw [] b p0 p1 p2 p3 T2.heap n0 Zc G) hZ (hw _ (List.mem_of_getElem? (i := 26) rfl)) (hw _ (List.mem_of_getElem? (i := 2) rfl)) (by decide) (by decide)) q4a q4c (g := (mkF m 57 #[.val (.int p0), .val (.int p1), .val (.int p2), .val (.int p3), .val (.ref b), .val (.long ((p2.toInt64) - (p0.toInt64))), .second, .val (.long ((p3.toInt64) - (p1.toInt64))), .second, .val (.int (own_b (own_emp p0 p1 p2 p3))), .val (.int (own_b (own_emp p0 p1 p2 p3))), .unset, .unset] [(.ref b)])) rfl (by rw [hml]; rfl) (Steps.refl _) (argsL := []) (rest := []) (lenOf pd_1 rfl) rfl (by show 2 * 0 + _ ≤ _; exact Nat.le_of_eq rfl) (hb hby at_57) (fun _ _ => ⟨rfl, e3, (by decide : 1 + 0 ≤ _), (by decide : 4 + 0 ≤ _)⟩)
    dsimp only [Pt.U, Pt.locs, Pt.cells, Pt.slots] at X4 l4 y4 z4 st4 hQ4
    subst l4 y4 z4
    obtain ⟨rfl, N4q, e4⟩ := hQ4
    have N4 := Fr.app N3 N4q
    refine own_st (B := T4.setTop (mkF m 60 #[.val (.int p0), .val (.int p1), .val (.int p2), .val (.int p3), .val (.ref b), .val (.long ((p2.toInt64) - (p0.toInt64))), .second, .val (.long ((p3.toInt64) - (p1.toInt64))), .second, .val (.int (own_b (own_emp p0 p1 p2 p3))), .val (.int (own_b (own_emp p0 p1 p2 p3))), .unset, .unset] [(.int (own_b (own_emp p0 p1 p2 p3)))])) (fun t k => st4.trans k) ?_
    refine own_st (B := T4.setTop (mkF m 64 #[.val (.int p0), .val (.int p1), .val (.int p2), .val (.int p3), .val (.ref b), .val (.long ((p2.toInt64) - (p0.toInt64))), .second, .val (.long ((p3.toInt64) - (p1.toInt64))), .second, .val (.int (own_b (own_emp p0 p1 p2 p3))), .val (.int (own_b (own_emp p0 p1 p2 p3))), .val (.int (own_b (own_emp p0 p1 p2 p3))), .unset] [(.ref b)])) (fun t k => ?_) ?_
    · show Steps p.tables e below (T4.setTop (mkF m 60 #[.val (.int p0), .val (.int p1), .val (.int p2), .val (.int p3), .val (.ref b), .val (.long ((p2.toInt64) - (p0.toInt64))), .second, .val (.long ((p3.toInt64) - (p1.toInt64))), .second, .val (.int (own_b (own_emp p0 p1 p2 p3))), .val (.int (own_b (own_emp p0 p1 p2 p3))), .unset, .unset] [(.int (own_b (own_emp p0 p1 p2 p3)))])) _
      refine XS.istore X4.here hx rfl (hb hby at_60) rfl (l' := #[.val (.int p0), .val (.int p1), .val (.int p2), .val (.int p3), .val (.ref b), .val (.long ((p2.toInt64) - (p0.toInt64))), .second, .val (.long ((p3.toInt64) - (p1.toInt64))), .second, .val (.int (own_b (own_emp p0 p1 p2 p3))), .val (.int (own_b (own_emp p0 p1 p2 p3))), .val (.int (own_b (own_emp p0 p1 p2 p3))), .unset]) rfl ?_
      show Steps p.tables e below (T4.setTop (mkF m 62 #[.val (.int p0), .val (.int p1), .val (.int p2), .val (.int p3), .val (.ref b), .val (.long ((p2.toInt64) - (p0.toInt64))), .second, .val (.long ((p3.toInt64) - (p1.toInt64))), .second, .val (.int (own_b (own_emp p0 p1 p2 p3))), .val (.int (own_b (own_emp p0 p1 p2 p3))), .val (.int (own_b (own_emp p0 p1 p2 p3))), .unset] [])) _
      refine XS.aload X4.here hx rfl (hb hby at_62) rfl rfl ?_
      exact k
    obtain ⟨cq5, kq5, q5a, q5b, q5c⟩ := isOf hZ e4 G.1
    obtain ⟨_, _, ⟨T5, L5, k5, n5⟩, -, X5, ⟨Lc5, hQ5, l5, y5, z5⟩, st5⟩ := X4.virtualBack hx (y := (⟨"com/example/framewright/framewright/Rect", "getLeft", "()I"⟩ : MethodName)) (z := (⟨"com/example/framewright/framewright/Rect", "getLeft", "()I"⟩ : MethodName)) hown (mvT hZ (hw _ (List.mem_of_getElem? (i := 27) rfl))) (mvT hZ (hw _ (List.mem_of_getElem? (i := 28) rfl))) (notFace_of_selects (args := #[]) (mvT hZ (hw _ (List.mem_of_getElem? (i := 30) rfl)))) (mvT hZ (hw _ (List.mem_of_getElem? (i := 30) rfl))) (mvT hZ (hw _ (List.mem_of_getElem? (i := 29) rfl))) (by decide) (backOf (W := 0) (rm5 l Z a0 hw [] b p0 p1 p2 p3 T2.heap n0 Zc G) hZ (hw _ (List.mem_of_getElem? (i := 31) rfl)) (hw _ (List.mem_of_getElem? (i := 2) rfl)) (by decide) (by decide)) q5a q5c (g := (mkF m 64 #[.val (.int p0), .val (.int p1), .val (.int p2), .val (.int p3), .val (.ref b), .val (.long ((p2.toInt64) - (p0.toInt64))), .second, .val (.long ((p3.toInt64) - (p1.toInt64))), .second, .val (.int (own_b (own_emp p0 p1 p2 p3))), .val (.int (own_b (own_emp p0 p1 p2 p3))), .val (.int (own_b (own_emp p0 p1 p2 p3))), .unset] [(.ref b)])) rfl (by rw [hml]; rfl) (Steps.refl _) (argsL := []) (rest := []) (lenOf pd_2 rfl) rfl (by show 2 * 0 + _ ≤ _; exact Nat.le_of_eq rfl) (hb hby at_64) (fun _ _ => ⟨rfl, e4, (by decide : 1 + 0 ≤ _), (by decide : 4 + 0 ≤ _)⟩)
    dsimp only [Pt.U, Pt.locs, Pt.cells, Pt.slots] at X5 l5 y5 z5 st5 hQ5
    subst l5 y5 z5
    obtain ⟨rfl, N5q, e5⟩ := hQ5
    have N5 := Fr.app N4 N5q
    refine own_st (B := T5.setTop (mkF m 67 #[.val (.int p0), .val (.int p1), .val (.int p2), .val (.int p3), .val (.ref b), .val (.long ((p2.toInt64) - (p0.toInt64))), .second, .val (.long ((p3.toInt64) - (p1.toInt64))), .second, .val (.int (own_b (own_emp p0 p1 p2 p3))), .val (.int (own_b (own_emp p0 p1 p2 p3))), .val (.int (own_b (own_emp p0 p1 p2 p3))), .unset] [(.int p0)])) (fun t k => st5.trans k) ?_
    refine own_st (B := T5.setTop (mkF m 68 #[.val (.int p0), .val (.int p1), .val (.int p2), .val (.int p3), .val (.ref b), .val (.long ((p2.toInt64) - (p0.toInt64))), .second, .val (.long ((p3.toInt64) - (p1.toInt64))), .second, .val (.int (own_b (own_emp p0 p1 p2 p3))), .val (.int (own_b (own_emp p0 p1 p2 p3))), .val (.int (own_b (own_emp p0 p1 p2 p3))), .unset] [(.int p0), (.int p0)])) (fun t k => ?_) ?_
    · show Steps p.tables e below (T5.setTop (mkF m 67 #[.val (.int p0), .val (.int p1), .val (.int p2), .val (.int p3), .val (.ref b), .val (.long ((p2.toInt64) - (p0.toInt64))), .second, .val (.long ((p3.toInt64) - (p1.toInt64))), .second, .val (.int (own_b (own_emp p0 p1 p2 p3))), .val (.int (own_b (own_emp p0 p1 p2 p3))), .val (.int (own_b (own_emp p0 p1 p2 p3))), .unset] [(.int p0)])) _
      refine XS.iloadN X5.here hx rfl (hb hby at_67) rfl ?_
      exact k
    refine own_st (B := T5.setTop (mkF m 73 #[.val (.int p0), .val (.int p1), .val (.int p2), .val (.int p3), .val (.ref b), .val (.long ((p2.toInt64) - (p0.toInt64))), .second, .val (.long ((p3.toInt64) - (p1.toInt64))), .second, .val (.int (own_b (own_emp p0 p1 p2 p3))), .val (.int (own_b (own_emp p0 p1 p2 p3))), .val (.int (own_b (own_emp p0 p1 p2 p3))), .unset] [(.ref b)])) (fun t k => ?_) ?_
    · show Steps p.tables e below (T5.setTop (mkF m 68 #[.val (.int p0), .val (.int p1), .val (.int p2), .val (.int p3), .val (.ref b), .val (.long ((p2.toInt64) - (p0.toInt64))), .second, .val (.long ((p3.toInt64) - (p1.toInt64))), .second, .val (.int (own_b (own_emp p0 p1 p2 p3))), .val (.int (own_b (own_emp p0 p1 p2 p3))), .val (.int (own_b (own_emp p0 p1 p2 p3))), .unset] [(.int p0), (.int p0)])) _
      refine XS.icmpNo X5.here hx rfl (hb hby at_68) rfl (teq rfl).2 ?_
      show Steps p.tables e below (T5.setTop (mkF m 71 #[.val (.int p0), .val (.int p1), .val (.int p2), .val (.int p3), .val (.ref b), .val (.long ((p2.toInt64) - (p0.toInt64))), .second, .val (.long ((p3.toInt64) - (p1.toInt64))), .second, .val (.int (own_b (own_emp p0 p1 p2 p3))), .val (.int (own_b (own_emp p0 p1 p2 p3))), .val (.int (own_b (own_emp p0 p1 p2 p3))), .unset] [])) _
      refine XS.aload X5.here hx rfl (hb hby at_71) rfl rfl ?_
      exact k
    obtain ⟨cq6, kq6, q6a, q6b, q6c⟩ := isOf hZ e5 G.1
    obtain ⟨_, _, ⟨T6, L6, k6, n6⟩, -, X6, ⟨Lc6, hQ6, l6, y6, z6⟩, st6⟩ := X5.virtualBack hx (y := (⟨"com/example/framewright/framewright/Rect", "getTop", "()I"⟩ : MethodName)) (z := (⟨"com/example/framewright/framewright/Rect", "getTop", "()I"⟩ : MethodName)) hown (mvT hZ (hw _ (List.mem_of_getElem? (i := 32) rfl))) (mvT hZ (hw _ (List.mem_of_getElem? (i := 33) rfl))) (notFace_of_selects (args := #[]) (mvT hZ (hw _ (List.mem_of_getElem? (i := 35) rfl)))) (mvT hZ (hw _ (List.mem_of_getElem? (i := 35) rfl))) (mvT hZ (hw _ (List.mem_of_getElem? (i := 34) rfl))) (by decide) (backOf (W := 0) (rm6 l Z a0 hw [] b p0 p1 p2 p3 T2.heap n0 Zc G) hZ (hw _ (List.mem_of_getElem? (i := 36) rfl)) (hw _ (List.mem_of_getElem? (i := 2) rfl)) (by decide) (by decide)) q6a q6c (g := (mkF m 73 #[.val (.int p0), .val (.int p1), .val (.int p2), .val (.int p3), .val (.ref b), .val (.long ((p2.toInt64) - (p0.toInt64))), .second, .val (.long ((p3.toInt64) - (p1.toInt64))), .second, .val (.int (own_b (own_emp p0 p1 p2 p3))), .val (.int (own_b (own_emp p0 p1 p2 p3))), .val (.int (own_b (own_emp p0 p1 p2 p3))), .unset] [(.ref b)])) rfl (by rw [hml]; rfl) (Steps.refl _) (argsL := []) (rest := []) (lenOf pd_2 rfl) rfl (by show 2 * 0 + _ ≤ _; exact Nat.le_of_eq rfl) (hb hby at_73) (fun _ _ => ⟨rfl, e5, (by decide : 1 + 0 ≤ _), (by decide : 4 + 0 ≤ _)⟩)
    dsimp only [Pt.U, Pt.locs, Pt.cells, Pt.slots] at X6 l6 y6 z6 st6 hQ6
    subst l6 y6 z6
    obtain ⟨rfl, N6q, e6⟩ := hQ6
    have N6 := Fr.app N5 N6q
    refine own_st (B := T6.setTop (mkF m 76 #[.val (.int p0), .val (.int p1), .val (.int p2), .val (.int p3), .val (.ref b), .val (.long ((p2.toInt64) - (p0.toInt64))), .second, .val (.long ((p3.toInt64) - (p1.toInt64))), .second, .val (.int (own_b (own_emp p0 p1 p2 p3))), .val (.int (own_b (own_emp p0 p1 p2 p3))), .val (.int (own_b (own_emp p0 p1 p2 p3))), .unset] [(.int p1)])) (fun t k => st6.trans k) ?_
    refine own_st (B := T6.setTop (mkF m 77 #[.val (.int p0), .val (.int p1), .val (.int p2), .val (.int p3), .val (.ref b), .val (.long ((p2.toInt64) - (p0.toInt64))), .second, .val (.long ((p3.toInt64) - (p1.toInt64))), .second, .val (.int (own_b (own_emp p0 p1 p2 p3))), .val (.int (own_b (own_emp p0 p1 p2 p3))), .val (.int (own_b (own_emp p0 p1 p2 p3))), .unset] [(.int p1), (.int p1)])) (fun t k => ?_) ?_
    · show Steps p.tables e below (T6.setTop (mkF m 76 #[.val (.int p0), .val (.int p1), .val (.int p2), .val (.int p3), .val (.ref b), .val (.long ((p2.toInt64) - (p0.toInt64))), .second, .val (.long ((p3.toInt64) - (p1.toInt64))), .second, .val (.int (own_b (own_emp p0 p1 p2 p3))), .val (.int (own_b (own_emp p0 p1 p2 p3))), .val (.int (own_b (own_emp p0 p1 p2 p3))), .unset] [(.int p1)])) _
      refine XS.iloadN X6.here hx rfl (hb hby at_76) rfl ?_
      exact k
    refine own_st (B := T6.setTop (mkF m 82 #[.val (.int p0), .val (.int p1), .val (.int p2), .val (.int p3), .val (.ref b), .val (.long ((p2.toInt64) - (p0.toInt64))), .second, .val (.long ((p3.toInt64) - (p1.toInt64))), .second, .val (.int (own_b (own_emp p0 p1 p2 p3))), .val (.int (own_b (own_emp p0 p1 p2 p3))), .val (.int (own_b (own_emp p0 p1 p2 p3))), .unset] [(.ref b)])) (fun t k => ?_) ?_
    · show Steps p.tables e below (T6.setTop (mkF m 77 #[.val (.int p0), .val (.int p1), .val (.int p2), .val (.int p3), .val (.ref b), .val (.long ((p2.toInt64) - (p0.toInt64))), .second, .val (.long ((p3.toInt64) - (p1.toInt64))), .second, .val (.int (own_b (own_emp p0 p1 p2 p3))), .val (.int (own_b (own_emp p0 p1 p2 p3))), .val (.int (own_b (own_emp p0 p1 p2 p3))), .unset] [(.int p1), (.int p1)])) _
      refine XS.icmpNo X6.here hx rfl (hb hby at_77) rfl (teq rfl).2 ?_
      show Steps p.tables e below (T6.setTop (mkF m 80 #[.val (.int p0), .val (.int p1), .val (.int p2), .val (.int p3), .val (.ref b), .val (.long ((p2.toInt64) - (p0.toInt64))), .second, .val (.long ((p3.toInt64) - (p1.toInt64))), .second, .val (.int (own_b (own_emp p0 p1 p2 p3))), .val (.int (own_b (own_emp p0 p1 p2 p3))), .val (.int (own_b (own_emp p0 p1 p2 p3))), .unset] [])) _
      refine XS.aload X6.here hx rfl (hb hby at_80) rfl rfl ?_
      exact k
    obtain ⟨cq7, kq7, q7a, q7b, q7c⟩ := isOf hZ e6 G.1
    obtain ⟨_, _, ⟨T7, L7, k7, n7⟩, -, X7, ⟨Lc7, hQ7, l7, y7, z7⟩, st7⟩ := X6.virtualBack hx (y := (⟨"com/example/framewright/framewright/Rect", "getRight", "()I"⟩ : MethodName)) (z := (⟨"com/example/framewright/framewright/Rect", "getRight", "()I"⟩ : MethodName)) hown (mvT hZ (hw _ (List.mem_of_getElem? (i := 37) rfl))) (mvT hZ (hw _ (List.mem_of_getElem? (i := 38) rfl))) (notFace_of_selects (args := #[]) (mvT hZ (hw _ (List.mem_of_getElem? (i := 40) rfl)))) (mvT hZ (hw _ (List.mem_of_getElem? (i := 40) rfl))) (mvT hZ (hw _ (List.mem_of_getElem? (i := 39) rfl))) (by decide) (backOf (W := 0) (rm7 l Z a0 hw [] b p0 p1 p2 p3 T2.heap n0 Zc G) hZ (hw _ (List.mem_of_getElem? (i := 41) rfl)) (hw _ (List.mem_of_getElem? (i := 2) rfl)) (by decide) (by decide)) q7a q7c (g := (mkF m 82 #[.val (.int p0), .val (.int p1), .val (.int p2), .val (.int p3), .val (.ref b), .val (.long ((p2.toInt64) - (p0.toInt64))), .second, .val (.long ((p3.toInt64) - (p1.toInt64))), .second, .val (.int (own_b (own_emp p0 p1 p2 p3))), .val (.int (own_b (own_emp p0 p1 p2 p3))), .val (.int (own_b (own_emp p0 p1 p2 p3))), .unset] [(.ref b)])) rfl (by rw [hml]; rfl) (Steps.refl _) (argsL := []) (rest := []) (lenOf pd_2 rfl) rfl (by show 2 * 0 + _ ≤ _; exact Nat.le_of_eq rfl) (hb hby at_82) (fun _ _ => ⟨rfl, e6, (by decide : 1 + 0 ≤ _), (by decide : 4 + 0 ≤ _)⟩)
    dsimp only [Pt.U, Pt.locs, Pt.cells, Pt.slots] at X7 l7 y7 z7 st7 hQ7
    subst l7 y7 z7
    obtain ⟨rfl, N7q, e7⟩ := hQ7
    have N7 := Fr.app N6 N7q
    refine own_st (B := T7.setTop (mkF m 85 #[.val (.int p0), .val (.int p1), .val (.int p2), .val (.int p3), .val (.ref b), .val (.long ((p2.toInt64) - (p0.toInt64))), .second, .val (.long ((p3.toInt64) - (p1.toInt64))), .second, .val (.int (own_b (own_emp p0 p1 p2 p3))), .val (.int (own_b (own_emp p0 p1 p2 p3))), .val (.int (own_b (own_emp p0 p1 p2 p3))), .unset] [(.int p2)])) (fun t k => st7.trans k) ?_
    refine own_st (B := T7.setTop (mkF m 86 #[.val (.int p0), .val (.int p1), .val (.int p2), .val (.int p3), .val (.ref b), .val (.long ((p2.toInt64) - (p0.toInt64))), .second, .val (.long ((p3.toInt64) - (p1.toInt64))), .second, .val (.int (own_b (own_emp p0 p1 p2 p3))), .val (.int (own_b (own_emp p0 p1 p2 p3))), .val (.int (own_b (own_emp p0 p1 p2 p3))), .unset] [(.int p2), (.int p2)])) (fun t k => ?_) ?_
    · show Steps p.tables e below (T7.setTop (mkF m 85 #[.val (.int p0), .val (.int p1), .val (.int p2), .val (.int p3), .val (.ref b), .val (.long ((p2.toInt64) - (p0.toInt64))), .second, .val (.long ((p3.toInt64) - (p1.toInt64))), .second, .val (.int (own_b (own_emp p0 p1 p2 p3))), .val (.int (own_b (own_emp p0 p1 p2 p3))), .val (.int (own_b (own_emp p0 p1 p2 p3))), .unset] [(.int p2)])) _
      refine XS.iloadN X7.here hx rfl (hb hby at_85) rfl ?_
      exact k
    refine own_st (B := T7.setTop (mkF m 91 #[.val (.int p0), .val (.int p1), .val (.int p2), .val (.int p3), .val (.ref b), .val (.long ((p2.toInt64) - (p0.toInt64))), .second, .val (.long ((p3.toInt64) - (p1.toInt64))), .second, .val (.int (own_b (own_emp p0 p1 p2 p3))), .val (.int (own_b (own_emp p0 p1 p2 p3))), .val (.int (own_b (own_emp p0 p1 p2 p3))), .unset] [(.ref b)])) (fun t k => ?_) ?_
    · show Steps p.tables e below (T7.setTop (mkF m 86 #[.val (.int p0), .val (.int p1), .val (.int p2), .val (.int p3), .val (.ref b), .val (.long ((p2.toInt64) - (p0.toInt64))), .second, .val (.long ((p3.toInt64) - (p1.toInt64))), .second, .val (.int (own_b (own_emp p0 p1 p2 p3))), .val (.int (own_b (own_emp p0 p1 p2 p3))), .val (.int (own_b (own_emp p0 p1 p2 p3))), .unset] [(.int p2), (.int p2)])) _
      refine XS.icmpNo X7.here hx rfl (hb hby at_86) rfl (teq rfl).2 ?_
      show Steps p.tables e below (T7.setTop (mkF m 89 #[.val (.int p0), .val (.int p1), .val (.int p2), .val (.int p3), .val (.ref b), .val (.long ((p2.toInt64) - (p0.toInt64))), .second, .val (.long ((p3.toInt64) - (p1.toInt64))), .second, .val (.int (own_b (own_emp p0 p1 p2 p3))), .val (.int (own_b (own_emp p0 p1 p2 p3))), .val (.int (own_b (own_emp p0 p1 p2 p3))), .unset] [])) _
      refine XS.aload X7.here hx rfl (hb hby at_89) rfl rfl ?_
      exact k
    obtain ⟨cq8, kq8, q8a, q8b, q8c⟩ := isOf hZ e7 G.1
    obtain ⟨_, _, ⟨T8, L8, k8, n8⟩, -, X8, ⟨Lc8, hQ8, l8, y8, z8⟩, st8⟩ := X7.virtualBack hx (y := (⟨"com/example/framewright/framewright/Rect", "getBottom", "()I"⟩ : MethodName)) (z := (⟨"com/example/framewright/framewright/Rect", "getBottom", "()I"⟩ : MethodName)) hown (mvT hZ (hw _ (List.mem_of_getElem? (i := 42) rfl))) (mvT hZ (hw _ (List.mem_of_getElem? (i := 43) rfl))) (notFace_of_selects (args := #[]) (mvT hZ (hw _ (List.mem_of_getElem? (i := 45) rfl)))) (mvT hZ (hw _ (List.mem_of_getElem? (i := 45) rfl))) (mvT hZ (hw _ (List.mem_of_getElem? (i := 44) rfl))) (by decide) (backOf (W := 0) (rm8 l Z a0 hw [] b p0 p1 p2 p3 T2.heap n0 Zc G) hZ (hw _ (List.mem_of_getElem? (i := 46) rfl)) (hw _ (List.mem_of_getElem? (i := 2) rfl)) (by decide) (by decide)) q8a q8c (g := (mkF m 91 #[.val (.int p0), .val (.int p1), .val (.int p2), .val (.int p3), .val (.ref b), .val (.long ((p2.toInt64) - (p0.toInt64))), .second, .val (.long ((p3.toInt64) - (p1.toInt64))), .second, .val (.int (own_b (own_emp p0 p1 p2 p3))), .val (.int (own_b (own_emp p0 p1 p2 p3))), .val (.int (own_b (own_emp p0 p1 p2 p3))), .unset] [(.ref b)])) rfl (by rw [hml]; rfl) (Steps.refl _) (argsL := []) (rest := []) (lenOf pd_2 rfl) rfl (by show 2 * 0 + _ ≤ _; exact Nat.le_of_eq rfl) (hb hby at_91) (fun _ _ => ⟨rfl, e7, (by decide : 1 + 0 ≤ _), (by decide : 4 + 0 ≤ _)⟩)
    dsimp only [Pt.U, Pt.locs, Pt.cells, Pt.slots] at X8 l8 y8 z8 st8 hQ8
    subst l8 y8 z8
    obtain ⟨rfl, N8q, e8⟩ := hQ8
    have N8 := Fr.app N7 N8q
    refine own_st (B := T8.setTop (mkF m 94 #[.val (.int p0), .val (.int p1), .val (.int p2), .val (.int p3), .val (.ref b), .val (.long ((p2.toInt64) - (p0.toInt64))), .second, .val (.long ((p3.toInt64) - (p1.toInt64))), .second, .val (.int (own_b (own_emp p0 p1 p2 p3))), .val (.int (own_b (own_emp p0 p1 p2 p3))), .val (.int (own_b (own_emp p0 p1 p2 p3))), .unset] [(.int p3)])) (fun t k => st8.trans k) ?_
    refine own_st (B := T8.setTop (mkF m 95 #[.val (.int p0), .val (.int p1), .val (.int p2), .val (.int p3), .val (.ref b), .val (.long ((p2.toInt64) - (p0.toInt64))), .second, .val (.long ((p3.toInt64) - (p1.toInt64))), .second, .val (.int (own_b (own_emp p0 p1 p2 p3))), .val (.int (own_b (own_emp p0 p1 p2 p3))), .val (.int (own_b (own_emp p0 p1 p2 p3))), .unset] [(.int p3), (.int p3)])) (fun t k => ?_) ?_
    · show Steps p.tables e below (T8.setTop (mkF m 94 #[.val (.int p0), .val (.int p1), .val (.int p2), .val (.int p3), .val (.ref b), .val (.long ((p2.toInt64) - (p0.toInt64))), .second, .val (.long ((p3.toInt64) - (p1.toInt64))), .second, .val (.int (own_b (own_emp p0 p1 p2 p3))), .val (.int (own_b (own_emp p0 p1 p2 p3))), .val (.int (own_b (own_emp p0 p1 p2 p3))), .unset] [(.int p3)])) _
      refine XS.iloadN X8.here hx rfl (hb hby at_94) rfl ?_
      exact k
    refine own_st (B := T8.setTop (mkF m 109 #[.val (.int p0), .val (.int p1), .val (.int p2), .val (.int p3), .val (.ref b), .val (.long ((p2.toInt64) - (p0.toInt64))), .second, .val (.long ((p3.toInt64) - (p1.toInt64))), .second, .val (.int (own_b (own_emp p0 p1 p2 p3))), .val (.int (own_b (own_emp p0 p1 p2 p3))), .val (.int (own_b (own_emp p0 p1 p2 p3))), .val (.int (1 : Int32))] [(.int (own_b (own_emp p0 p1 p2 p3))), (.int (own_b (own_emp p0 p1 p2 p3)))])) (fun t k => ?_) ?_
    · show Steps p.tables e below (T8.setTop (mkF m 95 #[.val (.int p0), .val (.int p1), .val (.int p2), .val (.int p3), .val (.ref b), .val (.long ((p2.toInt64) - (p0.toInt64))), .second, .val (.long ((p3.toInt64) - (p1.toInt64))), .second, .val (.int (own_b (own_emp p0 p1 p2 p3))), .val (.int (own_b (own_emp p0 p1 p2 p3))), .val (.int (own_b (own_emp p0 p1 p2 p3))), .unset] [(.int p3), (.int p3)])) _
      refine XS.icmpNo X8.here hx rfl (hb hby at_95) rfl (teq rfl).2 ?_
      show Steps p.tables e below (T8.setTop (mkF m 98 #[.val (.int p0), .val (.int p1), .val (.int p2), .val (.int p3), .val (.ref b), .val (.long ((p2.toInt64) - (p0.toInt64))), .second, .val (.long ((p3.toInt64) - (p1.toInt64))), .second, .val (.int (own_b (own_emp p0 p1 p2 p3))), .val (.int (own_b (own_emp p0 p1 p2 p3))), .val (.int (own_b (own_emp p0 p1 p2 p3))), .unset] [])) _
      refine XS.iconst X8.here hx rfl (hb hby at_98) ?_
      show Steps p.tables e below (T8.setTop (mkF m 99 #[.val (.int p0), .val (.int p1), .val (.int p2), .val (.int p3), .val (.ref b), .val (.long ((p2.toInt64) - (p0.toInt64))), .second, .val (.long ((p3.toInt64) - (p1.toInt64))), .second, .val (.int (own_b (own_emp p0 p1 p2 p3))), .val (.int (own_b (own_emp p0 p1 p2 p3))), .val (.int (own_b (own_emp p0 p1 p2 p3))), .unset] [(.int (1 : Int32))])) _
      refine XS.goto X8.here hx rfl (pc0 := 99) (pc' := 103) rfl (hb hby at_99) (by decide) (by decide) ?_
      show Steps p.tables e below (T8.setTop (mkF m 103 #[.val (.int p0), .val (.int p1), .val (.int p2), .val (.int p3), .val (.ref b), .val (.long ((p2.toInt64) - (p0.toInt64))), .second, .val (.long ((p3.toInt64) - (p1.toInt64))), .second, .val (.int (own_b (own_emp p0 p1 p2 p3))), .val (.int (own_b (own_emp p0 p1 p2 p3))), .val (.int (own_b (own_emp p0 p1 p2 p3))), .unset] [(.int (1 : Int32))])) _
      refine XS.istore X8.here hx rfl (hb hby at_103) rfl (l' := #[.val (.int p0), .val (.int p1), .val (.int p2), .val (.int p3), .val (.ref b), .val (.long ((p2.toInt64) - (p0.toInt64))), .second, .val (.long ((p3.toInt64) - (p1.toInt64))), .second, .val (.int (own_b (own_emp p0 p1 p2 p3))), .val (.int (own_b (own_emp p0 p1 p2 p3))), .val (.int (own_b (own_emp p0 p1 p2 p3))), .val (.int (1 : Int32))]) rfl ?_
      show Steps p.tables e below (T8.setTop (mkF m 105 #[.val (.int p0), .val (.int p1), .val (.int p2), .val (.int p3), .val (.ref b), .val (.long ((p2.toInt64) - (p0.toInt64))), .second, .val (.long ((p3.toInt64) - (p1.toInt64))), .second, .val (.int (own_b (own_emp p0 p1 p2 p3))), .val (.int (own_b (own_emp p0 p1 p2 p3))), .val (.int (own_b (own_emp p0 p1 p2 p3))), .val (.int (1 : Int32))] [])) _
      refine XS.iload X8.here hx rfl (hb hby at_105) rfl ?_
      show Steps p.tables e below (T8.setTop (mkF m 107 #[.val (.int p0), .val (.int p1), .val (.int p2), .val (.int p3), .val (.ref b), .val (.long ((p2.toInt64) - (p0.toInt64))), .second, .val (.long ((p3.toInt64) - (p1.toInt64))), .second, .val (.int (own_b (own_emp p0 p1 p2 p3))), .val (.int (own_b (own_emp p0 p1 p2 p3))), .val (.int (own_b (own_emp p0 p1 p2 p3))), .val (.int (1 : Int32))] [(.int (own_b (own_emp p0 p1 p2 p3)))])) _
      refine XS.iload X8.here hx rfl (hb hby at_107) rfl ?_
      exact k
    refine own_st (B := T8.setTop (mkF m 116 #[.val (.int p0), .val (.int p1), .val (.int p2), .val (.int p3), .val (.ref b), .val (.long ((p2.toInt64) - (p0.toInt64))), .second, .val (.long ((p3.toInt64) - (p1.toInt64))), .second, .val (.int (own_b (own_emp p0 p1 p2 p3))), .val (.int (own_b (own_emp p0 p1 p2 p3))), .val (.int (own_b (own_emp p0 p1 p2 p3))), .val (.int (1 : Int32))] [(.int (own_b (own_emp p0 p1 p2 p3))), (.int (own_b (own_emp p0 p1 p2 p3)))])) (fun t k => ?_) ?_
    · show Steps p.tables e below (T8.setTop (mkF m 109 #[.val (.int p0), .val (.int p1), .val (.int p2), .val (.int p3), .val (.ref b), .val (.long ((p2.toInt64) - (p0.toInt64))), .second, .val (.long ((p3.toInt64) - (p1.toInt64))), .second, .val (.int (own_b (own_emp p0 p1 p2 p3))), .val (.int (own_b (own_emp p0 p1 p2 p3))), .val (.int (own_b (own_emp p0 p1 p2 p3))), .val (.int (1 : Int32))] [(.int (own_b (own_emp p0 p1 p2 p3))), (.int (own_b (own_emp p0 p1 p2 p3)))])) _
      refine XS.icmpNo X8.here hx rfl (hb hby at_109) rfl (teq rfl).2 ?_
      show Steps p.tables e below (T8.setTop (mkF m 112 #[.val (.int p0), .val (.int p1), .val (.int p2), .val (.int p3), .val (.ref b), .val (.long ((p2.toInt64) - (p0.toInt64))), .second, .val (.long ((p3.toInt64) - (p1.toInt64))), .second, .val (.int (own_b (own_emp p0 p1 p2 p3))), .val (.int (own_b (own_emp p0 p1 p2 p3))), .val (.int (own_b (own_emp p0 p1 p2 p3))), .val (.int (1 : Int32))] [])) _
      refine XS.iload X8.here hx rfl (hb hby at_112) rfl ?_
      show Steps p.tables e below (T8.setTop (mkF m 114 #[.val (.int p0), .val (.int p1), .val (.int p2), .val (.int p3), .val (.ref b), .val (.long ((p2.toInt64) - (p0.toInt64))), .second, .val (.long ((p3.toInt64) - (p1.toInt64))), .second, .val (.int (own_b (own_emp p0 p1 p2 p3))), .val (.int (own_b (own_emp p0 p1 p2 p3))), .val (.int (own_b (own_emp p0 p1 p2 p3))), .val (.int (1 : Int32))] [(.int (own_b (own_emp p0 p1 p2 p3)))])) _
      refine XS.iload X8.here hx rfl (hb hby at_114) rfl ?_
      exact k
    refine own_st (B := T8.setTop (mkF m 121 #[.val (.int p0), .val (.int p1), .val (.int p2), .val (.int p3), .val (.ref b), .val (.long ((p2.toInt64) - (p0.toInt64))), .second, .val (.long ((p3.toInt64) - (p1.toInt64))), .second, .val (.int (own_b (own_emp p0 p1 p2 p3))), .val (.int (own_b (own_emp p0 p1 p2 p3))), .val (.int (own_b (own_emp p0 p1 p2 p3))), .val (.int (1 : Int32))] [(.int (1 : Int32))])) (fun t k => ?_) ?_
    · show Steps p.tables e below (T8.setTop (mkF m 116 #[.val (.int p0), .val (.int p1), .val (.int p2), .val (.int p3), .val (.ref b), .val (.long ((p2.toInt64) - (p0.toInt64))), .second, .val (.long ((p3.toInt64) - (p1.toInt64))), .second, .val (.int (own_b (own_emp p0 p1 p2 p3))), .val (.int (own_b (own_emp p0 p1 p2 p3))), .val (.int (own_b (own_emp p0 p1 p2 p3))), .val (.int (1 : Int32))] [(.int (own_b (own_emp p0 p1 p2 p3))), (.int (own_b (own_emp p0 p1 p2 p3)))])) _
      refine XS.icmpNo X8.here hx rfl (hb hby at_116) rfl (teq rfl).2 ?_
      show Steps p.tables e below (T8.setTop (mkF m 119 #[.val (.int p0), .val (.int p1), .val (.int p2), .val (.int p3), .val (.ref b), .val (.long ((p2.toInt64) - (p0.toInt64))), .second, .val (.long ((p3.toInt64) - (p1.toInt64))), .second, .val (.int (own_b (own_emp p0 p1 p2 p3))), .val (.int (own_b (own_emp p0 p1 p2 p3))), .val (.int (own_b (own_emp p0 p1 p2 p3))), .val (.int (1 : Int32))] [])) _
      refine XS.iload X8.here hx rfl (hb hby at_119) rfl ?_
      exact k
    refine own_st (B := T8.setTop (mkF m 129 #[.val (.int p0), .val (.int p1), .val (.int p2), .val (.int p3), .val (.ref b), .val (.long ((p2.toInt64) - (p0.toInt64))), .second, .val (.long ((p3.toInt64) - (p1.toInt64))), .second, .val (.int (own_b (own_emp p0 p1 p2 p3))), .val (.int (own_b (own_emp p0 p1 p2 p3))), .val (.int (own_b (own_emp p0 p1 p2 p3))), .val (.int (1 : Int32))] [(.int (1 : Int32))])) (fun t k => ?_) ?_
    · show Steps p.tables e below (T8.setTop (mkF m 121 #[.val (.int p0), .val (.int p1), .val (.int p2), .val (.int p3), .val (.ref b), .val (.long ((p2.toInt64) - (p0.toInt64))), .second, .val (.long ((p3.toInt64) - (p1.toInt64))), .second, .val (.int (own_b (own_emp p0 p1 p2 p3))), .val (.int (own_b (own_emp p0 p1 p2 p3))), .val (.int (own_b (own_emp p0 p1 p2 p3))), .val (.int (1 : Int32))] [(.int (1 : Int32))])) _
      refine XS.ifNo X8.here hx rfl (hb hby at_121) rfl ((if0 _ _).trans (feq (by decide)).1) ?_
      show Steps p.tables e below (T8.setTop (mkF m 124 #[.val (.int p0), .val (.int p1), .val (.int p2), .val (.int p3), .val (.ref b), .val (.long ((p2.toInt64) - (p0.toInt64))), .second, .val (.long ((p3.toInt64) - (p1.toInt64))), .second, .val (.int (own_b (own_emp p0 p1 p2 p3))), .val (.int (own_b (own_emp p0 p1 p2 p3))), .val (.int (own_b (own_emp p0 p1 p2 p3))), .val (.int (1 : Int32))] [])) _
      refine XS.iconst X8.here hx rfl (hb hby at_124) ?_
      show Steps p.tables e below (T8.setTop (mkF m 125 #[.val (.int p0), .val (.int p1), .val (.int p2), .val (.int p3), .val (.ref b), .val (.long ((p2.toInt64) - (p0.toInt64))), .second, .val (.long ((p3.toInt64) - (p1.toInt64))), .second, .val (.int (own_b (own_emp p0 p1 p2 p3))), .val (.int (own_b (own_emp p0 p1 p2 p3))), .val (.int (own_b (own_emp p0 p1 p2 p3))), .val (.int (1 : Int32))] [(.int (1 : Int32))])) _
      refine XS.goto X8.here hx rfl (pc0 := 125) (pc' := 129) rfl (hb hby at_125) (by decide) (by decide) ?_
      exact k
    obtain ⟨fs, hr, hrun, hended, hW, hsame⟩ := X8.leave (v := some (.int (1 : Int32))) (fun h => by rw [Bd.returns] at h; cases h)
    refine ⟨_, _, ?_, hrun, hended, _, _, rfl, ?_, ⟨_, rfl⟩, hW, hsame.mono (by decide) (by decide)⟩
    · exact retOut X8 hx Bd.returns rfl (Or.inl ⟨rfl, by simp, _, rfl⟩) (hb hby at_129) hr
    · show Q0 Z p0 p1 p2 p3 h0 n0 _ T8.heap _
      rw [e8]
      exact ⟨rfl, N8⟩
  by_cases h31 : p0 < p2
  · refine own_st (B := T2.setTop (mkF m 38 #[.val (.int p0), .val (.int p1), .val (.int p2), .val (.int p3), .val (.ref b), .val (.long ((p2.toInt64) - (p0.toInt64))), .second, .val (.long ((p3.toInt64) - (p1.toInt64))), .second, .unset, .unset, .unset, .unset] [(.int (lcmpW ((p3.toInt64) - (p1.toInt64)) (0 : Int64)))])) (fun t k => ?_) ?_
    · show Steps p.tables e below (T2.setTop (mkF m 31 #[.val (.int p0), .val (.int p1), .val (.int p2), .val (.int p3), .val (.ref b), .val (.long ((p2.toInt64) - (p0.toInt64))), .second, .val (.long ((p3.toInt64) - (p1.toInt64))), .second, .unset, .unset, .unset, .unset] [(.int (lcmpW ((p2.toInt64) - (p0.toInt64)) (0 : Int64)))])) _
      refine XS.ifNo X2.here hx rfl (hb hby at_31) rfl ((if0 _ _).trans (tlt ((lw_gt _ _).mpr ((own_wd p0 p2).mpr h31))).2.2.2) ?_
      show Steps p.tables e below (T2.setTop (mkF m 34 #[.val (.int p0), .val (.int p1), .val (.int p2), .val (.int p3), .val (.ref b), .val (.long ((p2.toInt64) - (p0.toInt64))), .second, .val (.long ((p3.toInt64) - (p1.toInt64))), .second, .unset, .unset, .unset, .unset] [])) _
      refine XS.lload X2.here hx rfl (hb hby at_34) rfl ?_
      show Steps p.tables e below (T2.setTop (mkF m 36 #[.val (.int p0), .val (.int p1), .val (.int p2), .val (.int p3), .val (.ref b), .val (.long ((p2.toInt64) - (p0.toInt64))), .second, .val (.long ((p3.toInt64) - (p1.toInt64))), .second, .unset, .unset, .unset, .unset] [(.long ((p3.toInt64) - (p1.toInt64)))])) _
      refine XS.lconst X2.here hx rfl (hb hby at_36) ?_
      show Steps p.tables e below (T2.setTop (mkF m 37 #[.val (.int p0), .val (.int p1), .val (.int p2), .val (.int p3), .val (.ref b), .val (.long ((p2.toInt64) - (p0.toInt64))), .second, .val (.long ((p3.toInt64) - (p1.toInt64))), .second, .unset, .unset, .unset, .unset] [(.long (0 : Int64)), (.long ((p3.toInt64) - (p1.toInt64)))])) _
      refine XS.lcmp X2.here hx rfl (hb hby at_37) rfl ?_
      exact k
    by_cases h38 : p1 < p3
    · refine own_st (B := T2.setTop (mkF m 46 #[.val (.int p0), .val (.int p1), .val (.int p2), .val (.int p3), .val (.ref b), .val (.long ((p2.toInt64) - (p0.toInt64))), .second, .val (.long ((p3.toInt64) - (p1.toInt64))), .second, .unset, .unset, .unset, .unset] [(.int (0 : Int32))])) (fun t k => ?_) ?_
      · show Steps p.tables e below (T2.setTop (mkF m 38 #[.val (.int p0), .val (.int p1), .val (.int p2), .val (.int p3), .val (.ref b), .val (.long ((p2.toInt64) - (p0.toInt64))), .second, .val (.long ((p3.toInt64) - (p1.toInt64))), .second, .unset, .unset, .unset, .unset] [(.int (lcmpW ((p3.toInt64) - (p1.toInt64)) (0 : Int64)))])) _
        refine XS.ifYes X2.here hx rfl (pc0 := 38) (pc' := 45) rfl (hb hby at_38) rfl ((if0 _ _).trans (tlt ((lw_gt _ _).mpr ((own_wd p1 p3).mpr h38))).2.2.1) (by decide) (by decide) ?_
        show Steps p.tables e below (T2.setTop (mkF m 45 #[.val (.int p0), .val (.int p1), .val (.int p2), .val (.int p3), .val (.ref b), .val (.long ((p2.toInt64) - (p0.toInt64))), .second, .val (.long ((p3.toInt64) - (p1.toInt64))), .second, .unset, .unset, .unset, .unset] [])) _
        refine XS.iconst X2.here hx rfl (hb hby at_45) ?_
        exact k
      have hv : own_emp p0 p1 p2 p3 = false := by simp [own_emp, h31, h38]
      rw [hv] at k46
      exact k46
    · refine own_st (B := T2.setTop (mkF m 46 #[.val (.int p0), .val (.int p1), .val (.int p2), .val (.int p3), .val (.ref b), .val (.long ((p2.toInt64) - (p0.toInt64))), .second, .val (.long ((p3.toInt64) - (p1.toInt64))), .second, .unset, .unset, .unset, .unset] [(.int (1 : Int32))])) (fun t k => ?_) ?_
      · show Steps p.tables e below (T2.setTop (mkF m 38 #[.val (.int p0), .val (.int p1), .val (.int p2), .val (.int p3), .val (.ref b), .val (.long ((p2.toInt64) - (p0.toInt64))), .second, .val (.long ((p3.toInt64) - (p1.toInt64))), .second, .unset, .unset, .unset, .unset] [(.int (lcmpW ((p3.toInt64) - (p1.toInt64)) (0 : Int64)))])) _
        refine XS.ifNo X2.here hx rfl (hb hby at_38) rfl ((if0 _ _).trans (flt (fun q => h38 ((own_wd p1 p3).mp ((lw_gt _ _).mp q)))).2.2.1) ?_
        show Steps p.tables e below (T2.setTop (mkF m 41 #[.val (.int p0), .val (.int p1), .val (.int p2), .val (.int p3), .val (.ref b), .val (.long ((p2.toInt64) - (p0.toInt64))), .second, .val (.long ((p3.toInt64) - (p1.toInt64))), .second, .unset, .unset, .unset, .unset] [])) _
        refine XS.iconst X2.here hx rfl (hb hby at_41) ?_
        show Steps p.tables e below (T2.setTop (mkF m 42 #[.val (.int p0), .val (.int p1), .val (.int p2), .val (.int p3), .val (.ref b), .val (.long ((p2.toInt64) - (p0.toInt64))), .second, .val (.long ((p3.toInt64) - (p1.toInt64))), .second, .unset, .unset, .unset, .unset] [(.int (1 : Int32))])) _
        refine XS.goto X2.here hx rfl (pc0 := 42) (pc' := 46) rfl (hb hby at_42) (by decide) (by decide) ?_
        exact k
      have hv : own_emp p0 p1 p2 p3 = true := by simp [own_emp, h31, h38]
      rw [hv] at k46
      exact k46
  · refine own_st (B := T2.setTop (mkF m 46 #[.val (.int p0), .val (.int p1), .val (.int p2), .val (.int p3), .val (.ref b), .val (.long ((p2.toInt64) - (p0.toInt64))), .second, .val (.long ((p3.toInt64) - (p1.toInt64))), .second, .unset, .unset, .unset, .unset] [(.int (1 : Int32))])) (fun t k => ?_) ?_
    · show Steps p.tables e below (T2.setTop (mkF m 31 #[.val (.int p0), .val (.int p1), .val (.int p2), .val (.int p3), .val (.ref b), .val (.long ((p2.toInt64) - (p0.toInt64))), .second, .val (.long ((p3.toInt64) - (p1.toInt64))), .second, .unset, .unset, .unset, .unset] [(.int (lcmpW ((p2.toInt64) - (p0.toInt64)) (0 : Int64)))])) _
      refine XS.ifYes X2.here hx rfl (pc0 := 31) (pc' := 41) rfl (hb hby at_31) rfl ((if0 _ _).trans (flt (fun q => h31 ((own_wd p0 p2).mp ((lw_gt _ _).mp q)))).2.2.2) (by decide) (by decide) ?_
      show Steps p.tables e below (T2.setTop (mkF m 41 #[.val (.int p0), .val (.int p1), .val (.int p2), .val (.int p3), .val (.ref b), .val (.long ((p2.toInt64) - (p0.toInt64))), .second, .val (.long ((p3.toInt64) - (p1.toInt64))), .second, .unset, .unset, .unset, .unset] [])) _
      refine XS.iconst X2.here hx rfl (hb hby at_41) ?_
      show Steps p.tables e below (T2.setTop (mkF m 42 #[.val (.int p0), .val (.int p1), .val (.int p2), .val (.int p3), .val (.ref b), .val (.long ((p2.toInt64) - (p0.toInt64))), .second, .val (.long ((p3.toInt64) - (p1.toInt64))), .second, .unset, .unset, .unset, .unset] [(.int (1 : Int32))])) _
      refine XS.goto X2.here hx rfl (pc0 := 42) (pc' := 46) rfl (hb hby at_42) (by decide) (by decide) ?_
      exact k
    have hv : own_emp p0 p1 p2 p3 = true := by simp [own_emp, h31]
    rw [hv] at k46
    exact k46
set_option maxRecDepth 65536 in
set_option maxHeartbeats 40000000 in
theorem comes_1 {Post : Tables → Env → Array Value → State → Outcome → State → Prop} (hpost : ∀ tb e args s v u, (limb_1_1.after args s (.returned v) u = true ∧ limb_1_2.after args s (.returned v) u = true) → FrameEnd s (.returned v) u (Jvm.fieldLocs frame_1_writes args s ++ Jvm.arrayLocs frame_1_arrays args s ++ Jvm.staticLocs frame_1_statics s) 16 128 → Post tb e args s (.returned v) u) :
    ArmFor flags0 classFile x code maxLocals ret World_1 tables_1 room_1 Calls_1 rest_1 Pre_1 Post := by
  intro l hfl _ _ p e ha hc hk s m args below hf hA hF happ hP
  obtain ⟨hcalls, hrest, hpre⟩ := hP
  obtain ⟨-, -, -, hnamed, -, -, -, hat⟩ := (Spec.applies_iff hf).mp happ
  obtain ⟨hg, hn⟩ := and_e (Cond.before_iff.mp (show (Jvm.Cond.and given_1 narrow_1).before args s = true from hpre))
  obtain ⟨gc, g0⟩ := and_e hg
  obtain ⟨ga0, g1⟩ := and_e g0
  obtain ⟨ga1, g2⟩ := and_e g1
  obtain ⟨ga2, g3⟩ := and_e g2
  have ga3 := g3
  obtain ⟨w0, w1, w2, w3, rfl⟩ : ∃ w0 w1 w2 w3 : Value, args = #[w0, w1, w2, w3] := by
    have hs : args.size = 4 := by simpa [Cond.value, given_1] using gc
    obtain ⟨L⟩ := args
    match L, hs with
    | [w0, w1, w2, w3], _ => exact ⟨w0, w1, w2, w3, rfl⟩
  have hw := fun d (hd : d ∈ tables_1) => atoms_spec (ws := Jvm.Cond.code x code maxLocals ret :: tables_1) hat d (List.mem_cons_of_mem _ hd)
  obtain ⟨i0, ei0⟩ := is_v ga0
  obtain rfl : w0 = (.int i0) := Option.some.inj ei0
  obtain ⟨i1, ei1⟩ := is_v ga1
  obtain rfl : w1 = (.int i1) := Option.some.inj ei1
  obtain ⟨i2, ei2⟩ := is_v ga2
  obtain rfl : w2 = (.int i2) := Option.some.inj ei2
  obtain ⟨i3, ei3⟩ := is_v ga3
  obtain rfl : w3 = (.int i3) := Option.some.inj ei3
  obtain ⟨n, o, h1, h2, h3, _, L, rfl, ⟨rfl, N⟩, hq⟩ := rm0 l s _ hw tables_1 i0 i1 i2 i3 s.heap s.heap.size (Nat.le_refl _) p e ha hc hk s m _ below hf ((Spec.applies_iff_loose hf).mp happ).1 ⟨rfl, State.Warmed39.refl s, rfl⟩ trivial
  refine ⟨n, _, h1, h2, h3, hpost _ _ _ _ _ _ ⟨Cond.after_iff.mpr rfl, Cond.after_iff.mpr (eq_i res_at (Term.int_eval (1)) rfl)⟩ ⟨hq.1, hq.2.1, (hq.2.2.sift fun y hy => Or.inr (N y hy)).mono (by decide) (by decide)⟩⟩
theorem main_1_1 : Claimed_1_1 := comes_1 fun _ _ _ _ _ _ h hF => ⟨h.1, hF⟩
theorem main_1_2 : Claimed_1_2 := comes_1 fun _ _ _ _ _ _ h hF => ⟨h.2, hF⟩
end Jvm.Pilot.@@N@@
namespace Jvm.Pilot.@@N@@
open Jvm Jvm.ClassFile Sem Op Lib Jvm.Free Jvm.Stand Jvm.Pilot.@@N@@.Jvm.D
/-! MADE BY PROGRAM (witnessworld.py) out of the Statement's table words and the real class files: 9 classes; the members and pool entries that the words name. The judged class is class 1, her method 1. -/
namespace start1
open Jvm.ClassFile
def u (s : String) : CpInfo := .utf8 (stringToUtf16 s)
/-- a pool by its gaps: so many unusable entries, then the entry; so many at the end -/
def gap : Nat → List CpInfo → List CpInfo
  | 0, r => r
  | n + 1, r => .unusable :: gap n r
def poolList (es : List (Nat × CpInfo)) (last : Nat) : List CpInfo := es.foldr (fun e r => gap e.1 (e.2 :: r)) (gap last [])
def pool (es : List (Nat × CpInfo)) (last : Nat) : Array CpInfo := ⟨poolList es last⟩
def fileOf (pool : Array CpInfo) (this : Nat) (attrs : Array Attribute := #[]) (ms : Array MethodInfo := #[]) (fl : Nat := 33) (sup : Nat := 0) (ifs : Array Nat := #[]) (fds : Array FieldInfo := #[]) : ClassFile where
  minorVersion := 0
  majorVersion := 65
  constantPool := pool
  accessFlags := fl
  thisClass := this
  superClass := sup
  interfaces := ifs
  fields := fds
  methods := ms
  attributes := attrs
def plain (name : String) (sup : Option ClassId) : Class where
  name := name
  kind := .ordinary
  loader := none
  accessFlags := 33
  super := sup
  interfaces := #[]
  cf := none
  fields := #[]
  methods := #[]
  instanceTypes := #[]
  staticTypes := #[]
  resolved := #[]
  callSites := []
  init := .initialized
  statics := none
  mirror := none

def pool0 : Array CpInfo := pool [(5, u "<init>"), (0, u "()V"), (1, .class_ 10), (1, u "java/lang/Object")] 113

def k0c0 : Code := { maxStack := 0, maxLocals := 1, code := object_method_1_code, exceptionTable := #[], attributes := #[] }
def k0m0 : Method := { name := "<init>", desc := "()V", sig := { parameters := [], returnType := none }, accessFlags := 1, code := some k0c0 }
/-- java/lang/Object -/
def k0 : Class := { plain "java/lang/Object" none with
  accessFlags := 33
  interfaces := #[]
  cf := some (fileOf pool0 8 #[] #[{ accessFlags := 1, nameIndex := 5, descriptorIndex := 6, attributes := #[] }] 33 0 #[] #[])
  fields := #[]
  methods := #[k0m0]
  instanceTypes := #[]
  staticTypes := #[]
  resolved := Array.replicate 124 none
  statics := none }

def pool1 : Array CpInfo := pool [(2, .class_ 4), (1, u "java/lang/Object"), (0, u "<init>"), (0, u "()V"), (0, .class_ 8), (0, u "com/example/framewright/framewright/Rect"), (0, .methodref 7 10), (0, .nameAndType 5 11), (0, u "(IIII)V"), (0, .methodref 7 13), (0, .nameAndType 14 15), (0, u "isEmpty"), (0, u "()Z"), (0, .methodref 7 17), (0, .nameAndType 18 19), (0, u "getLeft"), (0, u "()I"), (0, .methodref 7 21), (0, .nameAndType 22 19), (0, u "getTop"), (0, .methodref 7 24), (0, .nameAndType 25 19), (0, u "getRight"), (0, .methodref 7 27), (0, .nameAndType 28 19), (0, u "getBottom"), (0, .class_ 30), (0, u "com/example/framewright/framewright/RectIsEmptyPinLaw"), (2, u "law"), (0, u "(IIII)Z")] 3

def k1m0 : Method := { name := "<init>", desc := "()V", sig := { parameters := [], returnType := none }, accessFlags := 1, code := none }
def k1c1 : Code := { maxStack := 6, maxLocals := 13, code := code, exceptionTable := #[], attributes := #[] }
def k1m1 : Method := { name := "law", desc := "(IIII)Z", sig := { parameters := [.int, .int, .int, .int], returnType := some .boolean }, accessFlags := 9, code := some k1c1 }
/-- com/example/framewright/framewright/RectIsEmptyPinLaw -/
def k1 : Class := { plain "com/example/framewright/framewright/RectIsEmptyPinLaw" (some 0) with
  accessFlags := 49
  interfaces := #[]
  cf := some (fileOf pool1 29 #[] #[{ accessFlags := 1, nameIndex := 5, descriptorIndex := 6, attributes := #[] }, { accessFlags := 9, nameIndex := 33, descriptorIndex := 34, attributes := #[] }] 49 2 #[] #[])
  fields := #[]
  methods := #[k1m0, k1m1]
  instanceTypes := #[]
  staticTypes := #[]
  resolved := Array.replicate 38 none
  statics := none }

def pool2 : Array CpInfo := pool [(1, .methodref 2 3), (0, .class_ 4), (0, .nameAndType 5 6), (0, u "java/lang/Object"), (0, u "<init>"), (0, u "()V"), (0, .methodref 8 9), (0, .class_ 10), (0, .nameAndType 11 12), (0, u "com/example/framewright/framewright/Rect"), (0, u "set"), (0, u "(IIII)V"), (0, .fieldref 8 14), (0, .nameAndType 15 16), (0, u "left"), (0, u "I"), (0, .fieldref 8 18), (0, .nameAndType 19 16), (0, u "top"), (0, .fieldref 8 21), (0, .nameAndType 22 16), (0, u "right"), (0, .fieldref 8 24), (0, .nameAndType 25 16), (0, u "bottom"), (18, u "isEmpty"), (0, u "()Z"), (47, u "getLeft"), (0, u "()I"), (0, u "getTop"), (0, u "getRight"), (0, u "getBottom")] 33

def k2c0 : Code := { maxStack := 5, maxLocals := 5, code := prog_25_method_1_code, exceptionTable := #[], attributes := #[] }
def k2m0 : Method := { name := "<init>", desc := "(IIII)V", sig := { parameters := [.int, .int, .int, .int], returnType := none }, accessFlags := 1, code := some k2c0 }
def k2c1 : Code := { maxStack := 2, maxLocals := 5, code := prog_25_method_2_code, exceptionTable := #[], attributes := #[] }
def k2m1 : Method := { name := "set", desc := "(IIII)V", sig := { parameters := [.int, .int, .int, .int], returnType := none }, accessFlags := 1, code := some k2c1 }
def k2c2 : Code := { maxStack := 1, maxLocals := 1, code := prog_25_method_3_code, exceptionTable := #[], attributes := #[] }
def k2m2 : Method := { name := "getLeft", desc := "()I", sig := { parameters := [], returnType := some .int }, accessFlags := 1, code := some k2c2 }
def k2c3 : Code := { maxStack := 1, maxLocals := 1, code := prog_25_method_4_code, exceptionTable := #[], attributes := #[] }
def k2m3 : Method := { name := "getTop", desc := "()I", sig := { parameters := [], returnType := some .int }, accessFlags := 1, code := some k2c3 }
def k2c4 : Code := { maxStack := 1, maxLocals := 1, code := prog_25_method_5_code, exceptionTable := #[], attributes := #[] }
def k2m4 : Method := { name := "getRight", desc := "()I", sig := { parameters := [], returnType := some .int }, accessFlags := 1, code := some k2c4 }
def k2c5 : Code := { maxStack := 1, maxLocals := 1, code := prog_25_method_6_code, exceptionTable := #[], attributes := #[] }
def k2m5 : Method := { name := "getBottom", desc := "()I", sig := { parameters := [], returnType := some .int }, accessFlags := 1, code := some k2c5 }
def k2c6 : Code := { maxStack := 2, maxLocals := 1, code := prog_25_method_7_code, exceptionTable := #[], attributes := #[] }
def k2m6 : Method := { name := "isEmpty", desc := "()Z", sig := { parameters := [], returnType := some .boolean }, accessFlags := 1, code := some k2c6 }
/-- com/example/framewright/framewright/Rect -/
def k2 : Class := { plain "com/example/framewright/framewright/Rect" (some 0) with
  accessFlags := 49
  interfaces := #[]
  cf := some (fileOf pool2 8 #[] #[{ accessFlags := 1, nameIndex := 5, descriptorIndex := 12, attributes := #[] }, { accessFlags := 1, nameIndex := 11, descriptorIndex := 12, attributes := #[] }, { accessFlags := 1, nameIndex := 93, descriptorIndex := 94, attributes := #[] }, { accessFlags := 1, nameIndex := 95, descriptorIndex := 94, attributes := #[] }, { accessFlags := 1, nameIndex := 96, descriptorIndex := 94, attributes := #[] }, { accessFlags := 1, nameIndex := 97, descriptorIndex := 94, attributes := #[] }, { accessFlags := 1, nameIndex := 44, descriptorIndex := 45, attributes := #[] }] 49 2 #[] #[{ accessFlags := 2, nameIndex := 15, descriptorIndex := 16, attributes := #[] }, { accessFlags := 2, nameIndex := 19, descriptorIndex := 16, attributes := #[] }, { accessFlags := 2, nameIndex := 22, descriptorIndex := 16, attributes := #[] }, { accessFlags := 2, nameIndex := 25, descriptorIndex := 16, attributes := #[] }])
  fields := #[{ name := "left", type := .int, accessFlags := 2, slot := 0, constantValue := 0 }, { name := "top", type := .int, accessFlags := 2, slot := 1, constantValue := 0 }, { name := "right", type := .int, accessFlags := 2, slot := 2, constantValue := 0 }, { name := "bottom", type := .int, accessFlags := 2, slot := 3, constantValue := 0 }]
  methods := #[k2m0, k2m1, k2m2, k2m3, k2m4, k2m5, k2m6]
  instanceTypes := #[.int, .int, .int, .int]
  staticTypes := #[]
  resolved := Array.replicate 131 none
  statics := none }

def pool3 : Array CpInfo := pool [(1, u "java/lang/Cloneable"), (0, .class_ 1), (0, u "java/lang/Object"), (0, .class_ 3)] 3

/-- java/lang/Cloneable -/
def k3 : Class := { plain "java/lang/Cloneable" (some 0) with
  accessFlags := 1537
  interfaces := #[]
  cf := some (fileOf pool3 2 #[] #[] 1537 4 #[] #[])
  fields := #[]
  methods := #[]
  instanceTypes := #[]
  staticTypes := #[]
  resolved := Array.replicate 8 none
  statics := none }

def pool4 : Array CpInfo := pool [(1, u "java/io/Serializable"), (0, .class_ 1), (0, u "java/lang/Object"), (0, .class_ 3)] 3

/-- java/io/Serializable -/
def k4 : Class := { plain "java/io/Serializable" (some 0) with
  accessFlags := 1537
  interfaces := #[]
  cf := some (fileOf pool4 2 #[] #[] 1537 4 #[] #[])
  fields := #[]
  methods := #[]
  instanceTypes := #[]
  staticTypes := #[]
  resolved := Array.replicate 8 none
  statics := none }

/-- the primitive byte -/
def k5 : Class := { plain "byte" none with kind := .primitive 'B', accessFlags := 0x411 }
/-- [B -/
def k6 : Class := { plain "[B" (some 0) with kind := .array 5 .byte, interfaces := #[3, 4], accessFlags := 1041 }

/-- the primitive int -/
def k7 : Class := { plain "int" none with kind := .primitive 'I', accessFlags := 0x411 }
/-- [I -/
def k8 : Class := { plain "[I" (some 0) with kind := .array 7 .int, interfaces := #[3, 4], accessFlags := 1041 }

def heap : Heap := #[]
def classes : Array Class := #[k0, k1, k2, k3, k4, k5, k6, k7, k8]
def interned : List (Array UInt16 × Addr) := []
def slotsUsed : Nat := 0
def theMethod : MethodId := ⟨1, 1⟩
def args0 : Array Value := #[.int 1, .int 2, .int 3, .int 4]
def aboutOver (below : List Frame) : State where
  vm := { classes := classes, interned := interned.toArray }
  heap := heap
  slotsUsed := slotsUsed
  threads := #[{ frames := .invoking theMethod args0 :: below }]
def below0 : List Frame := [.native { method := ⟨0, 0⟩, args := #[] }]
def about1 : State := aboutOver below0
def p0 : Program := .bare "" "" ""
def e0 : Env := launch0.env 0 0 0
theorem w_frames : about1.frames = Frame.invoking theMethod args0 :: below0 := rfl
set_option maxRecDepth 65536 in
theorem w_args : argsFit about1.vm theMethod args0 = true := by decide +kernel
set_option maxRecDepth 65536 in
theorem w_heap : heapFits about1 = true := by decide +kernel
set_option maxRecDepth 65536 in
theorem w_runnable : about1.curStatus? = some .runnable := by decide +kernel
set_option maxRecDepth 65536 in
theorem w_alone : about1.alone = true := by decide +kernel
set_option maxRecDepth 65536 in
theorem w_named : about1.methodNamed? x = some theMethod := by decide +kernel
set_option maxRecDepth 65536 in
theorem w_hears : about1.hears theMethod below0 = true := by decide +kernel
set_option maxRecDepth 65536 in
theorem w_ripe : about1.ripe theMethod args0 below0 = true := by decide +kernel
theorem w_running : about1.status = .running := rfl
set_option maxRecDepth 65536 in
theorem w_room : about1.hasRoom e0.platform room_1 = true :=
  launch0.hasRoom_least _ room_1 (by decide +kernel) (by decide +kernel) (by decide +kernel) (by decide +kernel) (by decide +kernel) (by decide +kernel)
theorem allAtoms_all (ts : List Jvm.Cond) (a : Array Jvm.Value) (st : Jvm.State) : (allAtoms ts).before a st = ts.all (fun c => c.before a st) := by
  induction ts with
  | nil => rfl
  | cons c t ih =>
    show (Jvm.Cond.and c (allAtoms t)).before a st = _
    rw [Jvm.Cond.before_and, ih, List.all_cons]
def words1 : List Jvm.Cond := Jvm.Cond.code x code maxLocals ret :: tables_1
/-- a 'code' word, met by the world's own term for the bytes: nothing is compared byte by byte -/
theorem code_word {y : MethodName} {bytes : ByteArray} {mx : Nat} {rt : Option FieldType} {a : Array Value} {s : State} {m : MethodId} {meth : Method} {c : Code} (h1 : s.methodNamed? y = some m) (h2 : s.vm.method? m = some meth) (h3 : meth.code = some c) (h4 : c.code = bytes)
    (h5 : (c.maxLocals == mx && c.exceptionTable.isEmpty && decide (c.maxStack ≤ mostOperands) && decide (meth.sig.returnType = rt) && !meth.locks && decide (parseMethodDescriptor y.desc = some meth.sig)) = true) : (Jvm.Cond.code y bytes mx rt).before a s = true := by
  simp only [Bool.and_eq_true, beq_iff_eq, Bool.not_eq_true', decide_eq_true_eq] at h5
  obtain ⟨⟨⟨⟨⟨g1, g2⟩, g3⟩, g4⟩, g5⟩, g6⟩ := h5
  simp [Cond.before, Cond.holds, Cond.value, h1, h2, h3, h4, g1, g2, g3, g4, g5, g6]
def isCode : Jvm.Cond → Bool
  | .code _ _ _ _ => true
  | _ => false
theorem all_split {L : List Jvm.Cond} {P : Jvm.Cond → Bool} (h1 : L.all (fun c => isCode c || P c) = true) (h2 : ∀ c ∈ L.filter isCode, P c = true) : L.all P = true := by
  refine List.all_eq_true.mpr fun c hc => ?_
  have h := List.all_eq_true.mp h1 c hc
  rcases Bool.eq_false_or_eq_true (isCode c) with hi | hi
  · exact h2 c (List.mem_filter.mpr ⟨hc, hi⟩)
  · simpa [hi] using h
set_option maxRecDepth 65536 in
theorem w_c0 : (Jvm.Cond.code x code maxLocals ret).before args0 about1 = true := code_word (m := ⟨1, 1⟩) (meth := k1m1) (c := k1c1) (by decide +kernel) rfl rfl rfl (by decide +kernel)
set_option maxRecDepth 65536 in
theorem w_c1 : (Jvm.Cond.code ({ cls := "com/example/framewright/framewright/Rect", name := "<init>", desc := "(IIII)V" } : Jvm.MethodName) prog_25_method_1_code (5 : Nat) (Option.none : Option Jvm.ClassFile.FieldType)).before args0 about1 = true := code_word (m := ⟨2, 0⟩) (meth := k2m0) (c := k2c0) (by decide +kernel) rfl rfl rfl (by decide +kernel)
set_option maxRecDepth 65536 in
theorem w_c2 : (Jvm.Cond.code ({ cls := "java/lang/Object", name := "<init>", desc := "()V" } : Jvm.MethodName) object_method_1_code (1 : Nat) (Option.none : Option Jvm.ClassFile.FieldType)).before args0 about1 = true := code_word (m := ⟨0, 0⟩) (meth := k0m0) (c := k0c0) (by decide +kernel) rfl rfl rfl (by decide +kernel)
set_option maxRecDepth 65536 in
theorem w_c3 : (Jvm.Cond.code ({ cls := "com/example/framewright/framewright/Rect", name := "set", desc := "(IIII)V" } : Jvm.MethodName) prog_25_method_2_code (5 : Nat) (Option.none : Option Jvm.ClassFile.FieldType)).before args0 about1 = true := code_word (m := ⟨2, 1⟩) (meth := k2m1) (c := k2c1) (by decide +kernel) rfl rfl rfl (by decide +kernel)
set_option maxRecDepth 65536 in
theorem w_c4 : (Jvm.Cond.code ({ cls := "com/example/framewright/framewright/Rect", name := "isEmpty", desc := "()Z" } : Jvm.MethodName) prog_25_method_7_code (1 : Nat) (Option.some Jvm.ClassFile.FieldType.boolean)).before args0 about1 = true := code_word (m := ⟨2, 6⟩) (meth := k2m6) (c := k2c6) (by decide +kernel) rfl rfl rfl (by decide +kernel)
set_option maxRecDepth 65536 in
theorem w_c5 : (Jvm.Cond.code ({ cls := "com/example/framewright/framewright/Rect", name := "getLeft", desc := "()I" } : Jvm.MethodName) prog_25_method_3_code (1 : Nat) (Option.some Jvm.ClassFile.FieldType.int)).before args0 about1 = true := code_word (m := ⟨2, 2⟩) (meth := k2m2) (c := k2c2) (by decide +kernel) rfl rfl rfl (by decide +kernel)
set_option maxRecDepth 65536 in
theorem w_c6 : (Jvm.Cond.code ({ cls := "com/example/framewright/framewright/Rect", name := "getTop", desc := "()I" } : Jvm.MethodName) prog_25_method_4_code (1 : Nat) (Option.some Jvm.ClassFile.FieldType.int)).before args0 about1 = true := code_word (m := ⟨2, 3⟩) (meth := k2m3) (c := k2c3) (by decide +kernel) rfl rfl rfl (by decide +kernel)
set_option maxRecDepth 65536 in
theorem w_c7 : (Jvm.Cond.code ({ cls := "com/example/framewright/framewright/Rect", name := "getRight", desc := "()I" } : Jvm.MethodName) prog_25_method_5_code (1 : Nat) (Option.some Jvm.ClassFile.FieldType.int)).before args0 about1 = true := code_word (m := ⟨2, 4⟩) (meth := k2m4) (c := k2c4) (by decide +kernel) rfl rfl rfl (by decide +kernel)
set_option maxRecDepth 65536 in
theorem w_c8 : (Jvm.Cond.code ({ cls := "com/example/framewright/framewright/Rect", name := "getBottom", desc := "()I" } : Jvm.MethodName) prog_25_method_6_code (1 : Nat) (Option.some Jvm.ClassFile.FieldType.int)).before args0 about1 = true := code_word (m := ⟨2, 5⟩) (meth := k2m5) (c := k2c5) (by decide +kernel) rfl rfl rfl (by decide +kernel)
def codes1 : List Jvm.Cond := [Jvm.Cond.code x code maxLocals ret, Jvm.Cond.code ({ cls := "com/example/framewright/framewright/Rect", name := "<init>", desc := "(IIII)V" } : Jvm.MethodName) prog_25_method_1_code (5 : Nat) (Option.none : Option Jvm.ClassFile.FieldType), Jvm.Cond.code ({ cls := "java/lang/Object", name := "<init>", desc := "()V" } : Jvm.MethodName) object_method_1_code (1 : Nat) (Option.none : Option Jvm.ClassFile.FieldType), Jvm.Cond.code ({ cls := "com/example/framewright/framewright/Rect", name := "set", desc := "(IIII)V" } : Jvm.MethodName) prog_25_method_2_code (5 : Nat) (Option.none : Option Jvm.ClassFile.FieldType), Jvm.Cond.code ({ cls := "com/example/framewright/framewright/Rect", name := "isEmpty", desc := "()Z" } : Jvm.MethodName) prog_25_method_7_code (1 : Nat) (Option.some Jvm.ClassFile.FieldType.boolean), Jvm.Cond.code ({ cls := "com/example/framewright/framewright/Rect", name := "getLeft", desc := "()I" } : Jvm.MethodName) prog_25_method_3_code (1 : Nat) (Option.some Jvm.ClassFile.FieldType.int), Jvm.Cond.code ({ cls := "com/example/framewright/framewright/Rect", name := "getTop", desc := "()I" } : Jvm.MethodName) prog_25_method_4_code (1 : Nat) (Option.some Jvm.ClassFile.FieldType.int), Jvm.Cond.code ({ cls := "com/example/framewright/framewright/Rect", name := "getRight", desc := "()I" } : Jvm.MethodName) prog_25_method_5_code (1 : Nat) (Option.some Jvm.ClassFile.FieldType.int), Jvm.Cond.code ({ cls := "com/example/framewright/framewright/Rect", name := "getBottom", desc := "()I" } : Jvm.MethodName) prog_25_method_6_code (1 : Nat) (Option.some Jvm.ClassFile.FieldType.int)]
set_option maxRecDepth 65536 in
theorem codes_eq : words1.filter isCode = codes1 := rfl
theorem w_codes : ∀ c ∈ words1.filter isCode, c.before args0 about1 = true := by
  rw [codes_eq]
  intro c hc
  simp only [codes1, List.mem_cons, List.not_mem_nil, or_false] at hc
  rcases hc with rfl | rfl | rfl | rfl | rfl | rfl | rfl | rfl | rfl
  · exact w_c0
  · exact w_c1
  · exact w_c2
  · exact w_c3
  · exact w_c4
  · exact w_c5
  · exact w_c6
  · exact w_c7
  · exact w_c8
set_option maxRecDepth 65536 in
theorem w_t1 : (words1.take 24).all (fun c => isCode c || c.before args0 about1) = true := by decide +kernel
set_option maxRecDepth 65536 in
theorem w_t2 : (words1.drop 24).all (fun c => isCode c || c.before args0 about1) = true := by decide +kernel
theorem w_tables : (allAtoms (Jvm.Cond.code x code maxLocals ret :: tables_1)).before args0 about1 = true := by
  rw [allAtoms_all]
  show words1.all (fun c => c.before args0 about1) = true
  refine all_split ?_ w_codes
  rw [← List.take_append_drop 24 words1, List.all_append, w_t1, w_t2]
  rfl
set_option maxRecDepth 65536 in
theorem w_case : (Jvm.Cond.and given_1 narrow_1).before args0 about1 = true := by decide +kernel
theorem w_applies : (headSpec (Jvm.Cond.code x code maxLocals ret :: tables_1) room_1).applies x e0.platform about1 = true :=
  (Spec.applies_iff w_frames).mpr ⟨w_running, w_runnable, w_alone, w_named, w_hears, w_ripe, w_room, w_tables⟩
theorem atStart : AtStart classFile x code maxLocals ret World_1 tables_1 room_1 Calls_1 rest_1 Pre_1 launch0 p0 e0 about1 theMethod args0 below0 :=
  ⟨lists_1, trivial, launch0.admits_env _ _ _, launch0.least_env, fairChoices_fair.cas, fairChoices_fair.clock, w_frames, w_args, w_heap, w_applies, trivial, trivial, w_case⟩
end start1
theorem witness_1 : WitnessClaimed_1 := ⟨start1.p0, start1.e0, start1.about1, start1.theMethod, start1.args0, start1.below0, start1.atStart⟩
end Jvm.Pilot.@@N@@
