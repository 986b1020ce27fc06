import JvmDerived
import JvmDerived.Pilot.@@N@@Statement
import JvmDerived.Pilot.@@N@@Code
set_option linter.unusedVariables false
set_option linter.unusedSimpArgs false
namespace Jvm.Pilot.@@N@@
open Jvm Jvm.ClassFile Sem Op Lib Jvm.Free Jvm.Stand Jvm.LawKit Jvm.RoadKit Bundle Jvm.Pilot.@@N@@.Jvm.D
theorem own_pd0 : parseMethodDescriptor "(I)Ljava/math/RoundingMode;" = some ⟨[.int], some (.object "java/math/RoundingMode")⟩ := by decide +kernel
theorem own_ne {t t' : Term} {args : Array Value} {s : State} {a b : Addr} {C n d : String} {i j : Int32} (ht : t.eval args s none [] s = some (.ref a)) (ht' : t'.eval args s none [] s = some (.ref b))
    (h : (Jvm.Cond.eq (.field t C n d) (.int i)).value args s none s [] = some true) (h' : (Jvm.Cond.eq (.field t' C n d) (.int j)).value args s none s [] = some true) (hij : i ≠ j) : a ≠ b := by
  rintro rfl
  obtain ⟨x, y, ex, ey, k1, k2⟩ := cmp_v (Or.inl h)
  obtain ⟨x', y', ex', ey', k1', k2'⟩ := cmp_v (Or.inl h')
  have e1 : x = x' := by
    rw [fld_at ht] at ex; rw [fld_at ht'] at ex'
    exact Option.some.inj (ex.symm.trans ex')
  subst e1
  have u : y = .int i := Option.some.inj (ey.symm.trans (Term.int_eval i))
  have u' : y' = .int j := Option.some.inj (ey'.symm.trans (Term.int_eval j))
  subst u u'
  cases x with
  | int z =>
    have q1 := gotT (Cond.eq_ints ex (Term.int_eval i)) h
    have q2 := gotT (Cond.eq_ints ex' (Term.int_eval j)) h'
    exact hij (q1.symm.trans q2)
  | _ => simp [Kin, Value.isRef] at k1
theorem own_nlt {x : Int32} (h : x < 0) : ¬ ((0 : Int32) < x) := by
  rw [Int32.lt_iff_toInt_lt] at h ⊢; omega
theorem own_da0 : decode prog_73_method_4_code 0 = .ok (.aload_n 0, 1) := by decide +kernel
theorem own_da1 : decode prog_73_method_4_code 1 = .ok (.getstatic 7, 3) := by decide +kernel
theorem own_da4 : decode prog_73_method_4_code 4 = .ok (.if_acmp .ne 10, 3) := by decide +kernel
theorem own_da7 : decode prog_73_method_4_code 7 = .ok (.getstatic 29, 3) := by decide +kernel
theorem own_da10 : decode prog_73_method_4_code 10 = .ok (.astore_n 2, 1) := by decide +kernel
theorem own_da11 : decode prog_73_method_4_code 11 = .ok (.goto 17, 3) := by decide +kernel
theorem own_da14 : decode prog_73_method_4_code 14 = .ok (.iload_n 1, 1) := by decide +kernel
theorem own_da15 : decode prog_73_method_4_code 15 = .ok (.ifCond .ge 9, 3) := by decide +kernel
theorem own_da18 : decode prog_73_method_4_code 18 = .ok (.getstatic 35, 3) := by decide +kernel
theorem own_da21 : decode prog_73_method_4_code 21 = .ok (.goto 6, 3) := by decide +kernel
theorem own_da24 : decode prog_73_method_4_code 24 = .ok (.getstatic 38, 3) := by decide +kernel
theorem own_da27 : decode prog_73_method_4_code 27 = .ok (.astore_n 2, 1) := by decide +kernel
theorem own_da28 : decode prog_73_method_4_code 28 = .ok (.aload_n 2, 1) := by decide +kernel
theorem own_da29 : decode prog_73_method_4_code 29 = .ok (.areturn, 1) := by decide +kernel
theorem own_mode_pn : plainName "com/example/trawl/trawl/model/NumericValue$Halves" = true := by first | (simp [plainName, overriddenIn]; done) | decide +kernel
theorem own_mode_ef (m : MethodId) (a : Addr) (sg : Int32) : entryFrame m #[(.ref a), (.int sg)] 3 = mkF m 0 #[.val (.ref a), .val (.int sg), .unset] [] := by first | (simp [entryFrame, mkF, argsToLocals, Value.category]; done) | rfl
def own_mode_Q (Z : State) (a : Addr) (sg : Int32) (aT aE rU rD rE : Addr) (h0 : Heap) (n0 : Nat) (v : Option Value) (h : Heap) (L : List Loc) : Prop := v = some (.ref (if a = aE then rE else if sg < 0 then rD else rU)) ∧ Fr n0 L ∧ h = h0
set_option maxRecDepth 65536 in
set_option maxHeartbeats 40000000 in
theorem own_mode (l : Launch) (Z : State) (a0 : Array Value) (hw : ∀ d ∈ tables_1, d.before a0 Z = true) (ws : List Jvm.Cond) (a : Addr) (sg : Int32) (aT aE rU rD rE : Addr) (h0 : Heap) (n0 : Nat) (Z0 : n0 ≤ h0.size) (S_aT : Sta Z h0 "com/example/trawl/trawl/model/NumericValue$Halves" "TOWARDS_POSITIVE_INFINITY" "Lcom/example/trawl/trawl/model/NumericValue$Halves;" (.ref aT)) (S_aE : Sta Z h0 "com/example/trawl/trawl/model/NumericValue$Halves" "TO_EVEN" "Lcom/example/trawl/trawl/model/NumericValue$Halves;" (.ref aE)) (S_rU : Sta Z h0 "java/math/RoundingMode" "HALF_UP" "Ljava/math/RoundingMode;" (.ref rU)) (S_rD : Sta Z h0 "java/math/RoundingMode" "HALF_DOWN" "Ljava/math/RoundingMode;" (.ref rD)) (S_rE : Sta Z h0 "java/math/RoundingMode" "HALF_EVEN" "Ljava/math/RoundingMode;" (.ref rE)) :
    MetFree l (⟨"com/example/trawl/trawl/model/NumericValue$Halves", "mode", "(I)Ljava/math/RoundingMode;"⟩ : MethodName) (head1 (Jvm.Cond.code (⟨"com/example/trawl/trawl/model/NumericValue$Halves", "mode", "(I)Ljava/math/RoundingMode;"⟩ : MethodName) prog_73_method_4_code 3 (some (.object "java/math/RoundingMode")) :: ws) ({ frames := 0, cells := 0, slots := 0, locals := 0 } : Room)) (fun ars U => ars = #[(.ref a), (.int sg)] ∧ Z.Warmed39 U.vm ∧ U.heap = h0) (fun _ _ _ _ _ => True) (fun _ U o U' => ∃ v L, o = .returned v ∧ own_mode_Q Z a sg aT aE rU rD rE h0 n0 v U'.heap L ∧ FrameEnd U o U' L ({ frames := 0, cells := 0, slots := 0, locals := 0 } : Room).cells ({ frames := 0, cells := 0, slots := 0, locals := 0 } : Room).slots) := by
  refine MetFree.of_bodySF (plainFor_of_name own_mode_pn) hisR ?_
  intro p e s m args below meth c s₁ Bd hml0 hP hK
  obtain ⟨rfl, hZ, hh⟩ := hP
  have hx := Bd.exec
  have hby := Bd.bytes
  have hml : c.maxLocals = 3 := hml0
  have hown : s.vm.findClass "com/example/trawl/trawl/model/NumericValue$Halves" = some m.cls := findClass_of_methodNamed Bd.named
  have hnm := (name_of_methodNamed Bd.named Bd.method).1
  have X0 : Stand p l e ({ frames := 0, cells := 0, slots := 0, locals := 0 } : Room) s m #[(.ref a), (.int sg)] below meth c s₁ [] 0 0 := Stand.of_body Bd
  have e0 : s₁.heap = h0 := by rw [← hh, Bd.state]; rfl
  have N0 := Fr.nil n0
  generalize hS0 : s₁.setTop (entryFrame m #[(.ref a), (.int sg)] 3) = S0
  have c0 : Steps p.tables e below S0 (s₁.setTop (mkF m 0 #[.val (.ref a), .val (.int sg), .unset] [])) := by rw [← hS0]; exact castTop (own_mode_ef m a sg) (Steps.refl _)
  have c1 : Steps p.tables e below S0 (s₁.setTop (mkF m 1 #[.val (.ref a), .val (.int sg), .unset] [(.ref a)])) := c0.trans (by
    refine XS.aloadN X0.here hx rfl (hb hby own_da0) rfl rfl ?_
    exact Steps.refl _)
  obtain ⟨T2, X2, e2, st2⟩ := getS2 X0 hx hZ hown (host := "") (Or.inl (hw _ (List.mem_of_getElem? (i := 8) rfl))) Via.refl e0 S_aE (g := (mkF m 1 #[.val (.ref a), .val (.int sg), .unset] [(.ref a)])) rfl (hb hby own_da1)
  have c3 : Steps p.tables e below S0 (T2.setTop (mkF m 4 #[.val (.ref a), .val (.int sg), .unset] [(.ref aE), (.ref a)])) := c1.trans (by
    refine st2 _ ?_
    exact Steps.refl _)
  by_cases ha : a = aE
  · have c4 : Steps p.tables e below S0 (T2.setTop (mkF m 7 #[.val (.ref a), .val (.int sg), .unset] [])) := c3.trans (by
      refine Jvm.RoadKit.acmp (g := (mkF m 4 #[.val (.ref a), .val (.int sg), .unset] [(.ref aE), (.ref a)])) X2 hx rfl rfl rfl (pc0 := 4) (pc' := 7) (same := true) rfl (hb hby own_da4) rfl (decide_eq_true (congrArg Value.ref ha)) (by decide) (by decide) ?_
      exact Steps.refl _)
    obtain ⟨T5, X5, e5, st5⟩ := getS2 X2 hx hZ hown (host := "") (Or.inl (hw _ (List.mem_of_getElem? (i := 16) rfl))) Via.refl e2 S_rE (g := (mkF m 7 #[.val (.ref a), .val (.int sg), .unset] [])) rfl (hb hby own_da7)
    have c6 : Steps p.tables e below S0 (T5.setTop (mkF m 10 #[.val (.ref a), .val (.int sg), .unset] [(.ref rE)])) := c4.trans (by
      refine st5 _ ?_
      exact Steps.refl _)
    have c7 : Steps p.tables e below S0 (T5.setTop (mkF m 29 #[.val (.ref a), .val (.int sg), .val (.ref rE)] [(.ref rE)])) := c6.trans (by
      refine XS.astoreN X5.here hx rfl (hb hby own_da10) rfl rfl (l' := #[.val (.ref a), .val (.int sg), .val (.ref rE)]) rfl ?_
      show Steps p.tables e below (T5.setTop (mkF m 11 #[.val (.ref a), .val (.int sg), .val (.ref rE)] [])) _
      refine XS.goto X5.here hx rfl (pc0 := 11) (pc' := 28) rfl (hb hby own_da11) (by decide) (by decide) ?_
      show Steps p.tables e below (T5.setTop (mkF m 28 #[.val (.ref a), .val (.int sg), .val (.ref rE)] [])) _
      refine XS.aloadN X5.here hx rfl (hb hby own_da28) rfl rfl ?_
      exact Steps.refl _)
    obtain ⟨fs, hr, hrun, hended, hW, hsame⟩ := X5.leave (v := some (.ref rE)) (fun h => by rw [Bd.returns] at h; cases h)
    exact ⟨_, _, c7.trans (retOut X5 hx (t := (.object "java/math/RoundingMode")) (i := .areturn) Bd.returns rfl (Or.inr (Or.inr (Or.inr (Or.inr ⟨rfl, rfl, rfl⟩)))) (hb hby own_da29) hr), hrun, hended, _, _, rfl, ⟨by rw [if_pos ha], N0, e5⟩, ⟨_, rfl⟩, hW, hsame.mono (by decide) (by decide)⟩
  · have c8 : Steps p.tables e below S0 (T2.setTop (mkF m 14 #[.val (.ref a), .val (.int sg), .unset] [])) := c3.trans (by
      refine Jvm.RoadKit.acmp (g := (mkF m 4 #[.val (.ref a), .val (.int sg), .unset] [(.ref aE), (.ref a)])) X2 hx rfl rfl rfl (pc0 := 4) (pc' := 14) (same := false) rfl (hb hby own_da4) rfl (decide_eq_false fun q => ha (Value.ref.inj q)) (by decide) (by decide) ?_
      exact Steps.refl _)
    have c9 : Steps p.tables e below S0 (T2.setTop (mkF m 15 #[.val (.ref a), .val (.int sg), .unset] [(.int sg)])) := c8.trans (by
      refine XS.iloadN X2.here hx rfl (hb hby own_da14) rfl ?_
      exact Steps.refl _)
    by_cases hs : sg < (0 : Int32)
    · have c10 : Steps p.tables e below S0 (T2.setTop (mkF m 18 #[.val (.ref a), .val (.int sg), .unset] [])) := c9.trans (by
        refine XS.ifNo X2.here hx rfl (hb hby own_da15) rfl ((if0 _ _).trans (tlt hs).2.1) ?_
        exact Steps.refl _)
      obtain ⟨T11, X11, e11, st11⟩ := getS2 X2 hx hZ hown (host := "") (Or.inl (hw _ (List.mem_of_getElem? (i := 13) rfl))) Via.refl e2 S_rD (g := (mkF m 18 #[.val (.ref a), .val (.int sg), .unset] [])) rfl (hb hby own_da18)
      have c12 : Steps p.tables e below S0 (T11.setTop (mkF m 21 #[.val (.ref a), .val (.int sg), .unset] [(.ref rD)])) := c10.trans (by
        refine st11 _ ?_
        exact Steps.refl _)
      have c13 : Steps p.tables e below S0 (T11.setTop (mkF m 29 #[.val (.ref a), .val (.int sg), .val (.ref rD)] [(.ref rD)])) := c12.trans (by
        refine XS.goto X11.here hx rfl (pc0 := 21) (pc' := 27) rfl (hb hby own_da21) (by decide) (by decide) ?_
        show Steps p.tables e below (T11.setTop (mkF m 27 #[.val (.ref a), .val (.int sg), .unset] [(.ref rD)])) _
        refine XS.astoreN X11.here hx rfl (hb hby own_da27) rfl rfl (l' := #[.val (.ref a), .val (.int sg), .val (.ref rD)]) rfl ?_
        show Steps p.tables e below (T11.setTop (mkF m 28 #[.val (.ref a), .val (.int sg), .val (.ref rD)] [])) _
        refine XS.aloadN X11.here hx rfl (hb hby own_da28) rfl rfl ?_
        exact Steps.refl _)
      obtain ⟨fs, hr, hrun, hended, hW, hsame⟩ := X11.leave (v := some (.ref rD)) (fun h => by rw [Bd.returns] at h; cases h)
      exact ⟨_, _, c13.trans (retOut X11 hx (t := (.object "java/math/RoundingMode")) (i := .areturn) Bd.returns rfl (Or.inr (Or.inr (Or.inr (Or.inr ⟨rfl, rfl, rfl⟩)))) (hb hby own_da29) hr), hrun, hended, _, _, rfl, ⟨by rw [if_neg ha, if_pos hs], N0, e11⟩, ⟨_, rfl⟩, hW, hsame.mono (by decide) (by decide)⟩
    · have c14 : Steps p.tables e below S0 (T2.setTop (mkF m 24 #[.val (.ref a), .val (.int sg), .unset] [])) := c9.trans (by
        refine XS.ifYes X2.here hx rfl (pc0 := 15) (pc' := 24) rfl (hb hby own_da15) rfl ((if0 _ _).trans (flt hs).2.1) (by decide) (by decide) ?_
        exact Steps.refl _)
      obtain ⟨T15, X15, e15, st15⟩ := getS2 X2 hx hZ hown (host := "") (Or.inl (hw _ (List.mem_of_getElem? (i := 10) rfl))) Via.refl e2 S_rU (g := (mkF m 24 #[.val (.ref a), .val (.int sg), .unset] [])) rfl (hb hby own_da24)
      have c16 : Steps p.tables e below S0 (T15.setTop (mkF m 27 #[.val (.ref a), .val (.int sg), .unset] [(.ref rU)])) := c14.trans (by
        refine st15 _ ?_
        exact Steps.refl _)
      have c17 : Steps p.tables e below S0 (T15.setTop (mkF m 29 #[.val (.ref a), .val (.int sg), .val (.ref rU)] [(.ref rU)])) := c16.trans (by
        refine XS.astoreN X15.here hx rfl (hb hby own_da27) rfl rfl (l' := #[.val (.ref a), .val (.int sg), .val (.ref rU)]) rfl ?_
        show Steps p.tables e below (T15.setTop (mkF m 28 #[.val (.ref a), .val (.int sg), .val (.ref rU)] [])) _
        refine XS.aloadN X15.here hx rfl (hb hby own_da28) rfl rfl ?_
        exact Steps.refl _)
      obtain ⟨fs, hr, hrun, hended, hW, hsame⟩ := X15.leave (v := some (.ref rU)) (fun h => by rw [Bd.returns] at h; cases h)
      exact ⟨_, _, c17.trans (retOut X15 hx (t := (.object "java/math/RoundingMode")) (i := .areturn) Bd.returns rfl (Or.inr (Or.inr (Or.inr (Or.inr ⟨rfl, rfl, rfl⟩)))) (hb hby own_da29) hr), hrun, hended, _, _, rfl, ⟨by rw [if_neg ha, if_neg hs], N0, e15⟩, ⟨_, rfl⟩, hW, hsame.mono (by decide) (by decide)⟩
theorem own_law_pn : plainName "com/example/trawl/trawl/model/HalvesModePinLaw" = true := by first | (simp [plainName, overriddenIn]; done) | decide +kernel
theorem own_law_ef (m : MethodId) (pp : Int32) (sg : Int32) : entryFrame m #[(.int pp), (.int sg)] maxLocals = mkF m 0 #[.val (.int pp), .val (.int sg), .unset, .unset, .unset] [] := by first | (simp [entryFrame, mkF, argsToLocals, Value.category, maxLocals]; done) | rfl
def own_law_Q (Z : State) (pp : Int32) (sg : Int32) (aT aE rU rD rE : Addr) (h0 : Heap) (n0 : Nat) (v : Option Value) (h : Heap) (L : List Loc) : Prop := v = some (.int 1) ∧ Fr n0 L
set_option maxRecDepth 65536 in
set_option maxHeartbeats 40000000 in
theorem own_law (l : Launch) (Z : State) (a0 : Array Value) (hw : ∀ d ∈ tables_1, d.before a0 Z = true) (ws : List Jvm.Cond) (pp : Int32) (sg : Int32) (aT aE rU rD rE : Addr) (h0 : Heap) (n0 : Nat) (Z0 : n0 ≤ h0.size) (S_aT : Sta Z h0 "com/example/trawl/trawl/model/NumericValue$Halves" "TOWARDS_POSITIVE_INFINITY" "Lcom/example/trawl/trawl/model/NumericValue$Halves;" (.ref aT)) (S_aE : Sta Z h0 "com/example/trawl/trawl/model/NumericValue$Halves" "TO_EVEN" "Lcom/example/trawl/trawl/model/NumericValue$Halves;" (.ref aE)) (S_rU : Sta Z h0 "java/math/RoundingMode" "HALF_UP" "Ljava/math/RoundingMode;" (.ref rU)) (S_rD : Sta Z h0 "java/math/RoundingMode" "HALF_DOWN" "Ljava/math/RoundingMode;" (.ref rD)) (S_rE : Sta Z h0 "java/math/RoundingMode" "HALF_EVEN" "Ljava/math/RoundingMode;" (.ref rE)) (E_aT : Exa Z h0 aT "com/example/trawl/trawl/model/NumericValue$Halves") (E_aE : Exa Z h0 aE "com/example/trawl/trawl/model/NumericValue$Halves") (hne : aT ≠ aE) :
    MetFree l x (head1 (Jvm.Cond.code x code maxLocals ret :: ws) room_1) (fun ars U => ars = #[(.int pp), (.int sg)] ∧ Z.Warmed39 U.vm ∧ U.heap = h0) (fun _ _ _ _ _ => True) (fun _ U o U' => ∃ v L, o = .returned v ∧ own_law_Q Z pp sg aT aE rU rD rE h0 n0 v U'.heap L ∧ FrameEnd U o U' L 0 0) := by
  refine MetFree.of_bodySF (plainFor_of_name own_law_pn) hisR ?_
  intro p e s m args below meth c s₁ Bd hml0 hP hK
  obtain ⟨rfl, hZ, hh⟩ := hP
  have hx := Bd.exec
  have hby := Bd.bytes
  have hml : c.maxLocals = 5 := hml0
  have hown : s.vm.findClass "com/example/trawl/trawl/model/HalvesModePinLaw" = some m.cls := findClass_of_methodNamed Bd.named
  have hnm := (name_of_methodNamed Bd.named Bd.method).1
  have X0 : Stand p l e room_1 s m #[(.int pp), (.int sg)] below meth c s₁ [] 0 0 := Stand.of_body Bd
  have e0 : s₁.heap = h0 := by rw [← hh, Bd.state]; rfl
  have N0 := Fr.nil n0
  generalize hS0 : s₁.setTop (entryFrame m #[(.int pp), (.int sg)] maxLocals) = S0
  have c0 : Steps p.tables e below S0 (s₁.setTop (mkF m 0 #[.val (.int pp), .val (.int sg), .unset, .unset, .unset] [])) := by rw [← hS0]; exact castTop (own_law_ef m pp sg) (Steps.refl _)
  have c1 : Steps p.tables e below S0 (s₁.setTop (mkF m 3 #[.val (.int pp), .val (.int sg), .unset, .unset, .unset] [(.int (pp &&& (1 : Int32)))])) := c0.trans (by
    refine XS.iloadN X0.here hx rfl (hb hby at_0) rfl ?_
    show Steps p.tables e below (s₁.setTop (mkF m 1 #[.val (.int pp), .val (.int sg), .unset, .unset, .unset] [(.int pp)])) _
    refine XS.iconst X0.here hx rfl (hb hby at_1) ?_
    show Steps p.tables e below (s₁.setTop (mkF m 2 #[.val (.int pp), .val (.int sg), .unset, .unset, .unset] [(.int (1 : Int32)), (.int pp)])) _
    refine XS.iand X0.here hx rfl (hb hby at_2) rfl ?_
    exact Steps.refl _)
  by_cases hp : (pp &&& (1 : Int32)) = (0 : Int32)
  · have c2 : Steps p.tables e below S0 (s₁.setTop (mkF m 10 #[.val (.int pp), .val (.int sg), .unset, .unset, .unset] [])) := c1.trans (by
      refine XS.ifYes X0.here hx rfl (pc0 := 3) (pc' := 10) rfl (hb hby at_3) rfl ((if0 _ _).trans (teq hp).1) (by decide) (by decide) ?_
      exact Steps.refl _)
    have c3 : Steps p.tables e below S0 (s₁.setTop (mkF m 13 #[.val (.int pp), .val (.int sg), .val (.int (0 : Int32)), .unset, .unset] [(.int (0 : Int32))])) := c2.trans (by
      refine XS.iconst X0.here hx rfl (hb hby at_10) ?_
      show Steps p.tables e below (s₁.setTop (mkF m 11 #[.val (.int pp), .val (.int sg), .unset, .unset, .unset] [(.int (0 : Int32))])) _
      refine XS.istoreN X0.here hx rfl (hb hby at_11) rfl (l' := #[.val (.int pp), .val (.int sg), .val (.int (0 : Int32)), .unset, .unset]) rfl ?_
      show Steps p.tables e below (s₁.setTop (mkF m 12 #[.val (.int pp), .val (.int sg), .val (.int (0 : Int32)), .unset, .unset] [])) _
      refine XS.iloadN X0.here hx rfl (hb hby at_12) rfl ?_
      exact Steps.refl _)
    have c4 : Steps p.tables e below S0 (s₁.setTop (mkF m 22 #[.val (.int pp), .val (.int sg), .val (.int (0 : Int32)), .unset, .unset] [])) := c3.trans (by
      refine XS.ifYes X0.here hx rfl (pc0 := 13) (pc' := 22) rfl (hb hby at_13) rfl ((if0 _ _).trans (teq (by decide)).1) (by decide) (by decide) ?_
      exact Steps.refl _)
    obtain ⟨T5, X5, e5, st5⟩ := getS2 X0 hx hZ hown (host := "") (Or.inl (hw _ (List.mem_of_getElem? (i := 0) rfl))) Via.refl e0 S_aT (g := (mkF m 22 #[.val (.int pp), .val (.int sg), .val (.int (0 : Int32)), .unset, .unset] [])) rfl (hb hby at_22)
    have c6 : Steps p.tables e below S0 (T5.setTop (mkF m 25 #[.val (.int pp), .val (.int sg), .val (.int (0 : Int32)), .unset, .unset] [(.ref aT)])) := c4.trans (by
      refine st5 _ ?_
      exact Steps.refl _)
    have c7 : Steps p.tables e below S0 (T5.setTop (mkF m 28 #[.val (.int pp), .val (.int sg), .val (.int (0 : Int32)), .val (.ref aT), .unset] [(.int sg), (.ref aT)])) := c6.trans (by
      refine XS.astoreN X5.here hx rfl (hb hby at_25) rfl rfl (l' := #[.val (.int pp), .val (.int sg), .val (.int (0 : Int32)), .val (.ref aT), .unset]) rfl ?_
      show Steps p.tables e below (T5.setTop (mkF m 26 #[.val (.int pp), .val (.int sg), .val (.int (0 : Int32)), .val (.ref aT), .unset] [])) _
      refine XS.aloadN X5.here hx rfl (hb hby at_26) rfl rfl ?_
      show Steps p.tables e below (T5.setTop (mkF m 27 #[.val (.int pp), .val (.int sg), .val (.int (0 : Int32)), .val (.ref aT), .unset] [(.ref aT)])) _
      refine XS.iloadN X5.here hx rfl (hb hby at_27) rfl ?_
      exact Steps.refl _)
    obtain ⟨cq8, kq8, q8a, q8b, q8c⟩ := isOf hZ e5 E_aT
    obtain ⟨_, _, ⟨T8, L8, k8, n8⟩, -, X8, ⟨Lc8, hQ8, l8, y8, z8⟩, st8⟩ := X5.virtualBack hx (y := (⟨"com/example/trawl/trawl/model/NumericValue$Halves", "mode", "(I)Ljava/math/RoundingMode;"⟩ : MethodName)) (z := (⟨"com/example/trawl/trawl/model/NumericValue$Halves", "mode", "(I)Ljava/math/RoundingMode;"⟩ : MethodName)) hown (mvT hZ (hw _ (List.mem_of_getElem? (i := 3) rfl))) (mvT hZ (hw _ (List.mem_of_getElem? (i := 4) rfl))) (notFace_of_selects (args := #[]) (mvT hZ (hw _ (List.mem_of_getElem? (i := 6) rfl)))) (mvT hZ (hw _ (List.mem_of_getElem? (i := 6) rfl))) (mvT hZ (hw _ (List.mem_of_getElem? (i := 5) rfl))) (by decide) (backOf (W := 0) (own_mode l Z a0 hw [] aT sg aT aE rU rD rE h0 n0 Z0 S_aT S_aE S_rU S_rD S_rE) hZ (hw _ (List.mem_of_getElem? (i := 7) rfl)) (hw _ (List.mem_of_getElem? (i := 1) rfl)) (by decide) (by decide)) q8a q8c (g := (mkF m 28 #[.val (.int pp), .val (.int sg), .val (.int (0 : Int32)), .val (.ref aT), .unset] [(.int sg), (.ref aT)])) rfl (by rw [hml]; rfl) (Steps.refl _) (argsL := [(.int sg)]) (rest := []) (lenOf own_pd0 rfl) rfl (by show 2 * 0 + _ ≤ _; exact Nat.le_of_eq rfl) (hb hby at_28) (fun _ _ => ⟨rfl, e5, (Nat.le_of_ble_eq_true rfl), (Nat.le_of_ble_eq_true rfl)⟩)
    dsimp only [Pt.U, Pt.locs, Pt.cells, Pt.slots] at X8 l8 y8 z8 st8 hQ8
    subst l8 y8 z8
    obtain ⟨rfl, N8q, em⟩ := hQ8
    have N8 := Fr.app N0 N8q
    have c9 : Steps p.tables e below S0 (T8.setTop (mkF m 31 #[.val (.int pp), .val (.int sg), .val (.int (0 : Int32)), .val (.ref aT), .unset] [(.ref (if aT = aE then rE else if sg < 0 then rD else rU))])) := c7.trans (by
      refine st8.trans ?_
      exact Steps.refl _)
    rw [if_neg hne] at c9
    by_cases hs : sg < 0
    · rw [if_pos hs] at c9
      have c10 : Steps p.tables e below S0 (T8.setTop (mkF m 35 #[.val (.int pp), .val (.int sg), .val (.int (0 : Int32)), .val (.ref aT), .val (.ref rD)] [(.ref rD)])) := c9.trans (by
        refine XS.astore X8.here hx rfl (hb hby at_31) rfl rfl (l' := #[.val (.int pp), .val (.int sg), .val (.int (0 : Int32)), .val (.ref aT), .val (.ref rD)]) rfl ?_
        show Steps p.tables e below (T8.setTop (mkF m 33 #[.val (.int pp), .val (.int sg), .val (.int (0 : Int32)), .val (.ref aT), .val (.ref rD)] [])) _
        refine XS.aload X8.here hx rfl (hb hby at_33) rfl rfl ?_
        exact Steps.refl _)
      have c11 : Steps p.tables e below S0 (T8.setTop (mkF m 40 #[.val (.int pp), .val (.int sg), .val (.int (0 : Int32)), .val (.ref aT), .val (.ref rD)] [])) := c10.trans (by
        refine XS.ifnonnullYes X8.here hx rfl (pc0 := 35) (pc' := 40) rfl (hb hby at_35) rfl (by decide) (by decide) ?_
        exact Steps.refl _)
      have c12 : Steps p.tables e below S0 (T8.setTop (mkF m 41 #[.val (.int pp), .val (.int sg), .val (.int (0 : Int32)), .val (.ref aT), .val (.ref rD)] [(.int (0 : Int32))])) := c11.trans (by
        refine XS.iloadN X8.here hx rfl (hb hby at_40) rfl ?_
        exact Steps.refl _)
      have c13 : Steps p.tables e below S0 (T8.setTop (mkF m 58 #[.val (.int pp), .val (.int sg), .val (.int (0 : Int32)), .val (.ref aT), .val (.ref rD)] [])) := c12.trans (by
        refine XS.ifYes X8.here hx rfl (pc0 := 41) (pc' := 58) rfl (hb hby at_41) rfl ((if0 _ _).trans (teq (by decide)).1) (by decide) (by decide) ?_
        exact Steps.refl _)
      have c14 : Steps p.tables e below S0 (T8.setTop (mkF m 59 #[.val (.int pp), .val (.int sg), .val (.int (0 : Int32)), .val (.ref aT), .val (.ref rD)] [(.int sg)])) := c13.trans (by
        refine XS.iloadN X8.here hx rfl (hb hby at_58) rfl ?_
        exact Steps.refl _)
      have c15 : Steps p.tables e below S0 (T8.setTop (mkF m 76 #[.val (.int pp), .val (.int sg), .val (.int (0 : Int32)), .val (.ref aT), .val (.ref rD)] [])) := c14.trans (by
        refine XS.ifYes X8.here hx rfl (pc0 := 59) (pc' := 76) rfl (hb hby at_59) rfl ((if0 _ _).trans (flt (own_nlt hs)).2.2.2) (by decide) (by decide) ?_
        exact Steps.refl _)
      have c16 : Steps p.tables e below S0 (T8.setTop (mkF m 77 #[.val (.int pp), .val (.int sg), .val (.int (0 : Int32)), .val (.ref aT), .val (.ref rD)] [(.int sg)])) := c15.trans (by
        refine XS.iloadN X8.here hx rfl (hb hby at_76) rfl ?_
        exact Steps.refl _)
      have c17 : Steps p.tables e below S0 (T8.setTop (mkF m 80 #[.val (.int pp), .val (.int sg), .val (.int (0 : Int32)), .val (.ref aT), .val (.ref rD)] [])) := c16.trans (by
        refine XS.ifNo X8.here hx rfl (hb hby at_77) rfl ((if0 _ _).trans (tlt hs).2.1) ?_
        exact Steps.refl _)
      have c18 : Steps p.tables e below S0 (T8.setTop (mkF m 82 #[.val (.int pp), .val (.int sg), .val (.int (0 : Int32)), .val (.ref aT), .val (.ref rD)] [(.ref rD)])) := c17.trans (by
        refine XS.aload X8.here hx rfl (hb hby at_80) rfl rfl ?_
        exact Steps.refl _)
      obtain ⟨T19, X19, e19, st19⟩ := getS2 X8 hx hZ hown (host := "") (Or.inl (hw _ (List.mem_of_getElem? (i := 14) rfl))) Via.refl em S_rD (g := (mkF m 82 #[.val (.int pp), .val (.int sg), .val (.int (0 : Int32)), .val (.ref aT), .val (.ref rD)] [(.ref rD)])) rfl (hb hby at_82)
      have c20 : Steps p.tables e below S0 (T19.setTop (mkF m 85 #[.val (.int pp), .val (.int sg), .val (.int (0 : Int32)), .val (.ref aT), .val (.ref rD)] [(.ref rD), (.ref rD)])) := c18.trans (by
        refine st19 _ ?_
        exact Steps.refl _)
      have c21 : Steps p.tables e below S0 (T19.setTop (mkF m 88 #[.val (.int pp), .val (.int sg), .val (.int (0 : Int32)), .val (.ref aT), .val (.ref rD)] [])) := c20.trans (by
        refine Jvm.RoadKit.acmp (g := (mkF m 85 #[.val (.int pp), .val (.int sg), .val (.int (0 : Int32)), .val (.ref aT), .val (.ref rD)] [(.ref rD), (.ref rD)])) X19 hx rfl rfl rfl (pc0 := 85) (pc' := 88) (same := true) rfl (hb hby at_85) rfl (decide_eq_true rfl) (by decide) (by decide) ?_
        exact Steps.refl _)
      have c22 : Steps p.tables e below S0 (T19.setTop (mkF m 93 #[.val (.int pp), .val (.int sg), .val (.int (0 : Int32)), .val (.ref aT), .val (.ref rD)] [(.int (1 : Int32))])) := c21.trans (by
        refine XS.iconst X19.here hx rfl (hb hby at_88) ?_
        show Steps p.tables e below (T19.setTop (mkF m 89 #[.val (.int pp), .val (.int sg), .val (.int (0 : Int32)), .val (.ref aT), .val (.ref rD)] [(.int (1 : Int32))])) _
        refine XS.goto X19.here hx rfl (pc0 := 89) (pc' := 93) rfl (hb hby at_89) (by decide) (by decide) ?_
        exact Steps.refl _)
      obtain ⟨fs, hr, hrun, hended, hW, hsame⟩ := X19.leave (v := some (.int (1 : Int32))) (fun h => by rw [Bd.returns] at h; cases h)
      exact ⟨_, _, c22.trans (retN X19 hx (t := .boolean) Bd.returns (by simp) (hb hby at_93) hr), hrun, hended, _, _, rfl, ⟨rfl, N8⟩, ⟨_, rfl⟩, hW, hsame.mono (by decide) (by decide)⟩
    · rw [if_neg hs] at c9
      have c23 : Steps p.tables e below S0 (T8.setTop (mkF m 35 #[.val (.int pp), .val (.int sg), .val (.int (0 : Int32)), .val (.ref aT), .val (.ref rU)] [(.ref rU)])) := c9.trans (by
        refine XS.astore X8.here hx rfl (hb hby at_31) rfl rfl (l' := #[.val (.int pp), .val (.int sg), .val (.int (0 : Int32)), .val (.ref aT), .val (.ref rU)]) rfl ?_
        show Steps p.tables e below (T8.setTop (mkF m 33 #[.val (.int pp), .val (.int sg), .val (.int (0 : Int32)), .val (.ref aT), .val (.ref rU)] [])) _
        refine XS.aload X8.here hx rfl (hb hby at_33) rfl rfl ?_
        exact Steps.refl _)
      have c24 : Steps p.tables e below S0 (T8.setTop (mkF m 40 #[.val (.int pp), .val (.int sg), .val (.int (0 : Int32)), .val (.ref aT), .val (.ref rU)] [])) := c23.trans (by
        refine XS.ifnonnullYes X8.here hx rfl (pc0 := 35) (pc' := 40) rfl (hb hby at_35) rfl (by decide) (by decide) ?_
        exact Steps.refl _)
      have c25 : Steps p.tables e below S0 (T8.setTop (mkF m 41 #[.val (.int pp), .val (.int sg), .val (.int (0 : Int32)), .val (.ref aT), .val (.ref rU)] [(.int (0 : Int32))])) := c24.trans (by
        refine XS.iloadN X8.here hx rfl (hb hby at_40) rfl ?_
        exact Steps.refl _)
      have c26 : Steps p.tables e below S0 (T8.setTop (mkF m 58 #[.val (.int pp), .val (.int sg), .val (.int (0 : Int32)), .val (.ref aT), .val (.ref rU)] [])) := c25.trans (by
        refine XS.ifYes X8.here hx rfl (pc0 := 41) (pc' := 58) rfl (hb hby at_41) rfl ((if0 _ _).trans (teq (by decide)).1) (by decide) (by decide) ?_
        exact Steps.refl _)
      have c27 : Steps p.tables e below S0 (T8.setTop (mkF m 59 #[.val (.int pp), .val (.int sg), .val (.int (0 : Int32)), .val (.ref aT), .val (.ref rU)] [(.int sg)])) := c26.trans (by
        refine XS.iloadN X8.here hx rfl (hb hby at_58) rfl ?_
        exact Steps.refl _)
      by_cases hgt : (0 : Int32) < sg
      · have c28 : Steps p.tables e below S0 (T8.setTop (mkF m 62 #[.val (.int pp), .val (.int sg), .val (.int (0 : Int32)), .val (.ref aT), .val (.ref rU)] [])) := c27.trans (by
          refine XS.ifNo X8.here hx rfl (hb hby at_59) rfl ((if0 _ _).trans (tlt hgt).2.2.2) ?_
          exact Steps.refl _)
        have c29 : Steps p.tables e below S0 (T8.setTop (mkF m 64 #[.val (.int pp), .val (.int sg), .val (.int (0 : Int32)), .val (.ref aT), .val (.ref rU)] [(.ref rU)])) := c28.trans (by
          refine XS.aload X8.here hx rfl (hb hby at_62) rfl rfl ?_
          exact Steps.refl _)
        obtain ⟨T30, X30, e30, st30⟩ := getS2 X8 hx hZ hown (host := "") (Or.inl (hw _ (List.mem_of_getElem? (i := 12) rfl))) Via.refl em S_rU (g := (mkF m 64 #[.val (.int pp), .val (.int sg), .val (.int (0 : Int32)), .val (.ref aT), .val (.ref rU)] [(.ref rU)])) rfl (hb hby at_64)
        have c31 : Steps p.tables e below S0 (T30.setTop (mkF m 67 #[.val (.int pp), .val (.int sg), .val (.int (0 : Int32)), .val (.ref aT), .val (.ref rU)] [(.ref rU), (.ref rU)])) := c29.trans (by
          refine st30 _ ?_
          exact Steps.refl _)
        have c32 : Steps p.tables e below S0 (T30.setTop (mkF m 70 #[.val (.int pp), .val (.int sg), .val (.int (0 : Int32)), .val (.ref aT), .val (.ref rU)] [])) := c31.trans (by
          refine Jvm.RoadKit.acmp (g := (mkF m 67 #[.val (.int pp), .val (.int sg), .val (.int (0 : Int32)), .val (.ref aT), .val (.ref rU)] [(.ref rU), (.ref rU)])) X30 hx rfl rfl rfl (pc0 := 67) (pc' := 70) (same := true) rfl (hb hby at_67) rfl (decide_eq_true rfl) (by decide) (by decide) ?_
          exact Steps.refl _)
        have c33 : Steps p.tables e below S0 (T30.setTop (mkF m 75 #[.val (.int pp), .val (.int sg), .val (.int (0 : Int32)), .val (.ref aT), .val (.ref rU)] [(.int (1 : Int32))])) := c32.trans (by
          refine XS.iconst X30.here hx rfl (hb hby at_70) ?_
          show Steps p.tables e below (T30.setTop (mkF m 71 #[.val (.int pp), .val (.int sg), .val (.int (0 : Int32)), .val (.ref aT), .val (.ref rU)] [(.int (1 : Int32))])) _
          refine XS.goto X30.here hx rfl (pc0 := 71) (pc' := 75) rfl (hb hby at_71) (by decide) (by decide) ?_
          exact Steps.refl _)
        obtain ⟨fs, hr, hrun, hended, hW, hsame⟩ := X30.leave (v := some (.int (1 : Int32))) (fun h => by rw [Bd.returns] at h; cases h)
        exact ⟨_, _, c33.trans (retN X30 hx (t := .boolean) Bd.returns (by simp) (hb hby at_75) hr), hrun, hended, _, _, rfl, ⟨rfl, N8⟩, ⟨_, rfl⟩, hW, hsame.mono (by decide) (by decide)⟩
      · have c34 : Steps p.tables e below S0 (T8.setTop (mkF m 76 #[.val (.int pp), .val (.int sg), .val (.int (0 : Int32)), .val (.ref aT), .val (.ref rU)] [])) := c27.trans (by
          refine XS.ifYes X8.here hx rfl (pc0 := 59) (pc' := 76) rfl (hb hby at_59) rfl ((if0 _ _).trans (flt hgt).2.2.2) (by decide) (by decide) ?_
          exact Steps.refl _)
        have c35 : Steps p.tables e below S0 (T8.setTop (mkF m 77 #[.val (.int pp), .val (.int sg), .val (.int (0 : Int32)), .val (.ref aT), .val (.ref rU)] [(.int sg)])) := c34.trans (by
          refine XS.iloadN X8.here hx rfl (hb hby at_76) rfl ?_
          exact Steps.refl _)
        have c36 : Steps p.tables e below S0 (T8.setTop (mkF m 94 #[.val (.int pp), .val (.int sg), .val (.int (0 : Int32)), .val (.ref aT), .val (.ref rU)] [])) := c35.trans (by
          refine XS.ifYes X8.here hx rfl (pc0 := 77) (pc' := 94) rfl (hb hby at_77) rfl ((if0 _ _).trans (flt hs).2.1) (by decide) (by decide) ?_
          exact Steps.refl _)
        have c37 : Steps p.tables e below S0 (T8.setTop (mkF m 96 #[.val (.int pp), .val (.int sg), .val (.int (0 : Int32)), .val (.ref aT), .val (.ref rU)] [(.ref rU)])) := c36.trans (by
          refine XS.aload X8.here hx rfl (hb hby at_94) rfl rfl ?_
          exact Steps.refl _)
        obtain ⟨T38, X38, e38, st38⟩ := getS2 X8 hx hZ hown (host := "") (Or.inl (hw _ (List.mem_of_getElem? (i := 12) rfl))) Via.refl em S_rU (g := (mkF m 96 #[.val (.int pp), .val (.int sg), .val (.int (0 : Int32)), .val (.ref aT), .val (.ref rU)] [(.ref rU)])) rfl (hb hby at_96)
        have c39 : Steps p.tables e below S0 (T38.setTop (mkF m 99 #[.val (.int pp), .val (.int sg), .val (.int (0 : Int32)), .val (.ref aT), .val (.ref rU)] [(.ref rU), (.ref rU)])) := c37.trans (by
          refine st38 _ ?_
          exact Steps.refl _)
        have c40 : Steps p.tables e below S0 (T38.setTop (mkF m 110 #[.val (.int pp), .val (.int sg), .val (.int (0 : Int32)), .val (.ref aT), .val (.ref rU)] [])) := c39.trans (by
          refine Jvm.RoadKit.acmp (g := (mkF m 99 #[.val (.int pp), .val (.int sg), .val (.int (0 : Int32)), .val (.ref aT), .val (.ref rU)] [(.ref rU), (.ref rU)])) X38 hx rfl rfl rfl (pc0 := 99) (pc' := 110) (same := true) rfl (hb hby at_99) rfl (decide_eq_true rfl) (by decide) (by decide) ?_
          exact Steps.refl _)
        have c41 : Steps p.tables e below S0 (T38.setTop (mkF m 115 #[.val (.int pp), .val (.int sg), .val (.int (0 : Int32)), .val (.ref aT), .val (.ref rU)] [(.int (1 : Int32))])) := c40.trans (by
          refine XS.iconst X38.here hx rfl (hb hby at_110) ?_
          show Steps p.tables e below (T38.setTop (mkF m 111 #[.val (.int pp), .val (.int sg), .val (.int (0 : Int32)), .val (.ref aT), .val (.ref rU)] [(.int (1 : Int32))])) _
          refine XS.goto X38.here hx rfl (pc0 := 111) (pc' := 115) rfl (hb hby at_111) (by decide) (by decide) ?_
          exact Steps.refl _)
        obtain ⟨fs, hr, hrun, hended, hW, hsame⟩ := X38.leave (v := some (.int (1 : Int32))) (fun h => by rw [Bd.returns] at h; cases h)
        exact ⟨_, _, c41.trans (retN X38 hx (t := .boolean) Bd.returns (by simp) (hb hby at_115) hr), hrun, hended, _, _, rfl, ⟨rfl, N8⟩, ⟨_, rfl⟩, hW, hsame.mono (by decide) (by decide)⟩
  · have c42 : Steps p.tables e below S0 (s₁.setTop (mkF m 6 #[.val (.int pp), .val (.int sg), .unset, .unset, .unset] [])) := c1.trans (by
      refine XS.ifNo X0.here hx rfl (hb hby at_3) rfl ((if0 _ _).trans (feq hp).1) ?_
      exact Steps.refl _)
    have c43 : Steps p.tables e below S0 (s₁.setTop (mkF m 13 #[.val (.int pp), .val (.int sg), .val (.int (1 : Int32)), .unset, .unset] [(.int (1 : Int32))])) := c42.trans (by
      refine XS.iconst X0.here hx rfl (hb hby at_6) ?_
      show Steps p.tables e below (s₁.setTop (mkF m 7 #[.val (.int pp), .val (.int sg), .unset, .unset, .unset] [(.int (1 : Int32))])) _
      refine XS.goto X0.here hx rfl (pc0 := 7) (pc' := 11) rfl (hb hby at_7) (by decide) (by decide) ?_
      show Steps p.tables e below (s₁.setTop (mkF m 11 #[.val (.int pp), .val (.int sg), .unset, .unset, .unset] [(.int (1 : Int32))])) _
      refine XS.istoreN X0.here hx rfl (hb hby at_11) rfl (l' := #[.val (.int pp), .val (.int sg), .val (.int (1 : Int32)), .unset, .unset]) rfl ?_
      show Steps p.tables e below (s₁.setTop (mkF m 12 #[.val (.int pp), .val (.int sg), .val (.int (1 : Int32)), .unset, .unset] [])) _
      refine XS.iloadN X0.here hx rfl (hb hby at_12) rfl ?_
      exact Steps.refl _)
    have c44 : Steps p.tables e below S0 (s₁.setTop (mkF m 16 #[.val (.int pp), .val (.int sg), .val (.int (1 : Int32)), .unset, .unset] [])) := c43.trans (by
      refine XS.ifNo X0.here hx rfl (hb hby at_13) rfl ((if0 _ _).trans (feq (by decide)).1) ?_
      exact Steps.refl _)
    obtain ⟨T45, X45, e45, st45⟩ := getS2 X0 hx hZ hown (host := "") (Or.inl (hw _ (List.mem_of_getElem? (i := 15) rfl))) Via.refl e0 S_aE (g := (mkF m 16 #[.val (.int pp), .val (.int sg), .val (.int (1 : Int32)), .unset, .unset] [])) rfl (hb hby at_16)
    have c46 : Steps p.tables e below S0 (T45.setTop (mkF m 19 #[.val (.int pp), .val (.int sg), .val (.int (1 : Int32)), .unset, .unset] [(.ref aE)])) := c44.trans (by
      refine st45 _ ?_
      exact Steps.refl _)
    have c47 : Steps p.tables e below S0 (T45.setTop (mkF m 28 #[.val (.int pp), .val (.int sg), .val (.int (1 : Int32)), .val (.ref aE), .unset] [(.int sg), (.ref aE)])) := c46.trans (by
      refine XS.goto X45.here hx rfl (pc0 := 19) (pc' := 25) rfl (hb hby at_19) (by decide) (by decide) ?_
      show Steps p.tables e below (T45.setTop (mkF m 25 #[.val (.int pp), .val (.int sg), .val (.int (1 : Int32)), .unset, .unset] [(.ref aE)])) _
      refine XS.astoreN X45.here hx rfl (hb hby at_25) rfl rfl (l' := #[.val (.int pp), .val (.int sg), .val (.int (1 : Int32)), .val (.ref aE), .unset]) rfl ?_
      show Steps p.tables e below (T45.setTop (mkF m 26 #[.val (.int pp), .val (.int sg), .val (.int (1 : Int32)), .val (.ref aE), .unset] [])) _
      refine XS.aloadN X45.here hx rfl (hb hby at_26) rfl rfl ?_
      show Steps p.tables e below (T45.setTop (mkF m 27 #[.val (.int pp), .val (.int sg), .val (.int (1 : Int32)), .val (.ref aE), .unset] [(.ref aE)])) _
      refine XS.iloadN X45.here hx rfl (hb hby at_27) rfl ?_
      exact Steps.refl _)
    obtain ⟨cq48, kq48, q48a, q48b, q48c⟩ := isOf hZ e45 E_aE
    obtain ⟨_, _, ⟨T48, L48, k48, n48⟩, -, X48, ⟨Lc48, hQ48, l48, y48, z48⟩, st48⟩ := X45.virtualBack hx (y := (⟨"com/example/trawl/trawl/model/NumericValue$Halves", "mode", "(I)Ljava/math/RoundingMode;"⟩ : MethodName)) (z := (⟨"com/example/trawl/trawl/model/NumericValue$Halves", "mode", "(I)Ljava/math/RoundingMode;"⟩ : MethodName)) hown (mvT hZ (hw _ (List.mem_of_getElem? (i := 3) rfl))) (mvT hZ (hw _ (List.mem_of_getElem? (i := 4) rfl))) (notFace_of_selects (args := #[]) (mvT hZ (hw _ (List.mem_of_getElem? (i := 6) rfl)))) (mvT hZ (hw _ (List.mem_of_getElem? (i := 6) rfl))) (mvT hZ (hw _ (List.mem_of_getElem? (i := 5) rfl))) (by decide) (backOf (W := 0) (own_mode l Z a0 hw [] aE sg aT aE rU rD rE h0 n0 Z0 S_aT S_aE S_rU S_rD S_rE) hZ (hw _ (List.mem_of_getElem? (i := 7) rfl)) (hw _ (List.mem_of_getElem? (i := 1) rfl)) (by decide) (by decide)) q48a q48c (g := (mkF m 28 #[.val (.int pp), .val (.int sg), .val (.int (1 : Int32)), .val (.ref aE), .unset] [(.int sg), (.ref aE)])) rfl (by rw [hml]; rfl) (Steps.refl _) (argsL := [(.int sg)]) (rest := []) (lenOf own_pd0 rfl) rfl (by show 2 * 0 + _ ≤ _; exact Nat.le_of_eq rfl) (hb hby at_28) (fun _ _ => ⟨rfl, e45, (Nat.le_of_ble_eq_true rfl), (Nat.le_of_ble_eq_true rfl)⟩)
    dsimp only [Pt.U, Pt.locs, Pt.cells, Pt.slots] at X48 l48 y48 z48 st48 hQ48
    subst l48 y48 z48
    obtain ⟨rfl, N48q, em⟩ := hQ48
    have N48 := Fr.app N0 N48q
    have c49 : Steps p.tables e below S0 (T48.setTop (mkF m 31 #[.val (.int pp), .val (.int sg), .val (.int (1 : Int32)), .val (.ref aE), .unset] [(.ref (if aE = aE then rE else if sg < 0 then rD else rU))])) := c47.trans (by
      refine st48.trans ?_
      exact Steps.refl _)
    rw [if_pos (rfl : aE = aE)] at c49
    have c50 : Steps p.tables e below S0 (T48.setTop (mkF m 35 #[.val (.int pp), .val (.int sg), .val (.int (1 : Int32)), .val (.ref aE), .val (.ref rE)] [(.ref rE)])) := c49.trans (by
      refine XS.astore X48.here hx rfl (hb hby at_31) rfl rfl (l' := #[.val (.int pp), .val (.int sg), .val (.int (1 : Int32)), .val (.ref aE), .val (.ref rE)]) rfl ?_
      show Steps p.tables e below (T48.setTop (mkF m 33 #[.val (.int pp), .val (.int sg), .val (.int (1 : Int32)), .val (.ref aE), .val (.ref rE)] [])) _
      refine XS.aload X48.here hx rfl (hb hby at_33) rfl rfl ?_
      exact Steps.refl _)
    have c51 : Steps p.tables e below S0 (T48.setTop (mkF m 40 #[.val (.int pp), .val (.int sg), .val (.int (1 : Int32)), .val (.ref aE), .val (.ref rE)] [])) := c50.trans (by
      refine XS.ifnonnullYes X48.here hx rfl (pc0 := 35) (pc' := 40) rfl (hb hby at_35) rfl (by decide) (by decide) ?_
      exact Steps.refl _)
    have c52 : Steps p.tables e below S0 (T48.setTop (mkF m 41 #[.val (.int pp), .val (.int sg), .val (.int (1 : Int32)), .val (.ref aE), .val (.ref rE)] [(.int (1 : Int32))])) := c51.trans (by
      refine XS.iloadN X48.here hx rfl (hb hby at_40) rfl ?_
      exact Steps.refl _)
    have c53 : Steps p.tables e below S0 (T48.setTop (mkF m 44 #[.val (.int pp), .val (.int sg), .val (.int (1 : Int32)), .val (.ref aE), .val (.ref rE)] [])) := c52.trans (by
      refine XS.ifNo X48.here hx rfl (hb hby at_41) rfl ((if0 _ _).trans (feq (by decide)).1) ?_
      exact Steps.refl _)
    have c54 : Steps p.tables e below S0 (T48.setTop (mkF m 46 #[.val (.int pp), .val (.int sg), .val (.int (1 : Int32)), .val (.ref aE), .val (.ref rE)] [(.ref rE)])) := c53.trans (by
      refine XS.aload X48.here hx rfl (hb hby at_44) rfl rfl ?_
      exact Steps.refl _)
    obtain ⟨T55, X55, e55, st55⟩ := getS2 X48 hx hZ hown (host := "") (Or.inl (hw _ (List.mem_of_getElem? (i := 17) rfl))) Via.refl em S_rE (g := (mkF m 46 #[.val (.int pp), .val (.int sg), .val (.int (1 : Int32)), .val (.ref aE), .val (.ref rE)] [(.ref rE)])) rfl (hb hby at_46)
    have c56 : Steps p.tables e below S0 (T55.setTop (mkF m 49 #[.val (.int pp), .val (.int sg), .val (.int (1 : Int32)), .val (.ref aE), .val (.ref rE)] [(.ref rE), (.ref rE)])) := c54.trans (by
      refine st55 _ ?_
      exact Steps.refl _)
    have c57 : Steps p.tables e below S0 (T55.setTop (mkF m 52 #[.val (.int pp), .val (.int sg), .val (.int (1 : Int32)), .val (.ref aE), .val (.ref rE)] [])) := c56.trans (by
      refine Jvm.RoadKit.acmp (g := (mkF m 49 #[.val (.int pp), .val (.int sg), .val (.int (1 : Int32)), .val (.ref aE), .val (.ref rE)] [(.ref rE), (.ref rE)])) X55 hx rfl rfl rfl (pc0 := 49) (pc' := 52) (same := true) rfl (hb hby at_49) rfl (decide_eq_true rfl) (by decide) (by decide) ?_
      exact Steps.refl _)
    have c58 : Steps p.tables e below S0 (T55.setTop (mkF m 57 #[.val (.int pp), .val (.int sg), .val (.int (1 : Int32)), .val (.ref aE), .val (.ref rE)] [(.int (1 : Int32))])) := c57.trans (by
      refine XS.iconst X55.here hx rfl (hb hby at_52) ?_
      show Steps p.tables e below (T55.setTop (mkF m 53 #[.val (.int pp), .val (.int sg), .val (.int (1 : Int32)), .val (.ref aE), .val (.ref rE)] [(.int (1 : Int32))])) _
      refine XS.goto X55.here hx rfl (pc0 := 53) (pc' := 57) rfl (hb hby at_53) (by decide) (by decide) ?_
      exact Steps.refl _)
    obtain ⟨fs, hr, hrun, hended, hW, hsame⟩ := X55.leave (v := some (.int (1 : Int32))) (fun h => by rw [Bd.returns] at h; cases h)
    exact ⟨_, _, c58.trans (retN X55 hx (t := .boolean) Bd.returns (by simp) (hb hby at_57) hr), hrun, hended, _, _, rfl, ⟨rfl, N48⟩, ⟨_, rfl⟩, hW, hsame.mono (by decide) (by decide)⟩
set_option maxRecDepth 65536 in
set_option maxHeartbeats 40000000 in
theorem own_comes {Post : Tables → Env → Array Value → State → Outcome → State → Prop} (hpost : ∀ tb e args s v u, (limb_1_1.after args s (.returned v) u = true ∧ limb_1_2.after args s (.returned v) u = true) → FrameEnd s (.returned v) u (Jvm.fieldLocs frame_1_writes args s ++ Jvm.arrayLocs frame_1_arrays args s ++ Jvm.staticLocs frame_1_statics s) 0 0 → Post tb e args s (.returned v) u) :
    ArmFor flags0 classFile x code maxLocals ret World_1 tables_1 room_1 Calls_1 rest_1 Pre_1 Post := by
  intro l hfl _ _ p e ha hc hk s m args below hf hA hF happ hP
  obtain ⟨hcalls, hrest, hpre⟩ := hP
  obtain ⟨-, -, -, hnamed, -, -, -, hat⟩ := (Spec.applies_iff hf).mp happ
  obtain ⟨hg, hn⟩ := and_e (Cond.before_iff.mp (show (Jvm.Cond.and given_1 narrow_1).before args s = true from hpre))
  obtain ⟨hcount, hgs⟩ := and_e hg
  obtain ⟨hi0, hgs0⟩ := and_e hgs
  obtain ⟨w0, w1, rfl⟩ : ∃ w0 w1 : Value, args = #[w0, w1] := by
    have hs : args.size = 2 := by simpa [Cond.value, given_1] using hcount
    obtain ⟨L⟩ := args
    match L, hs with
    | [w0, w1], _ => exact ⟨w0, w1, rfl⟩
  have hw := fun d (hd : d ∈ tables_1) => atoms_spec (ws := Jvm.Cond.code x code maxLocals ret :: tables_1) hat d (List.mem_cons_of_mem _ hd)
  have hfit : Fit s := fun {y c} hc i hi => by
    obtain ⟨ha, rfl⟩ := Array.getElem?_eq_some_iff.mp hc
    have q := List.all_eq_true.mp ((Array.all_eq_true_iff_forall_mem.mp hF) _ (Array.getElem_mem ha)) i (List.mem_range.mpr hi)
    simpa [Array.getElem?_eq_getElem hi] using q
  obtain ⟨hsets, hown0⟩ := atoms_of _ (rest_1_c_eq ▸ (show rest_1_c.before _ s = true from hrest))
  obtain ⟨i0, ei0⟩ := is_v hi0
  obtain rfl : w0 = (.int i0) := Option.some.inj ei0
  obtain ⟨i1, ei1⟩ := is_v hgs0
  obtain rfl : w1 = (.int i1) := Option.some.inj ei1
  obtain ⟨n1, n2⟩ := and_e hn
  obtain ⟨n3, n4⟩ := and_e n2
  obtain ⟨n5, n6⟩ := and_e n4
  obtain ⟨aT, eT⟩ := exa_v n1
  obtain ⟨aE, eE⟩ := exa_v n3
  have S_aT := Sta.start eT (Or.inr ⟨(hw _ (List.mem_of_getElem? (i := 1) rfl)), (hw _ (List.mem_of_getElem? (i := 2) rfl))⟩)
  have S_aE := Sta.start eE (Or.inr ⟨(hw _ (List.mem_of_getElem? (i := 1) rfl)), (hw _ (List.mem_of_getElem? (i := 9) rfl))⟩)
  have E_aT := Exa.start eT n1
  have E_aE := Exa.start eE n3
  have hne := own_ne eT eE n5 n6 (by decide)
  obtain ⟨rU, erU⟩ := exa_v (Cond.before_iff.mp (hsets _ (List.mem_of_getElem? (i := 2) rfl)))
  have S_rU := Sta.start erU (Or.inl (hsets _ (List.mem_of_getElem? (i := 1) rfl)))
  obtain ⟨rD, erD⟩ := exa_v (Cond.before_iff.mp (hsets _ (List.mem_of_getElem? (i := 8) rfl)))
  have S_rD := Sta.start erD (Or.inl (hsets _ (List.mem_of_getElem? (i := 7) rfl)))
  obtain ⟨rE, erE⟩ := exa_v (Cond.before_iff.mp (hsets _ (List.mem_of_getElem? (i := 14) rfl)))
  have S_rE := Sta.start erE (Or.inl (hsets _ (List.mem_of_getElem? (i := 13) rfl)))
  obtain ⟨n, o, h1, h2, h3, _, L, rfl, ⟨rfl, N⟩, hq⟩ := own_law l s _ hw tables_1 i0 i1 aT aE rU rD rE s.heap s.heap.size (Nat.le_refl _) S_aT S_aE S_rU S_rD S_rE E_aT E_aE hne p e ha hc hk s m _ below hf ((Spec.applies_iff_loose hf).mp happ).1 ⟨rfl, State.Warmed39.refl s, rfl⟩ trivial
  exact ⟨n, _, h1, h2, h3, hpost _ _ _ _ _ _ ⟨Cond.after_iff.mpr rfl, Cond.after_iff.mpr (eq_i res_at (Term.int_eval (1)) rfl)⟩ ⟨hq.1, hq.2.1, (hq.2.2.sift fun y hy => Or.inr (N y hy)).mono (by decide) (by decide)⟩⟩
theorem main_1_1 : Claimed_1_1 := own_comes fun _ _ _ _ _ _ h hF => ⟨h.1, hF⟩
theorem main_1_2 : Claimed_1_2 := own_comes fun _ _ _ _ _ _ h hF => ⟨h.2, hF⟩
end Jvm.Pilot.@@N@@
namespace Jvm.Pilot.@@N@@
open Jvm Jvm.ClassFile Sem Op Lib Jvm.Free Jvm.Stand Jvm.Pilot.@@N@@.Jvm.D
/-! MADE BY PROGRAM (witnessworld.py) out of the Statement's table words and the real class files: 16 classes; the members and pool entries that the words name. The judged class is class 1, her method 1. -/
namespace start1
open Jvm.ClassFile
def u (s : String) : CpInfo := .utf8 (stringToUtf16 s)
/-- a pool by its gaps: so many unusable entries, then the entry; so many at the end -/
def gap : Nat → List CpInfo → List CpInfo
  | 0, r => r
  | n + 1, r => .unusable :: gap n r
def poolList (es : List (Nat × CpInfo)) (last : Nat) : List CpInfo := es.foldr (fun e r => gap e.1 (e.2 :: r)) (gap last [])
def pool (es : List (Nat × CpInfo)) (last : Nat) : Array CpInfo := ⟨poolList es last⟩
def fileOf (pool : Array CpInfo) (this : Nat) (attrs : Array Attribute := #[]) (ms : Array MethodInfo := #[]) (fl : Nat := 33) (sup : Nat := 0) (ifs : Array Nat := #[]) (fds : Array FieldInfo := #[]) : ClassFile where
  minorVersion := 0
  majorVersion := 65
  constantPool := pool
  accessFlags := fl
  thisClass := this
  superClass := sup
  interfaces := ifs
  fields := fds
  methods := ms
  attributes := attrs
def plain (name : String) (sup : Option ClassId) : Class where
  name := name
  kind := .ordinary
  loader := none
  accessFlags := 33
  super := sup
  interfaces := #[]
  cf := none
  fields := #[]
  methods := #[]
  instanceTypes := #[]
  staticTypes := #[]
  resolved := #[]
  callSites := []
  init := .initialized
  statics := none
  mirror := none

def pool0 : Array CpInfo := pool [(5, u "<init>"), (0, u "()V"), (1, .class_ 10), (1, u "java/lang/Object")] 113

def k0m0 : Method := { name := "<init>", desc := "()V", sig := { parameters := [], returnType := none }, accessFlags := 1, code := none }
/-- java/lang/Object -/
def k0 : Class := { plain "java/lang/Object" none with
  accessFlags := 33
  interfaces := #[]
  cf := some (fileOf pool0 8 #[] #[{ accessFlags := 1, nameIndex := 5, descriptorIndex := 6, attributes := #[] }] 33 0 #[] #[])
  fields := #[]
  methods := #[k0m0]
  instanceTypes := #[]
  staticTypes := #[]
  resolved := Array.replicate 124 none
  statics := none }

def pool1 : Array CpInfo := pool [(2, .class_ 4), (1, u "java/lang/Object"), (0, u "<init>"), (0, u "()V"), (0, .fieldref 8 9), (0, .class_ 10), (0, .nameAndType 11 12), (0, u "com/example/trawl/trawl/model/NumericValue$Halves"), (0, u "TO_EVEN"), (0, u "Lcom/example/trawl/trawl/model/NumericValue$Halves;"), (0, .fieldref 8 14), (0, .nameAndType 15 12), (0, u "TOWARDS_POSITIVE_INFINITY"), (0, .methodref 8 17), (0, .nameAndType 18 19), (0, u "mode"), (0, u "(I)Ljava/math/RoundingMode;"), (0, .fieldref 21 22), (0, .class_ 23), (0, .nameAndType 24 25), (0, u "java/math/RoundingMode"), (0, u "HALF_EVEN"), (0, u "Ljava/math/RoundingMode;"), (0, .fieldref 21 27), (0, .nameAndType 28 25), (0, u "HALF_UP"), (0, .fieldref 21 30), (0, .nameAndType 31 25), (0, u "HALF_DOWN"), (0, .class_ 33), (0, u "com/example/trawl/trawl/model/HalvesModePinLaw"), (2, u "law"), (0, u "(II)Z")] 7

def k1m0 : Method := { name := "<init>", desc := "()V", sig := { parameters := [], returnType := none }, accessFlags := 2, code := none }
def k1c1 : Code := { maxStack := 2, maxLocals := 5, code := code, exceptionTable := #[], attributes := #[] }
def k1m1 : Method := { name := "law", desc := "(II)Z", sig := { parameters := [.int, .int], returnType := some .boolean }, accessFlags := 9, code := some k1c1 }
/-- com/example/trawl/trawl/model/HalvesModePinLaw -/
def k1 : Class := { plain "com/example/trawl/trawl/model/HalvesModePinLaw" (some 0) with
  accessFlags := 49
  interfaces := #[]
  cf := some (fileOf pool1 32 #[] #[{ accessFlags := 2, nameIndex := 5, descriptorIndex := 6, attributes := #[] }, { accessFlags := 9, nameIndex := 36, descriptorIndex := 37, attributes := #[] }] 49 2 #[] #[])
  fields := #[]
  methods := #[k1m0, k1m1]
  instanceTypes := #[]
  staticTypes := #[]
  resolved := Array.replicate 45 none
  statics := none }

def pool2 : Array CpInfo := pool [(1, .class_ 2), (0, u "java/lang/constant/Constable"), (0, .class_ 4), (0, u "java/lang/Object")] 6

/-- java/lang/constant/Constable -/
def k2 : Class := { plain "java/lang/constant/Constable" (some 0) with
  accessFlags := 1537
  interfaces := #[]
  cf := some (fileOf pool2 1 #[] #[] 1537 3 #[] #[])
  fields := #[]
  methods := #[]
  instanceTypes := #[]
  staticTypes := #[]
  resolved := Array.replicate 11 none
  statics := none }

def pool3 : Array CpInfo := pool [(1, .class_ 2), (0, u "java/lang/Comparable"), (0, .class_ 4), (0, u "java/lang/Object")] 7

/-- java/lang/Comparable -/
def k3 : Class := { plain "java/lang/Comparable" (some 0) with
  accessFlags := 1537
  interfaces := #[]
  cf := some (fileOf pool3 1 #[] #[] 1537 3 #[] #[])
  fields := #[]
  methods := #[]
  instanceTypes := #[]
  staticTypes := #[]
  resolved := Array.replicate 12 none
  statics := none }

def pool4 : Array CpInfo := pool [(1, .class_ 2), (0, u "java/io/Serializable"), (0, .class_ 4), (0, u "java/lang/Object")] 2

/-- java/io/Serializable -/
def k4 : Class := { plain "java/io/Serializable" (some 0) with
  accessFlags := 1537
  interfaces := #[]
  cf := some (fileOf pool4 1 #[] #[] 1537 3 #[] #[])
  fields := #[]
  methods := #[]
  instanceTypes := #[]
  staticTypes := #[]
  resolved := Array.replicate 7 none
  statics := none }

def pool5 : Array CpInfo := pool [(2, .class_ 4), (1, u "java/lang/Enum"), (0, u "name"), (0, u "Ljava/lang/String;"), (2, u "ordinal"), (0, u "I"), (1, .class_ 14), (1, u "java/lang/Object"), (4, u "hash"), (86, .class_ 108), (1, u "java/lang/Enum$EnumDesc"), (2, .class_ 112), (0, u "java/lang/constant/Constable"), (0, .class_ 114), (0, u "java/lang/Comparable"), (0, .class_ 116), (0, u "java/io/Serializable")] 87

/-- java/lang/Enum -/
def k5 : Class := { plain "java/lang/Enum" (some 0) with
  accessFlags := 1057
  interfaces := #[2, 3, 4]
  cf := some (fileOf pool5 2 #[.nestMembers #[106]] #[] 1057 12 #[111, 113, 115] #[{ accessFlags := 18, nameIndex := 5, descriptorIndex := 6, attributes := #[] }, { accessFlags := 18, nameIndex := 9, descriptorIndex := 10, attributes := #[] }, { accessFlags := 2, nameIndex := 19, descriptorIndex := 10, attributes := #[] }])
  fields := #[{ name := "name", type := (.object "java/lang/String"), accessFlags := 18, slot := 0, constantValue := 0 }, { name := "ordinal", type := .int, accessFlags := 18, slot := 1, constantValue := 0 }, { name := "hash", type := .int, accessFlags := 2, slot := 2, constantValue := 0 }]
  methods := #[]
  instanceTypes := #[(.object "java/lang/String"), .int, .int]
  staticTypes := #[]
  resolved := Array.replicate 204 none
  statics := none }

def pool6 : Array CpInfo := pool [(1, .class_ 2), (0, u "com/example/trawl/trawl/model/NumericValue$Halves"), (2, u "TOWARDS_POSITIVE_INFINITY"), (0, u "Lcom/example/trawl/trawl/model/NumericValue$Halves;"), (0, .fieldref 1 8), (0, .nameAndType 9 6), (0, u "TO_EVEN"), (2, u "$VALUES"), (0, u "[Lcom/example/trawl/trawl/model/NumericValue$Halves;"), (6, .class_ 22), (1, u "java/lang/Enum"), (6, .fieldref 30 31), (0, .class_ 32), (0, .nameAndType 33 34), (0, u "java/math/RoundingMode"), (0, u "HALF_EVEN"), (0, u "Ljava/math/RoundingMode;"), (0, .fieldref 30 36), (0, .nameAndType 37 34), (0, u "HALF_DOWN"), (0, .fieldref 30 39), (0, .nameAndType 40 34), (0, u "HALF_UP"), (14, u "mode"), (0, u "(I)Ljava/math/RoundingMode;"), (6, .class_ 64), (0, u "com/example/trawl/trawl/model/NumericValue")] 2

def k6c0 : Code := { maxStack := 2, maxLocals := 3, code := prog_73_method_4_code, exceptionTable := #[], attributes := #[] }
def k6m0 : Method := { name := "mode", desc := "(I)Ljava/math/RoundingMode;", sig := { parameters := [.int], returnType := some (.object "java/math/RoundingMode") }, accessFlags := 0, code := some k6c0 }
/-- com/example/trawl/trawl/model/NumericValue$Halves -/
def k6 : Class := { plain "com/example/trawl/trawl/model/NumericValue$Halves" (some 5) with
  accessFlags := 16433
  interfaces := #[]
  cf := some (fileOf pool6 1 #[.nestHost 63] #[{ accessFlags := 0, nameIndex := 55, descriptorIndex := 56, attributes := #[] }] 16433 20 #[] #[{ accessFlags := 16409, nameIndex := 5, descriptorIndex := 6, attributes := #[] }, { accessFlags := 16409, nameIndex := 9, descriptorIndex := 6, attributes := #[] }, { accessFlags := 4122, nameIndex := 12, descriptorIndex := 13, attributes := #[] }])
  fields := #[{ name := "TOWARDS_POSITIVE_INFINITY", type := (.object "com/example/trawl/trawl/model/NumericValue$Halves"), accessFlags := 16409, slot := 0, constantValue := 0 }, { name := "TO_EVEN", type := (.object "com/example/trawl/trawl/model/NumericValue$Halves"), accessFlags := 16409, slot := 1, constantValue := 0 }, { name := "$VALUES", type := (.array (.object "com/example/trawl/trawl/model/NumericValue$Halves")), accessFlags := 4122, slot := 2, constantValue := 0 }]
  methods := #[k6m0]
  instanceTypes := #[(.object "java/lang/String"), .int, .int]
  staticTypes := #[(.object "com/example/trawl/trawl/model/NumericValue$Halves"), (.object "com/example/trawl/trawl/model/NumericValue$Halves"), (.array (.object "com/example/trawl/trawl/model/NumericValue$Halves"))]
  resolved := Array.replicate 67 none
  statics := some 0 }

def pool7 : Array CpInfo := pool [(1, .class_ 2), (0, u "java/math/RoundingMode"), (2, u "UP"), (0, u "Ljava/math/RoundingMode;"), (2, u "DOWN"), (2, u "CEILING"), (2, u "FLOOR"), (2, u "HALF_UP"), (2, u "HALF_DOWN"), (2, u "HALF_EVEN"), (2, u "UNNECESSARY"), (2, u "$VALUES"), (0, u "[Ljava/math/RoundingMode;"), (6, .class_ 40), (1, u "java/lang/Enum"), (8, u "oldMode"), (0, u "I")] 43

/-- java/math/RoundingMode -/
def k7 : Class := { plain "java/math/RoundingMode" (some 5) with
  accessFlags := 16433
  interfaces := #[]
  cf := some (fileOf pool7 1 #[] #[] 16433 38 #[] #[{ accessFlags := 16409, nameIndex := 5, descriptorIndex := 6, attributes := #[] }, { accessFlags := 16409, nameIndex := 9, descriptorIndex := 6, attributes := #[] }, { accessFlags := 16409, nameIndex := 12, descriptorIndex := 6, attributes := #[] }, { accessFlags := 16409, nameIndex := 15, descriptorIndex := 6, attributes := #[] }, { accessFlags := 16409, nameIndex := 18, descriptorIndex := 6, attributes := #[] }, { accessFlags := 16409, nameIndex := 21, descriptorIndex := 6, attributes := #[] }, { accessFlags := 16409, nameIndex := 24, descriptorIndex := 6, attributes := #[] }, { accessFlags := 16409, nameIndex := 27, descriptorIndex := 6, attributes := #[] }, { accessFlags := 16, nameIndex := 49, descriptorIndex := 50, attributes := #[] }, { accessFlags := 4122, nameIndex := 30, descriptorIndex := 31, attributes := #[] }])
  fields := #[{ name := "UP", type := (.object "java/math/RoundingMode"), accessFlags := 16409, slot := 0, constantValue := 0 }, { name := "DOWN", type := (.object "java/math/RoundingMode"), accessFlags := 16409, slot := 1, constantValue := 0 }, { name := "CEILING", type := (.object "java/math/RoundingMode"), accessFlags := 16409, slot := 2, constantValue := 0 }, { name := "FLOOR", type := (.object "java/math/RoundingMode"), accessFlags := 16409, slot := 3, constantValue := 0 }, { name := "HALF_UP", type := (.object "java/math/RoundingMode"), accessFlags := 16409, slot := 4, constantValue := 0 }, { name := "HALF_DOWN", type := (.object "java/math/RoundingMode"), accessFlags := 16409, slot := 5, constantValue := 0 }, { name := "HALF_EVEN", type := (.object "java/math/RoundingMode"), accessFlags := 16409, slot := 6, constantValue := 0 }, { name := "UNNECESSARY", type := (.object "java/math/RoundingMode"), accessFlags := 16409, slot := 7, constantValue := 0 }, { name := "oldMode", type := .int, accessFlags := 16, slot := 3, constantValue := 0 }, { name := "$VALUES", type := (.array (.object "java/math/RoundingMode")), accessFlags := 4122, slot := 8, constantValue := 0 }]
  methods := #[]
  instanceTypes := #[(.object "java/lang/String"), .int, .int, .int]
  staticTypes := #[(.object "java/math/RoundingMode"), (.object "java/math/RoundingMode"), (.object "java/math/RoundingMode"), (.object "java/math/RoundingMode"), (.object "java/math/RoundingMode"), (.object "java/math/RoundingMode"), (.object "java/math/RoundingMode"), (.object "java/math/RoundingMode"), (.array (.object "java/math/RoundingMode"))]
  resolved := Array.replicate 94 none
  statics := some 1 }

def pool8 : Array CpInfo := pool [(2, .class_ 4), (1, u "java/lang/CharSequence"), (42, .class_ 48), (0, u "java/lang/CharSequence$1CodePointIterator"), (10, .class_ 60), (0, u "java/lang/CharSequence$1CharIterator"), (5, .class_ 67), (0, u "java/lang/Object")] 63

/-- java/lang/CharSequence -/
def k8 : Class := { plain "java/lang/CharSequence" (some 0) with
  accessFlags := 1537
  interfaces := #[]
  cf := some (fileOf pool8 2 #[.nestMembers #[47, 59]] #[] 1537 66 #[] #[])
  fields := #[]
  methods := #[]
  instanceTypes := #[]
  staticTypes := #[]
  resolved := Array.replicate 131 none
  statics := none }

def pool9 : Array CpInfo := pool [(1, .class_ 2), (0, u "java/lang/constant/ConstantDesc"), (0, .class_ 4), (0, u "java/lang/Object")] 32

/-- java/lang/constant/ConstantDesc -/
def k9 : Class := { plain "java/lang/constant/ConstantDesc" (some 0) with
  accessFlags := 1537
  interfaces := #[]
  cf := some (fileOf pool9 1 #[] #[] 1537 3 #[] #[])
  fields := #[]
  methods := #[]
  instanceTypes := #[]
  staticTypes := #[]
  resolved := Array.replicate 37 none
  statics := none }

def pool10 : Array CpInfo := pool [(2, .class_ 4), (1, u "java/lang/Object"), (0, u "<init>"), (0, u "()V"), (3, .class_ 12), (1, u "java/lang/String"), (0, u "value"), (0, u "[B"), (2, u "coder"), (0, u "B"), (2, u "hash"), (0, u "I"), (2, u "hashIsZero"), (0, u "Z"), (13, u "COMPACT_STRINGS"), (534, .class_ 576), (0, u "java/lang/CharSequence"), (22, u "CASE_INSENSITIVE_ORDER"), (0, u "Ljava/util/Comparator;"), (500, u "serialPersistentFields"), (0, u "[Ljava/io/ObjectStreamField;"), (0, .class_ 1104), (0, u "java/lang/String$CaseInsensitiveComparator"), (1, .class_ 1107), (0, u "java/io/Serializable"), (0, .class_ 1109), (0, u "java/lang/Comparable"), (0, .class_ 1111), (0, u "java/lang/constant/Constable"), (0, .class_ 1113), (0, u "java/lang/constant/ConstantDesc"), (2, u "serialVersionUID"), (0, u "J"), (3, u "REPL"), (0, u "C"), (2, u "LATIN1"), (1, u "UTF16")] 323

def k10m0 : Method := { name := "<init>", desc := "()V", sig := { parameters := [], returnType := none }, accessFlags := 1, code := none }
/-- java/lang/String -/
def k10 : Class := { plain "java/lang/String" (some 0) with
  accessFlags := 49
  interfaces := #[4, 3, 8, 2, 9]
  cf := some (fileOf pool10 10 #[.nestMembers #[1103]] #[{ accessFlags := 1, nameIndex := 5, descriptorIndex := 6, attributes := #[] }] 49 2 #[1106, 1108, 575, 1110, 1112] #[{ accessFlags := 18, nameIndex := 13, descriptorIndex := 14, attributes := #[] }, { accessFlags := 18, nameIndex := 17, descriptorIndex := 18, attributes := #[] }, { accessFlags := 2, nameIndex := 21, descriptorIndex := 22, attributes := #[] }, { accessFlags := 2, nameIndex := 25, descriptorIndex := 26, attributes := #[] }, { accessFlags := 26, nameIndex := 1116, descriptorIndex := 1117, attributes := #[] }, { accessFlags := 24, nameIndex := 40, descriptorIndex := 26, attributes := #[] }, { accessFlags := 26, nameIndex := 1101, descriptorIndex := 1102, attributes := #[] }, { accessFlags := 26, nameIndex := 1121, descriptorIndex := 1122, attributes := #[] }, { accessFlags := 25, nameIndex := 599, descriptorIndex := 600, attributes := #[] }, { accessFlags := 24, nameIndex := 1125, descriptorIndex := 18, attributes := #[] }, { accessFlags := 24, nameIndex := 1127, descriptorIndex := 18, attributes := #[] }])
  fields := #[{ name := "value", type := (.array .byte), accessFlags := 18, slot := 0, constantValue := 0 }, { name := "coder", type := .byte, accessFlags := 18, slot := 1, constantValue := 0 }, { name := "hash", type := .int, accessFlags := 2, slot := 2, constantValue := 0 }, { name := "hashIsZero", type := .boolean, accessFlags := 2, slot := 3, constantValue := 0 }, { name := "serialVersionUID", type := .long, accessFlags := 26, slot := 0, constantValue := 0 }, { name := "COMPACT_STRINGS", type := .boolean, accessFlags := 24, slot := 1, constantValue := 0 }, { name := "serialPersistentFields", type := (.array (.object "java/io/ObjectStreamField")), accessFlags := 26, slot := 2, constantValue := 0 }, { name := "REPL", type := .char, accessFlags := 26, slot := 3, constantValue := 0 }, { name := "CASE_INSENSITIVE_ORDER", type := (.object "java/util/Comparator"), accessFlags := 25, slot := 4, constantValue := 0 }, { name := "LATIN1", type := .byte, accessFlags := 24, slot := 5, constantValue := 0 }, { name := "UTF16", type := .byte, accessFlags := 24, slot := 6, constantValue := 0 }]
  methods := #[k10m0]
  instanceTypes := #[(.array .byte), .byte, .int, .boolean]
  staticTypes := #[.long, .boolean, (.array (.object "java/io/ObjectStreamField")), .char, (.object "java/util/Comparator"), .byte, .byte]
  resolved := Array.replicate 1451 none
  statics := none }

def pool11 : Array CpInfo := pool [(1, u "java/lang/Cloneable"), (0, .class_ 1), (0, u "java/lang/Object"), (0, .class_ 3)] 3

/-- java/lang/Cloneable -/
def k11 : Class := { plain "java/lang/Cloneable" (some 0) with
  accessFlags := 1537
  interfaces := #[]
  cf := some (fileOf pool11 2 #[] #[] 1537 4 #[] #[])
  fields := #[]
  methods := #[]
  instanceTypes := #[]
  staticTypes := #[]
  resolved := Array.replicate 8 none
  statics := none }

/-- the primitive byte -/
def k12 : Class := { plain "byte" none with kind := .primitive 'B', accessFlags := 0x411 }
/-- [B -/
def k13 : Class := { plain "[B" (some 0) with kind := .array 12 .byte, interfaces := #[11, 4], accessFlags := 1041 }

/-- the primitive int -/
def k14 : Class := { plain "int" none with kind := .primitive 'I', accessFlags := 0x411 }
/-- [I -/
def k15 : Class := { plain "[I" (some 0) with kind := .array 14 .int, interfaces := #[11, 4], accessFlags := 1041 }

def heap : Heap := #[{ cls := 6, slots := #[.ref 2, .ref 3, .null], vm := .statics 6 },
  { cls := 7, slots := #[.null, .null, .null, .null, .ref 5, .ref 6, .ref 7, .null, .null], vm := .statics 7 },
  { cls := 6, slots := #[.null, .int 0, .int 0], vm := .none },
  { cls := 6, slots := #[.null, .int 1, .int 0], vm := .none },
  { cls := 10, slots := #[.null, .int 0, .int 0, .int 0], vm := .none },
  { cls := 7, slots := #[.ref 4, .int 4, .int 0, .int 4], vm := .none },
  { cls := 7, slots := #[.ref 4, .int 5, .int 0, .int 5], vm := .none },
  { cls := 7, slots := #[.ref 4, .int 6, .int 0, .int 6], vm := .none }]
def classes : Array Class := #[k0, k1, k2, k3, k4, k5, k6, k7, k8, k9, k10, k11, k12, k13, k14, k15]
def interned : List (Array UInt16 × Addr) := []
def slotsUsed : Nat := 34
def theMethod : MethodId := ⟨1, 1⟩
def args0 : Array Value := #[.int 5, .int 7]
def aboutOver (below : List Frame) : State where
  vm := { classes := classes, interned := interned.toArray }
  heap := heap
  slotsUsed := slotsUsed
  threads := #[{ frames := .invoking theMethod args0 :: below }]
def below0 : List Frame := [.native { method := ⟨0, 0⟩, args := #[] }]
def about1 : State := aboutOver below0
def p0 : Program := .bare "" "" ""
def e0 : Env := launch0.env 0 0 0
theorem w_frames : about1.frames = Frame.invoking theMethod args0 :: below0 := rfl
set_option maxRecDepth 65536 in
theorem w_args : argsFit about1.vm theMethod args0 = true := by decide +kernel
set_option maxRecDepth 65536 in
theorem w_heap : heapFits about1 = true := by decide +kernel
set_option maxRecDepth 65536 in
theorem w_runnable : about1.curStatus? = some .runnable := by decide +kernel
set_option maxRecDepth 65536 in
theorem w_alone : about1.alone = true := by decide +kernel
set_option maxRecDepth 65536 in
theorem w_named : about1.methodNamed? x = some theMethod := by decide +kernel
set_option maxRecDepth 65536 in
theorem w_hears : about1.hears theMethod below0 = true := by decide +kernel
set_option maxRecDepth 65536 in
theorem w_ripe : about1.ripe theMethod args0 below0 = true := by decide +kernel
theorem w_running : about1.status = .running := rfl
set_option maxRecDepth 65536 in
theorem w_room : about1.hasRoom e0.platform room_1 = true :=
  launch0.hasRoom_least _ room_1 (by decide +kernel) (by decide +kernel) (by decide +kernel) (by decide +kernel) (by decide +kernel) (by decide +kernel)
theorem allAtoms_all (ts : List Jvm.Cond) (a : Array Jvm.Value) (st : Jvm.State) : (allAtoms ts).before a st = ts.all (fun c => c.before a st) := by
  induction ts with
  | nil => rfl
  | cons c t ih =>
    show (Jvm.Cond.and c (allAtoms t)).before a st = _
    rw [Jvm.Cond.before_and, ih, List.all_cons]
def words1 : List Jvm.Cond := Jvm.Cond.code x code maxLocals ret :: tables_1
/-- a 'code' word, met by the world's own term for the bytes: nothing is compared byte by byte -/
theorem code_word {y : MethodName} {bytes : ByteArray} {mx : Nat} {rt : Option FieldType} {a : Array Value} {s : State} {m : MethodId} {meth : Method} {c : Code} (h1 : s.methodNamed? y = some m) (h2 : s.vm.method? m = some meth) (h3 : meth.code = some c) (h4 : c.code = bytes)
    (h5 : (c.maxLocals == mx && c.exceptionTable.isEmpty && decide (c.maxStack ≤ mostOperands) && decide (meth.sig.returnType = rt) && !meth.locks && decide (parseMethodDescriptor y.desc = some meth.sig)) = true) : (Jvm.Cond.code y bytes mx rt).before a s = true := by
  simp only [Bool.and_eq_true, beq_iff_eq, Bool.not_eq_true', decide_eq_true_eq] at h5
  obtain ⟨⟨⟨⟨⟨g1, g2⟩, g3⟩, g4⟩, g5⟩, g6⟩ := h5
  simp [Cond.before, Cond.holds, Cond.value, h1, h2, h3, h4, g1, g2, g3, g4, g5, g6]
def isCode : Jvm.Cond → Bool
  | .code _ _ _ _ => true
  | _ => false
theorem all_split {L : List Jvm.Cond} {P : Jvm.Cond → Bool} (h1 : L.all (fun c => isCode c || P c) = true) (h2 : ∀ c ∈ L.filter isCode, P c = true) : L.all P = true := by
  refine List.all_eq_true.mpr fun c hc => ?_
  have h := List.all_eq_true.mp h1 c hc
  rcases Bool.eq_false_or_eq_true (isCode c) with hi | hi
  · exact h2 c (List.mem_filter.mpr ⟨hc, hi⟩)
  · simpa [hi] using h
set_option maxRecDepth 65536 in
theorem w_c0 : (Jvm.Cond.code x code maxLocals ret).before args0 about1 = true := code_word (m := ⟨1, 1⟩) (meth := k1m1) (c := k1c1) (by decide +kernel) rfl rfl rfl (by decide +kernel)
set_option maxRecDepth 65536 in
theorem w_c1 : (Jvm.Cond.code ({ cls := "com/example/trawl/trawl/model/NumericValue$Halves", name := "mode", desc := "(I)Ljava/math/RoundingMode;" } : Jvm.MethodName) prog_73_method_4_code (3 : Nat) (Option.some (Jvm.ClassFile.FieldType.object "java/math/RoundingMode"))).before args0 about1 = true := code_word (m := ⟨6, 0⟩) (meth := k6m0) (c := k6c0) (by decide +kernel) rfl rfl rfl (by decide +kernel)
def codes1 : List Jvm.Cond := [Jvm.Cond.code x code maxLocals ret, Jvm.Cond.code ({ cls := "com/example/trawl/trawl/model/NumericValue$Halves", name := "mode", desc := "(I)Ljava/math/RoundingMode;" } : Jvm.MethodName) prog_73_method_4_code (3 : Nat) (Option.some (Jvm.ClassFile.FieldType.object "java/math/RoundingMode"))]
set_option maxRecDepth 65536 in
theorem codes_eq : words1.filter isCode = codes1 := rfl
theorem w_codes : ∀ c ∈ words1.filter isCode, c.before args0 about1 = true := by
  rw [codes_eq]
  intro c hc
  simp only [codes1, List.mem_cons, List.not_mem_nil, or_false] at hc
  rcases hc with rfl | rfl
  · exact w_c0
  · exact w_c1
set_option maxRecDepth 65536 in
theorem w_t1 : words1.all (fun c => isCode c || c.before args0 about1) = true := by decide +kernel
theorem w_tables : (allAtoms (Jvm.Cond.code x code maxLocals ret :: tables_1)).before args0 about1 = true := by
  rw [allAtoms_all]
  show words1.all (fun c => c.before args0 about1) = true
  refine all_split ?_ w_codes
  rw [w_t1]
set_option maxRecDepth 65536 in
theorem w_rest : rest_1_c.before args0 about1 = true := by decide +kernel
set_option maxRecDepth 65536 in
theorem w_case : (Jvm.Cond.and given_1 narrow_1).before args0 about1 = true := by decide +kernel
theorem w_applies : (headSpec (Jvm.Cond.code x code maxLocals ret :: tables_1) room_1).applies x e0.platform about1 = true :=
  (Spec.applies_iff w_frames).mpr ⟨w_running, w_runnable, w_alone, w_named, w_hears, w_ripe, w_room, w_tables⟩
theorem atStart : AtStart classFile x code maxLocals ret World_1 tables_1 room_1 Calls_1 rest_1 Pre_1 launch0 p0 e0 about1 theMethod args0 below0 :=
  ⟨lists_1, trivial, launch0.admits_env _ _ _, launch0.least_env, fairChoices_fair.cas, fairChoices_fair.clock, w_frames, w_args, w_heap, w_applies, trivial, w_rest, w_case⟩
end start1
theorem witness_1 : WitnessClaimed_1 := ⟨start1.p0, start1.e0, start1.about1, start1.theMethod, start1.args0, start1.below0, start1.atStart⟩
end Jvm.Pilot.@@N@@
