import JvmDerived
import JvmDerived.Pilot.@@N@@Statement
import JvmDerived.Pilot.@@N@@Code
set_option linter.unusedVariables false
set_option linter.unusedSimpArgs false
namespace Jvm.Pilot.@@N@@
open Jvm Jvm.ClassFile Sem Op Lib Jvm.Free Jvm.Stand Jvm.LawKit Jvm.RoadKit Bundle Jvm.Pilot.@@N@@.Jvm.D
theorem own_pd0 : parseMethodDescriptor "(I)Z" = some ⟨[.int], some .boolean⟩ := by decide +kernel
def own_ws (p : Int32) : Int32 := if p = 32 ∨ p = 9 ∨ p = 10 ∨ p = 13 then 1 else 0
abbrev own_mk (p : Int32) : Int32 := lcmpW ((((4294977024 : Int64).toUInt64 >>> (p &&& 0x3f).toInt64.toUInt64).toInt64) &&& (1 : Int64)) (0 : Int64)
theorem own_mk_fin : ∀ k : Fin 64, own_mk (Int32.ofNat k.1) = 0 ↔ own_ws (Int32.ofNat k.1) = 0 := by decide +kernel
theorem own_mk_iff {p : Int32} (h1 : ¬ p < 0) (h2 : ¬ (63 : Int32) < p) : own_mk p = 0 ↔ own_ws p = 0 := by
  have a1 : 0 ≤ p.toInt := by rw [Int32.lt_iff_toInt_lt] at h1; simpa using h1
  have a2 : p.toInt ≤ 63 := by rw [Int32.lt_iff_toInt_lt] at h2; have : (63 : Int32).toInt = 63 := by decide
                               omega
  have e : p = Int32.ofNat p.toInt.toNat := by
    apply Int32.toInt_inj.mp
    rw [Int32.toInt_ofNat_of_lt (by omega)]; omega
  rw [e]
  exact own_mk_fin ⟨p.toInt.toNat, by omega⟩
theorem own_ws_neg {p : Int32} (h : p < 0) : own_ws p = 0 := by
  rw [Int32.lt_iff_toInt_lt] at h
  unfold own_ws
  rw [if_neg]
  rintro (rfl | rfl | rfl | rfl) <;> exact absurd h (by decide)
theorem own_ws_big {p : Int32} (h : (63 : Int32) < p) : own_ws p = 0 := by
  rw [Int32.lt_iff_toInt_lt] at h
  unfold own_ws
  rw [if_neg]
  rintro (rfl | rfl | rfl | rfl) <;> exact absurd h (by decide)
theorem own_ws_one {p : Int32} (h : ¬ own_ws p = 0) : own_ws p = 1 := by
  unfold own_ws at h ⊢; split <;> simp_all
theorem own_da0 : decode prog_86_method_3_code 0 = .ok (.iload_n 0, 1) := by decide +kernel
theorem own_da1 : decode prog_86_method_3_code 1 = .ok (.bipush 32, 2) := by decide +kernel
theorem own_da3 : decode prog_86_method_3_code 3 = .ok (.if_icmp .eq 21, 3) := by decide +kernel
theorem own_da6 : decode prog_86_method_3_code 6 = .ok (.iload_n 0, 1) := by decide +kernel
theorem own_da7 : decode prog_86_method_3_code 7 = .ok (.bipush 9, 2) := by decide +kernel
theorem own_da9 : decode prog_86_method_3_code 9 = .ok (.if_icmp .eq 15, 3) := by decide +kernel
theorem own_da12 : decode prog_86_method_3_code 12 = .ok (.iload_n 0, 1) := by decide +kernel
theorem own_da13 : decode prog_86_method_3_code 13 = .ok (.bipush 10, 2) := by decide +kernel
theorem own_da15 : decode prog_86_method_3_code 15 = .ok (.if_icmp .eq 9, 3) := by decide +kernel
theorem own_da18 : decode prog_86_method_3_code 18 = .ok (.iload_n 0, 1) := by decide +kernel
theorem own_da19 : decode prog_86_method_3_code 19 = .ok (.bipush 13, 2) := by decide +kernel
theorem own_da21 : decode prog_86_method_3_code 21 = .ok (.if_icmp .ne 7, 3) := by decide +kernel
theorem own_da24 : decode prog_86_method_3_code 24 = .ok (.iconst 1, 1) := by decide +kernel
theorem own_da25 : decode prog_86_method_3_code 25 = .ok (.goto 4, 3) := by decide +kernel
theorem own_da28 : decode prog_86_method_3_code 28 = .ok (.iconst 0, 1) := by decide +kernel
theorem own_da29 : decode prog_86_method_3_code 29 = .ok (.ireturn, 1) := by decide +kernel
theorem own_isws_pn : plainName "com/example/trawl/trawl/model/XmlChars" = true := by first | (simp [plainName, overriddenIn]; done) | decide +kernel
theorem own_isws_ef (m : MethodId) (pp : Int32) : entryFrame m #[(.int pp)] 1 = mkF m 0 #[.val (.int pp)] [] := by first | (simp [entryFrame, mkF, argsToLocals, Value.category]; done) | rfl
def own_isws_Q (Z : State) (pp : Int32) (h0 : Heap) (n0 : Nat) (v : Option Value) (h : Heap) (L : List Loc) : Prop := v = some (.int (own_ws pp)) ∧ Fr n0 L ∧ h = h0
set_option maxRecDepth 65536 in
set_option maxHeartbeats 40000000 in
theorem own_isws (l : Launch) (Z : State) (a0 : Array Value) (hw : ∀ d ∈ tables_1, d.before a0 Z = true) (ws : List Jvm.Cond) (pp : Int32) (h0 : Heap) (n0 : Nat) (Z0 : n0 ≤ h0.size) :
    MetFree l (⟨"com/example/trawl/trawl/model/XmlChars", "isWhitespace", "(I)Z"⟩ : MethodName) (head1 (Jvm.Cond.code (⟨"com/example/trawl/trawl/model/XmlChars", "isWhitespace", "(I)Z"⟩ : MethodName) prog_86_method_3_code 1 (some .boolean) :: ws) ({ frames := 0, cells := 0, slots := 0, locals := 0 } : Room)) (fun ars U => ars = #[(.int pp)] ∧ Z.Warmed39 U.vm ∧ U.heap = h0) (fun _ _ _ _ _ => True) (fun _ U o U' => ∃ v L, o = .returned v ∧ own_isws_Q Z pp  h0 n0 v U'.heap L ∧ FrameEnd U o U' L ({ frames := 0, cells := 0, slots := 0, locals := 0 } : Room).cells ({ frames := 0, cells := 0, slots := 0, locals := 0 } : Room).slots) := by
  refine MetFree.of_bodySF (plainFor_of_name own_isws_pn) hisR ?_
  intro p e s m args below meth c s₁ Bd hml0 hP hK
  obtain ⟨rfl, hZ, hh⟩ := hP
  have hx := Bd.exec
  have hby := Bd.bytes
  have hml : c.maxLocals = 1 := hml0
  have hown : s.vm.findClass "com/example/trawl/trawl/model/XmlChars" = some m.cls := findClass_of_methodNamed Bd.named
  have hnm := (name_of_methodNamed Bd.named Bd.method).1
  have X0 : Stand p l e ({ frames := 0, cells := 0, slots := 0, locals := 0 } : Room) s m #[(.int pp)] below meth c s₁ [] 0 0 := Stand.of_body Bd
  have e0 : s₁.heap = h0 := by rw [← hh, Bd.state]; rfl
  have N0 := Fr.nil n0
  generalize hS0 : s₁.setTop (entryFrame m #[(.int pp)] 1) = S0
  have c0 : Steps p.tables e below S0 (s₁.setTop (mkF m 0 #[.val (.int pp)] [])) := by rw [← hS0]; exact castTop (own_isws_ef m pp) (Steps.refl _)
  have c1 : Steps p.tables e below S0 (s₁.setTop (mkF m 3 #[.val (.int pp)] [(.int (32 : Int32)), (.int pp)])) := c0.trans (by
    refine XS.iloadN X0.here hx rfl (hb hby own_da0) rfl ?_
    show Steps p.tables e below (s₁.setTop (mkF m 1 #[.val (.int pp)] [(.int pp)])) _
    refine XS.bipush X0.here hx rfl (hb hby own_da1) ?_
    exact Steps.refl _)
  by_cases hb3 : pp = (32 : Int32)
  · have c2 : Steps p.tables e below S0 (s₁.setTop (mkF m 24 #[.val (.int pp)] [])) := c1.trans (by
      refine XS.icmpYes X0.here hx rfl (pc0 := 3) (pc' := 24) rfl (hb hby own_da3) rfl (teq hb3).1 (by decide) (by decide) ?_
      exact Steps.refl _)
    have c3 : Steps p.tables e below S0 (s₁.setTop (mkF m 29 #[.val (.int pp)] [(.int (1 : Int32))])) := c2.trans (by
      refine XS.iconst X0.here hx rfl (hb hby own_da24) ?_
      show Steps p.tables e below (s₁.setTop (mkF m 25 #[.val (.int pp)] [(.int (1 : Int32))])) _
      refine XS.goto X0.here hx rfl (pc0 := 25) (pc' := 29) rfl (hb hby own_da25) (by decide) (by decide) ?_
      exact Steps.refl _)
    obtain ⟨fs, hr, hrun, hended, hW, hsame⟩ := X0.leave (v := some (.int (1 : Int32))) (fun h => by rw [Bd.returns] at h; cases h)
    exact ⟨_, _, c3.trans (retN X0 hx (t := .boolean) Bd.returns (by simp) (hb hby own_da29) hr), hrun, hended, _, _, rfl, ⟨by simp [own_ws, hb3], N0, e0⟩, ⟨_, rfl⟩, hW, hsame.mono (by decide) (by decide)⟩
  · have c4 : Steps p.tables e below S0 (s₁.setTop (mkF m 6 #[.val (.int pp)] [])) := c1.trans (by
      refine XS.icmpNo X0.here hx rfl (hb hby own_da3) rfl (feq hb3).1 ?_
      exact Steps.refl _)
    have c5 : Steps p.tables e below S0 (s₁.setTop (mkF m 9 #[.val (.int pp)] [(.int (9 : Int32)), (.int pp)])) := c4.trans (by
      refine XS.iloadN X0.here hx rfl (hb hby own_da6) rfl ?_
      show Steps p.tables e below (s₁.setTop (mkF m 7 #[.val (.int pp)] [(.int pp)])) _
      refine XS.bipush X0.here hx rfl (hb hby own_da7) ?_
      exact Steps.refl _)
    by_cases hb9 : pp = (9 : Int32)
    · have c6 : Steps p.tables e below S0 (s₁.setTop (mkF m 24 #[.val (.int pp)] [])) := c5.trans (by
        refine XS.icmpYes X0.here hx rfl (pc0 := 9) (pc' := 24) rfl (hb hby own_da9) rfl (teq hb9).1 (by decide) (by decide) ?_
        exact Steps.refl _)
      have c7 : Steps p.tables e below S0 (s₁.setTop (mkF m 29 #[.val (.int pp)] [(.int (1 : Int32))])) := c6.trans (by
        refine XS.iconst X0.here hx rfl (hb hby own_da24) ?_
        show Steps p.tables e below (s₁.setTop (mkF m 25 #[.val (.int pp)] [(.int (1 : Int32))])) _
        refine XS.goto X0.here hx rfl (pc0 := 25) (pc' := 29) rfl (hb hby own_da25) (by decide) (by decide) ?_
        exact Steps.refl _)
      obtain ⟨fs, hr, hrun, hended, hW, hsame⟩ := X0.leave (v := some (.int (1 : Int32))) (fun h => by rw [Bd.returns] at h; cases h)
      exact ⟨_, _, c7.trans (retN X0 hx (t := .boolean) Bd.returns (by simp) (hb hby own_da29) hr), hrun, hended, _, _, rfl, ⟨by simp [own_ws, hb3, hb9], N0, e0⟩, ⟨_, rfl⟩, hW, hsame.mono (by decide) (by decide)⟩
    · have c8 : Steps p.tables e below S0 (s₁.setTop (mkF m 12 #[.val (.int pp)] [])) := c5.trans (by
        refine XS.icmpNo X0.here hx rfl (hb hby own_da9) rfl (feq hb9).1 ?_
        exact Steps.refl _)
      have c9 : Steps p.tables e below S0 (s₁.setTop (mkF m 15 #[.val (.int pp)] [(.int (10 : Int32)), (.int pp)])) := c8.trans (by
        refine XS.iloadN X0.here hx rfl (hb hby own_da12) rfl ?_
        show Steps p.tables e below (s₁.setTop (mkF m 13 #[.val (.int pp)] [(.int pp)])) _
        refine XS.bipush X0.here hx rfl (hb hby own_da13) ?_
        exact Steps.refl _)
      by_cases hb15 : pp = (10 : Int32)
      · have c10 : Steps p.tables e below S0 (s₁.setTop (mkF m 24 #[.val (.int pp)] [])) := c9.trans (by
          refine XS.icmpYes X0.here hx rfl (pc0 := 15) (pc' := 24) rfl (hb hby own_da15) rfl (teq hb15).1 (by decide) (by decide) ?_
          exact Steps.refl _)
        have c11 : Steps p.tables e below S0 (s₁.setTop (mkF m 29 #[.val (.int pp)] [(.int (1 : Int32))])) := c10.trans (by
          refine XS.iconst X0.here hx rfl (hb hby own_da24) ?_
          show Steps p.tables e below (s₁.setTop (mkF m 25 #[.val (.int pp)] [(.int (1 : Int32))])) _
          refine XS.goto X0.here hx rfl (pc0 := 25) (pc' := 29) rfl (hb hby own_da25) (by decide) (by decide) ?_
          exact Steps.refl _)
        obtain ⟨fs, hr, hrun, hended, hW, hsame⟩ := X0.leave (v := some (.int (1 : Int32))) (fun h => by rw [Bd.returns] at h; cases h)
        exact ⟨_, _, c11.trans (retN X0 hx (t := .boolean) Bd.returns (by simp) (hb hby own_da29) hr), hrun, hended, _, _, rfl, ⟨by simp [own_ws, hb3, hb9, hb15], N0, e0⟩, ⟨_, rfl⟩, hW, hsame.mono (by decide) (by decide)⟩
      · have c12 : Steps p.tables e below S0 (s₁.setTop (mkF m 18 #[.val (.int pp)] [])) := c9.trans (by
          refine XS.icmpNo X0.here hx rfl (hb hby own_da15) rfl (feq hb15).1 ?_
          exact Steps.refl _)
        have c13 : Steps p.tables e below S0 (s₁.setTop (mkF m 21 #[.val (.int pp)] [(.int (13 : Int32)), (.int pp)])) := c12.trans (by
          refine XS.iloadN X0.here hx rfl (hb hby own_da18) rfl ?_
          show Steps p.tables e below (s₁.setTop (mkF m 19 #[.val (.int pp)] [(.int pp)])) _
          refine XS.bipush X0.here hx rfl (hb hby own_da19) ?_
          exact Steps.refl _)
        by_cases hb21 : pp = (13 : Int32)
        · have c14 : Steps p.tables e below S0 (s₁.setTop (mkF m 24 #[.val (.int pp)] [])) := c13.trans (by
            refine XS.icmpNo X0.here hx rfl (hb hby own_da21) rfl (teq hb21).2 ?_
            exact Steps.refl _)
          have c15 : Steps p.tables e below S0 (s₁.setTop (mkF m 29 #[.val (.int pp)] [(.int (1 : Int32))])) := c14.trans (by
            refine XS.iconst X0.here hx rfl (hb hby own_da24) ?_
            show Steps p.tables e below (s₁.setTop (mkF m 25 #[.val (.int pp)] [(.int (1 : Int32))])) _
            refine XS.goto X0.here hx rfl (pc0 := 25) (pc' := 29) rfl (hb hby own_da25) (by decide) (by decide) ?_
            exact Steps.refl _)
          obtain ⟨fs, hr, hrun, hended, hW, hsame⟩ := X0.leave (v := some (.int (1 : Int32))) (fun h => by rw [Bd.returns] at h; cases h)
          exact ⟨_, _, c15.trans (retN X0 hx (t := .boolean) Bd.returns (by simp) (hb hby own_da29) hr), hrun, hended, _, _, rfl, ⟨by simp [own_ws, hb3, hb9, hb15, hb21], N0, e0⟩, ⟨_, rfl⟩, hW, hsame.mono (by decide) (by decide)⟩
        · have c16 : Steps p.tables e below S0 (s₁.setTop (mkF m 28 #[.val (.int pp)] [])) := c13.trans (by
            refine XS.icmpYes X0.here hx rfl (pc0 := 21) (pc' := 28) rfl (hb hby own_da21) rfl (feq hb21).2 (by decide) (by decide) ?_
            exact Steps.refl _)
          have c17 : Steps p.tables e below S0 (s₁.setTop (mkF m 29 #[.val (.int pp)] [(.int (0 : Int32))])) := c16.trans (by
            refine XS.iconst X0.here hx rfl (hb hby own_da28) ?_
            exact Steps.refl _)
          obtain ⟨fs, hr, hrun, hended, hW, hsame⟩ := X0.leave (v := some (.int (0 : Int32))) (fun h => by rw [Bd.returns] at h; cases h)
          exact ⟨_, _, c17.trans (retN X0 hx (t := .boolean) Bd.returns (by simp) (hb hby own_da29) hr), hrun, hended, _, _, rfl, ⟨by simp [own_ws, hb3, hb9, hb15, hb21], N0, e0⟩, ⟨_, rfl⟩, hW, hsame.mono (by decide) (by decide)⟩
theorem own_db0 : decode method_2_code 0 = .ok (.ldc2_w 7, 3) := by decide +kernel
theorem own_db3 : decode method_2_code 3 = .ok (.lstore_n 1, 1) := by decide +kernel
theorem own_db4 : decode method_2_code 4 = .ok (.iload_n 0, 1) := by decide +kernel
theorem own_db5 : decode method_2_code 5 = .ok (.ifCond .lt 9, 3) := by decide +kernel
theorem own_db8 : decode method_2_code 8 = .ok (.iload_n 0, 1) := by decide +kernel
theorem own_db9 : decode method_2_code 9 = .ok (.bipush 63, 2) := by decide +kernel
theorem own_db11 : decode method_2_code 11 = .ok (.if_icmp .le 5, 3) := by decide +kernel
theorem own_db14 : decode method_2_code 14 = .ok (.iconst 0, 1) := by decide +kernel
theorem own_db15 : decode method_2_code 15 = .ok (.ireturn, 1) := by decide +kernel
theorem own_db16 : decode method_2_code 16 = .ok (.lload_n 1, 1) := by decide +kernel
theorem own_db17 : decode method_2_code 17 = .ok (.iload_n 0, 1) := by decide +kernel
theorem own_db18 : decode method_2_code 18 = .ok (.lushr, 1) := by decide +kernel
theorem own_db19 : decode method_2_code 19 = .ok (.lconst 1, 1) := by decide +kernel
theorem own_db20 : decode method_2_code 20 = .ok (.land, 1) := by decide +kernel
theorem own_db21 : decode method_2_code 21 = .ok (.lconst 0, 1) := by decide +kernel
theorem own_db22 : decode method_2_code 22 = .ok (.lcmp, 1) := by decide +kernel
theorem own_db23 : decode method_2_code 23 = .ok (.ifCond .eq 7, 3) := by decide +kernel
theorem own_db26 : decode method_2_code 26 = .ok (.iconst 1, 1) := by decide +kernel
theorem own_db27 : decode method_2_code 27 = .ok (.goto 4, 3) := by decide +kernel
theorem own_db30 : decode method_2_code 30 = .ok (.iconst 0, 1) := by decide +kernel
theorem own_db31 : decode method_2_code 31 = .ok (.ireturn, 1) := by decide +kernel
theorem own_ref_pn : plainName "com/example/trawl/trawl/model/XmlCharsIsWhitespacePinLaw" = true := by first | (simp [plainName, overriddenIn]; done) | decide +kernel
theorem own_ref_ef (m : MethodId) (pp : Int32) : entryFrame m #[(.int pp)] 3 = mkF m 0 #[.val (.int pp), .unset, .unset] [] := by first | (simp [entryFrame, mkF, argsToLocals, Value.category]; done) | rfl
def own_ref_Q (Z : State) (pp : Int32) (h0 : Heap) (n0 : Nat) (v : Option Value) (h : Heap) (L : List Loc) : Prop := v = some (.int (own_ws pp)) ∧ Fr n0 L ∧ h = h0
set_option maxRecDepth 65536 in
set_option maxHeartbeats 40000000 in
theorem own_ref (l : Launch) (Z : State) (a0 : Array Value) (hw : ∀ d ∈ tables_1, d.before a0 Z = true) (ws : List Jvm.Cond) (pp : Int32) (h0 : Heap) (n0 : Nat) (Z0 : n0 ≤ h0.size) :
    MetFree l (⟨"com/example/trawl/trawl/model/XmlCharsIsWhitespacePinLaw", "ref", "(I)Z"⟩ : MethodName) (head1 (Jvm.Cond.code (⟨"com/example/trawl/trawl/model/XmlCharsIsWhitespacePinLaw", "ref", "(I)Z"⟩ : MethodName) method_2_code 3 (some .boolean) :: ws) ({ frames := 0, cells := 0, slots := 0, locals := 0 } : Room)) (fun ars U => ars = #[(.int pp)] ∧ Z.Warmed39 U.vm ∧ U.heap = h0) (fun _ _ _ _ _ => True) (fun _ U o U' => ∃ v L, o = .returned v ∧ own_ref_Q Z pp  h0 n0 v U'.heap L ∧ FrameEnd U o U' L ({ frames := 0, cells := 0, slots := 0, locals := 0 } : Room).cells ({ frames := 0, cells := 0, slots := 0, locals := 0 } : Room).slots) := by
  refine MetFree.of_bodySF (plainFor_of_name own_ref_pn) hisR ?_
  intro p e s m args below meth c s₁ Bd hml0 hP hK
  obtain ⟨rfl, hZ, hh⟩ := hP
  have hx := Bd.exec
  have hby := Bd.bytes
  have hml : c.maxLocals = 3 := hml0
  have hown : s.vm.findClass "com/example/trawl/trawl/model/XmlCharsIsWhitespacePinLaw" = some m.cls := findClass_of_methodNamed Bd.named
  have hnm := (name_of_methodNamed Bd.named Bd.method).1
  have X0 : Stand p l e ({ frames := 0, cells := 0, slots := 0, locals := 0 } : Room) s m #[(.int pp)] below meth c s₁ [] 0 0 := Stand.of_body Bd
  have e0 : s₁.heap = h0 := by rw [← hh, Bd.state]; rfl
  have N0 := Fr.nil n0
  generalize hS0 : s₁.setTop (entryFrame m #[(.int pp)] 3) = S0
  have c0 : Steps p.tables e below S0 (s₁.setTop (mkF m 0 #[.val (.int pp), .unset, .unset] [])) := by rw [← hS0]; exact castTop (own_ref_ef m pp) (Steps.refl _)
  have c1 : Steps p.tables e below S0 (s₁.setTop (mkF m 5 #[.val (.int pp), .val (.long (4294977024 : Int64)), .second] [(.int pp)])) := c0.trans (by
    refine X0.ldc2Long hx hown (mvT hZ (hw _ (List.mem_of_getElem? (i := 8) rfl))) (g := (mkF m 0 #[.val (.int pp), .unset, .unset] [])) rfl (hb hby own_db0) _ ?_
    show Steps p.tables e below (s₁.setTop (mkF m 3 #[.val (.int pp), .unset, .unset] [(.long (4294977024 : Int64))])) _
    refine XS.lstoreN X0.here hx rfl (hb hby own_db3) rfl (l' := #[.val (.int pp), .val (.long (4294977024 : Int64)), .second]) rfl ?_
    show Steps p.tables e below (s₁.setTop (mkF m 4 #[.val (.int pp), .val (.long (4294977024 : Int64)), .second] [])) _
    refine XS.iloadN X0.here hx rfl (hb hby own_db4) rfl ?_
    exact Steps.refl _)
  by_cases hb5 : pp < (0 : Int32)
  · have c2 : Steps p.tables e below S0 (s₁.setTop (mkF m 14 #[.val (.int pp), .val (.long (4294977024 : Int64)), .second] [])) := c1.trans (by
      refine XS.ifYes X0.here hx rfl (pc0 := 5) (pc' := 14) rfl (hb hby own_db5) rfl ((if0 _ _).trans (tlt hb5).1) (by decide) (by decide) ?_
      exact Steps.refl _)
    have c3 : Steps p.tables e below S0 (s₁.setTop (mkF m 15 #[.val (.int pp), .val (.long (4294977024 : Int64)), .second] [(.int (0 : Int32))])) := c2.trans (by
      refine XS.iconst X0.here hx rfl (hb hby own_db14) ?_
      exact Steps.refl _)
    obtain ⟨fs, hr, hrun, hended, hW, hsame⟩ := X0.leave (v := some (.int (0 : Int32))) (fun h => by rw [Bd.returns] at h; cases h)
    exact ⟨_, _, c3.trans (retN X0 hx (t := .boolean) Bd.returns (by simp) (hb hby own_db15) hr), hrun, hended, _, _, rfl, ⟨by rw [own_ws_neg hb5], N0, e0⟩, ⟨_, rfl⟩, hW, hsame.mono (by decide) (by decide)⟩
  · have c4 : Steps p.tables e below S0 (s₁.setTop (mkF m 8 #[.val (.int pp), .val (.long (4294977024 : Int64)), .second] [])) := c1.trans (by
      refine XS.ifNo X0.here hx rfl (hb hby own_db5) rfl ((if0 _ _).trans (flt hb5).1) ?_
      exact Steps.refl _)
    have c5 : Steps p.tables e below S0 (s₁.setTop (mkF m 11 #[.val (.int pp), .val (.long (4294977024 : Int64)), .second] [(.int (63 : Int32)), (.int pp)])) := c4.trans (by
      refine XS.iloadN X0.here hx rfl (hb hby own_db8) rfl ?_
      show Steps p.tables e below (s₁.setTop (mkF m 9 #[.val (.int pp), .val (.long (4294977024 : Int64)), .second] [(.int pp)])) _
      refine XS.bipush X0.here hx rfl (hb hby own_db9) ?_
      exact Steps.refl _)
    by_cases hb11 : (63 : Int32) < pp
    · have c6 : Steps p.tables e below S0 (s₁.setTop (mkF m 14 #[.val (.int pp), .val (.long (4294977024 : Int64)), .second] [])) := c5.trans (by
        refine XS.icmpNo X0.here hx rfl (hb hby own_db11) rfl (tlt hb11).2.2.2 ?_
        exact Steps.refl _)
      have c7 : Steps p.tables e below S0 (s₁.setTop (mkF m 15 #[.val (.int pp), .val (.long (4294977024 : Int64)), .second] [(.int (0 : Int32))])) := c6.trans (by
        refine XS.iconst X0.here hx rfl (hb hby own_db14) ?_
        exact Steps.refl _)
      obtain ⟨fs, hr, hrun, hended, hW, hsame⟩ := X0.leave (v := some (.int (0 : Int32))) (fun h => by rw [Bd.returns] at h; cases h)
      exact ⟨_, _, c7.trans (retN X0 hx (t := .boolean) Bd.returns (by simp) (hb hby own_db15) hr), hrun, hended, _, _, rfl, ⟨by rw [own_ws_big hb11], N0, e0⟩, ⟨_, rfl⟩, hW, hsame.mono (by decide) (by decide)⟩
    · have c8 : Steps p.tables e below S0 (s₁.setTop (mkF m 16 #[.val (.int pp), .val (.long (4294977024 : Int64)), .second] [])) := c5.trans (by
        refine XS.icmpYes X0.here hx rfl (pc0 := 11) (pc' := 16) rfl (hb hby own_db11) rfl (flt hb11).2.2.2 (by decide) (by decide) ?_
        exact Steps.refl _)
      have c9 : Steps p.tables e below S0 (s₁.setTop (mkF m 23 #[.val (.int pp), .val (.long (4294977024 : Int64)), .second] [(.int (lcmpW ((((4294977024 : Int64).toUInt64 >>> (pp &&& 0x3f).toInt64.toUInt64).toInt64) &&& (1 : Int64)) (0 : Int64)))])) := c8.trans (by
        refine XS.lloadN X0.here hx rfl (hb hby own_db16) rfl ?_
        show Steps p.tables e below (s₁.setTop (mkF m 17 #[.val (.int pp), .val (.long (4294977024 : Int64)), .second] [(.long (4294977024 : Int64))])) _
        refine XS.iloadN X0.here hx rfl (hb hby own_db17) rfl ?_
        show Steps p.tables e below (s₁.setTop (mkF m 18 #[.val (.int pp), .val (.long (4294977024 : Int64)), .second] [(.int pp), (.long (4294977024 : Int64))])) _
        refine XS.lushr X0.here hx rfl (hb hby own_db18) rfl ?_
        show Steps p.tables e below (s₁.setTop (mkF m 19 #[.val (.int pp), .val (.long (4294977024 : Int64)), .second] [(.long (((4294977024 : Int64).toUInt64 >>> (pp &&& 0x3f).toInt64.toUInt64).toInt64))])) _
        refine XS.lconst X0.here hx rfl (hb hby own_db19) ?_
        show Steps p.tables e below (s₁.setTop (mkF m 20 #[.val (.int pp), .val (.long (4294977024 : Int64)), .second] [(.long (1 : Int64)), (.long (((4294977024 : Int64).toUInt64 >>> (pp &&& 0x3f).toInt64.toUInt64).toInt64))])) _
        refine XS.land X0.here hx rfl (hb hby own_db20) rfl ?_
        show Steps p.tables e below (s₁.setTop (mkF m 21 #[.val (.int pp), .val (.long (4294977024 : Int64)), .second] [(.long ((((4294977024 : Int64).toUInt64 >>> (pp &&& 0x3f).toInt64.toUInt64).toInt64) &&& (1 : Int64)))])) _
        refine XS.lconst X0.here hx rfl (hb hby own_db21) ?_
        show Steps p.tables e below (s₁.setTop (mkF m 22 #[.val (.int pp), .val (.long (4294977024 : Int64)), .second] [(.long (0 : Int64)), (.long ((((4294977024 : Int64).toUInt64 >>> (pp &&& 0x3f).toInt64.toUInt64).toInt64) &&& (1 : Int64)))])) _
        refine XS.lcmp X0.here hx rfl (hb hby own_db22) rfl ?_
        exact Steps.refl _)
      by_cases hb23 : (lcmpW ((((4294977024 : Int64).toUInt64 >>> (pp &&& 0x3f).toInt64.toUInt64).toInt64) &&& (1 : Int64)) (0 : Int64)) = (0 : Int32)
      · have c10 : Steps p.tables e below S0 (s₁.setTop (mkF m 30 #[.val (.int pp), .val (.long (4294977024 : Int64)), .second] [])) := c9.trans (by
          refine XS.ifYes X0.here hx rfl (pc0 := 23) (pc' := 30) rfl (hb hby own_db23) rfl ((if0 _ _).trans (teq hb23).1) (by decide) (by decide) ?_
          exact Steps.refl _)
        have c11 : Steps p.tables e below S0 (s₁.setTop (mkF m 31 #[.val (.int pp), .val (.long (4294977024 : Int64)), .second] [(.int (0 : Int32))])) := c10.trans (by
          refine XS.iconst X0.here hx rfl (hb hby own_db30) ?_
          exact Steps.refl _)
        obtain ⟨fs, hr, hrun, hended, hW, hsame⟩ := X0.leave (v := some (.int (0 : Int32))) (fun h => by rw [Bd.returns] at h; cases h)
        exact ⟨_, _, c11.trans (retN X0 hx (t := .boolean) Bd.returns (by simp) (hb hby own_db31) hr), hrun, hended, _, _, rfl, ⟨by rw [(own_mk_iff hb5 hb11).mp hb23], N0, e0⟩, ⟨_, rfl⟩, hW, hsame.mono (by decide) (by decide)⟩
      · have c12 : Steps p.tables e below S0 (s₁.setTop (mkF m 26 #[.val (.int pp), .val (.long (4294977024 : Int64)), .second] [])) := c9.trans (by
          refine XS.ifNo X0.here hx rfl (hb hby own_db23) rfl ((if0 _ _).trans (feq hb23).1) ?_
          exact Steps.refl _)
        have c13 : Steps p.tables e below S0 (s₁.setTop (mkF m 31 #[.val (.int pp), .val (.long (4294977024 : Int64)), .second] [(.int (1 : Int32))])) := c12.trans (by
          refine XS.iconst X0.here hx rfl (hb hby own_db26) ?_
          show Steps p.tables e below (s₁.setTop (mkF m 27 #[.val (.int pp), .val (.long (4294977024 : Int64)), .second] [(.int (1 : Int32))])) _
          refine XS.goto X0.here hx rfl (pc0 := 27) (pc' := 31) rfl (hb hby own_db27) (by decide) (by decide) ?_
          exact Steps.refl _)
        obtain ⟨fs, hr, hrun, hended, hW, hsame⟩ := X0.leave (v := some (.int (1 : Int32))) (fun h => by rw [Bd.returns] at h; cases h)
        exact ⟨_, _, c13.trans (retN X0 hx (t := .boolean) Bd.returns (by simp) (hb hby own_db31) hr), hrun, hended, _, _, rfl, ⟨by rw [own_ws_one fun q => hb23 ((own_mk_iff hb5 hb11).mpr q)], N0, e0⟩, ⟨_, rfl⟩, hW, hsame.mono (by decide) (by decide)⟩
theorem own_law_pn : plainName "com/example/trawl/trawl/model/XmlCharsIsWhitespacePinLaw" = true := by first | (simp [plainName, overriddenIn]; done) | decide +kernel
theorem own_law_ef (m : MethodId) (pp : Int32) (k : Int32) : entryFrame m #[(.int pp), (.int k)] maxLocals = mkF m 0 #[.val (.int pp), .val (.int k), .unset, .unset, .unset] [] := by first | (simp [entryFrame, mkF, argsToLocals, Value.category, maxLocals]; done) | rfl
def own_law_Q (Z : State) (pp : Int32) (k : Int32) (h0 : Heap) (n0 : Nat) (v : Option Value) (h : Heap) (L : List Loc) : Prop := v = some (.int 1) ∧ Fr n0 L
set_option maxRecDepth 65536 in
set_option maxHeartbeats 40000000 in
theorem own_law (l : Launch) (Z : State) (a0 : Array Value) (hw : ∀ d ∈ tables_1, d.before a0 Z = true) (ws : List Jvm.Cond) (pp : Int32) (k : Int32) (h0 : Heap) (n0 : Nat) (Z0 : n0 ≤ h0.size) :
    MetFree l x (head1 (Jvm.Cond.code x code maxLocals ret :: ws) room_1) (fun ars U => ars = #[(.int pp), (.int k)] ∧ Z.Warmed39 U.vm ∧ U.heap = h0) (fun _ _ _ _ _ => True) (fun _ U o U' => ∃ v L, o = .returned v ∧ own_law_Q Z pp k  h0 n0 v U'.heap L ∧ FrameEnd U o U' L 0 0) := by
  refine MetFree.of_bodySF (plainFor_of_name own_law_pn) hisR ?_
  intro p e s m args below meth c s₁ Bd hml0 hP hK
  obtain ⟨rfl, hZ, hh⟩ := hP
  have hx := Bd.exec
  have hby := Bd.bytes
  have hml : c.maxLocals = 5 := hml0
  have hown : s.vm.findClass "com/example/trawl/trawl/model/XmlCharsIsWhitespacePinLaw" = some m.cls := findClass_of_methodNamed Bd.named
  have hnm := (name_of_methodNamed Bd.named Bd.method).1
  have X0 : Stand p l e room_1 s m #[(.int pp), (.int k)] below meth c s₁ [] 0 0 := Stand.of_body Bd
  have e0 : s₁.heap = h0 := by rw [← hh, Bd.state]; rfl
  have N0 := Fr.nil n0
  generalize hS0 : s₁.setTop (entryFrame m #[(.int pp), (.int k)] maxLocals) = S0
  have c0 : Steps p.tables e below S0 (s₁.setTop (mkF m 0 #[.val (.int pp), .val (.int k), .unset, .unset, .unset] [])) := by rw [← hS0]; exact castTop (own_law_ef m pp k) (Steps.refl _)
  have c1 : Steps p.tables e below S0 (s₁.setTop (mkF m 7 #[.val (.int pp), .val (.int k), .unset, .unset, .unset] [(.int ((k &&& (63 : Int32)) - (16 : Int32)))])) := c0.trans (by
    refine XS.iloadN X0.here hx rfl (hb hby at_0) rfl ?_
    show Steps p.tables e below (s₁.setTop (mkF m 1 #[.val (.int pp), .val (.int k), .unset, .unset, .unset] [(.int k)])) _
    refine XS.bipush X0.here hx rfl (hb hby at_1) ?_
    show Steps p.tables e below (s₁.setTop (mkF m 3 #[.val (.int pp), .val (.int k), .unset, .unset, .unset] [(.int (63 : Int32)), (.int k)])) _
    refine XS.iand X0.here hx rfl (hb hby at_3) rfl ?_
    show Steps p.tables e below (s₁.setTop (mkF m 4 #[.val (.int pp), .val (.int k), .unset, .unset, .unset] [(.int (k &&& (63 : Int32)))])) _
    refine XS.bipush X0.here hx rfl (hb hby at_4) ?_
    show Steps p.tables e below (s₁.setTop (mkF m 6 #[.val (.int pp), .val (.int k), .unset, .unset, .unset] [(.int (16 : Int32)), (.int (k &&& (63 : Int32)))])) _
    refine XS.isub X0.here hx rfl (hb hby at_6) rfl ?_
    exact Steps.refl _)
  obtain ⟨near, hnear⟩ : ∃ z : Int32, z = ((k &&& (63 : Int32)) - (16 : Int32)) := ⟨_, rfl⟩
  rw [← hnear] at c1
  have c2 : Steps p.tables e below S0 (s₁.setTop (mkF m 9 #[.val (.int pp), .val (.int k), .val (.int near), .unset, .unset] [(.int pp)])) := c1.trans (by
    refine XS.istoreN X0.here hx rfl (hb hby at_7) rfl (l' := #[.val (.int pp), .val (.int k), .val (.int near), .unset, .unset]) rfl ?_
    show Steps p.tables e below (s₁.setTop (mkF m 8 #[.val (.int pp), .val (.int k), .val (.int near), .unset, .unset] [])) _
    refine XS.iloadN X0.here hx rfl (hb hby at_8) rfl ?_
    exact Steps.refl _)
  obtain ⟨_, _, ⟨T3, L3, k3, n3⟩, -, X3, ⟨Lc3, hQ3, l3, y3, z3⟩, st3⟩ := Jvm.LawKit.callS X0 hx (y := (⟨"com/example/trawl/trawl/model/XmlChars", "isWhitespace", "(I)Z"⟩ : MethodName)) hown (mvT hZ (hw _ (List.mem_of_getElem? (i := 0) rfl))) (mvT hZ (hw _ (List.mem_of_getElem? (i := 1) rfl))) (mvT hZ (hw _ (List.mem_of_getElem? (i := 2) rfl))) (mvT hZ (hw _ (List.mem_of_getElem? (i := 3) rfl))) (by decide) (backOf (W := 0) (own_isws l Z a0 hw [] pp h0 n0 Z0) hZ (hw _ (List.mem_of_getElem? (i := 3) rfl)) (hw _ (List.mem_of_getElem? (i := 2) rfl)) (by decide) (by decide)) (g := (mkF m 9 #[.val (.int pp), .val (.int k), .val (.int near), .unset, .unset] [(.int pp)])) rfl (by rw [hml]; rfl) (argsL := [(.int pp)]) (rest := []) (lenOf own_pd0 rfl) rfl (by show 2 * 0 + _ ≤ _; exact Nat.le_of_eq rfl) (hb hby at_9) (fun _ _ => ⟨rfl, e0, (Nat.le_of_ble_eq_true rfl), (Nat.le_of_ble_eq_true rfl)⟩)
  dsimp only [Pt.U, Pt.locs, Pt.cells, Pt.slots] at X3 l3 y3 z3 st3 hQ3
  subst l3 y3 z3
  obtain ⟨rfl, N3q, ea⟩ := hQ3
  have N3 := Fr.app N0 N3q
  have Za : n0 ≤ T3.heap.size := by rw [ea]; exact Z0
  have c4 : Steps p.tables e below S0 (T3.setTop (mkF m 12 #[.val (.int pp), .val (.int k), .val (.int near), .unset, .unset] [(.int (own_ws pp))])) := c2.trans (by
    refine st3 _ ?_
    exact Steps.refl _)
  have c5 : Steps p.tables e below S0 (T3.setTop (mkF m 13 #[.val (.int pp), .val (.int k), .val (.int near), .unset, .unset] [(.int pp), (.int (own_ws pp))])) := c4.trans (by
    refine XS.iloadN X3.here hx rfl (hb hby at_12) rfl ?_
    exact Steps.refl _)
  obtain ⟨_, _, ⟨T6, L6, k6, n6⟩, -, X6, ⟨Lc6, hQ6, l6, y6, z6⟩, st6⟩ := Jvm.LawKit.callS X3 hx (y := (⟨"com/example/trawl/trawl/model/XmlCharsIsWhitespacePinLaw", "ref", "(I)Z"⟩ : MethodName)) hown (mvT hZ (hw _ (List.mem_of_getElem? (i := 4) rfl))) (mvT hZ (hw _ (List.mem_of_getElem? (i := 5) rfl))) (mvT hZ (hw _ (List.mem_of_getElem? (i := 6) rfl))) (mvT hZ (hw _ (List.mem_of_getElem? (i := 7) rfl))) (by decide) (backOf (W := 1) (own_ref l Z a0 hw [] pp T3.heap n0 Za) hZ (hw _ (List.mem_of_getElem? (i := 7) rfl)) (hw _ (List.mem_of_getElem? (i := 6) rfl)) (by decide) (by decide)) (g := (mkF m 13 #[.val (.int pp), .val (.int k), .val (.int near), .unset, .unset] [(.int pp), (.int (own_ws pp))])) rfl (by rw [hml]; rfl) (argsL := [(.int pp)]) (rest := [(.int (own_ws pp))]) (lenOf own_pd0 rfl) rfl (by show 2 * 0 + _ ≤ _; exact Nat.le_of_eq rfl) (hb hby at_13) (fun _ _ => ⟨rfl, rfl, (Nat.le_of_ble_eq_true rfl), (Nat.le_of_ble_eq_true rfl)⟩)
  dsimp only [Pt.U, Pt.locs, Pt.cells, Pt.slots] at X6 l6 y6 z6 st6 hQ6
  subst l6 y6 z6
  obtain ⟨rfl, N6q, eb⟩ := hQ6
  have N6 := Fr.app N3 N6q
  have Zb : n0 ≤ T6.heap.size := by rw [eb]; exact Za
  have c7 : Steps p.tables e below S0 (T6.setTop (mkF m 16 #[.val (.int pp), .val (.int k), .val (.int near), .unset, .unset] [(.int (own_ws pp)), (.int (own_ws pp))])) := c5.trans (by
    refine st6 _ ?_
    exact Steps.refl _)
  have c8 : Steps p.tables e below S0 (T6.setTop (mkF m 19 #[.val (.int pp), .val (.int k), .val (.int near), .unset, .unset] [])) := c7.trans (by
    refine XS.icmpNo X6.here hx rfl (hb hby at_16) rfl (teq rfl).2 ?_
    exact Steps.refl _)
  have c9 : Steps p.tables e below S0 (T6.setTop (mkF m 26 #[.val (.int pp), .val (.int k), .val (.int near), .val (.int (1 : Int32)), .unset] [(.int near)])) := c8.trans (by
    refine XS.iconst X6.here hx rfl (hb hby at_19) ?_
    show Steps p.tables e below (T6.setTop (mkF m 20 #[.val (.int pp), .val (.int k), .val (.int near), .unset, .unset] [(.int (1 : Int32))])) _
    refine XS.goto X6.here hx rfl (pc0 := 20) (pc' := 24) rfl (hb hby at_20) (by decide) (by decide) ?_
    show Steps p.tables e below (T6.setTop (mkF m 24 #[.val (.int pp), .val (.int k), .val (.int near), .unset, .unset] [(.int (1 : Int32))])) _
    refine XS.istoreN X6.here hx rfl (hb hby at_24) rfl (l' := #[.val (.int pp), .val (.int k), .val (.int near), .val (.int (1 : Int32)), .unset]) rfl ?_
    show Steps p.tables e below (T6.setTop (mkF m 25 #[.val (.int pp), .val (.int k), .val (.int near), .val (.int (1 : Int32)), .unset] [])) _
    refine XS.iloadN X6.here hx rfl (hb hby at_25) rfl ?_
    exact Steps.refl _)
  obtain ⟨_, _, ⟨T10, L10, k10, n10⟩, -, X10, ⟨Lc10, hQ10, l10, y10, z10⟩, st10⟩ := Jvm.LawKit.callS X6 hx (y := (⟨"com/example/trawl/trawl/model/XmlChars", "isWhitespace", "(I)Z"⟩ : MethodName)) hown (mvT hZ (hw _ (List.mem_of_getElem? (i := 0) rfl))) (mvT hZ (hw _ (List.mem_of_getElem? (i := 1) rfl))) (mvT hZ (hw _ (List.mem_of_getElem? (i := 2) rfl))) (mvT hZ (hw _ (List.mem_of_getElem? (i := 3) rfl))) (by decide) (backOf (W := 0) (own_isws l Z a0 hw [] near T6.heap n0 Zb) hZ (hw _ (List.mem_of_getElem? (i := 3) rfl)) (hw _ (List.mem_of_getElem? (i := 2) rfl)) (by decide) (by decide)) (g := (mkF m 26 #[.val (.int pp), .val (.int k), .val (.int near), .val (.int (1 : Int32)), .unset] [(.int near)])) rfl (by rw [hml]; rfl) (argsL := [(.int near)]) (rest := []) (lenOf own_pd0 rfl) rfl (by show 2 * 0 + _ ≤ _; exact Nat.le_of_eq rfl) (hb hby at_26) (fun _ _ => ⟨rfl, rfl, (Nat.le_of_ble_eq_true rfl), (Nat.le_of_ble_eq_true rfl)⟩)
  dsimp only [Pt.U, Pt.locs, Pt.cells, Pt.slots] at X10 l10 y10 z10 st10 hQ10
  subst l10 y10 z10
  obtain ⟨rfl, N10q, ec⟩ := hQ10
  have N10 := Fr.app N6 N10q
  have Zc : n0 ≤ T10.heap.size := by rw [ec]; exact Zb
  have c11 : Steps p.tables e below S0 (T10.setTop (mkF m 29 #[.val (.int pp), .val (.int k), .val (.int near), .val (.int (1 : Int32)), .unset] [(.int (own_ws near))])) := c9.trans (by
    refine st10 _ ?_
    exact Steps.refl _)
  have c12 : Steps p.tables e below S0 (T10.setTop (mkF m 30 #[.val (.int pp), .val (.int k), .val (.int near), .val (.int (1 : Int32)), .unset] [(.int near), (.int (own_ws near))])) := c11.trans (by
    refine XS.iloadN X10.here hx rfl (hb hby at_29) rfl ?_
    exact Steps.refl _)
  obtain ⟨_, _, ⟨T13, L13, k13, n13⟩, -, X13, ⟨Lc13, hQ13, l13, y13, z13⟩, st13⟩ := Jvm.LawKit.callS X10 hx (y := (⟨"com/example/trawl/trawl/model/XmlCharsIsWhitespacePinLaw", "ref", "(I)Z"⟩ : MethodName)) hown (mvT hZ (hw _ (List.mem_of_getElem? (i := 4) rfl))) (mvT hZ (hw _ (List.mem_of_getElem? (i := 5) rfl))) (mvT hZ (hw _ (List.mem_of_getElem? (i := 6) rfl))) (mvT hZ (hw _ (List.mem_of_getElem? (i := 7) rfl))) (by decide) (backOf (W := 1) (own_ref l Z a0 hw [] near T10.heap n0 Zc) hZ (hw _ (List.mem_of_getElem? (i := 7) rfl)) (hw _ (List.mem_of_getElem? (i := 6) rfl)) (by decide) (by decide)) (g := (mkF m 30 #[.val (.int pp), .val (.int k), .val (.int near), .val (.int (1 : Int32)), .unset] [(.int near), (.int (own_ws near))])) rfl (by rw [hml]; rfl) (argsL := [(.int near)]) (rest := [(.int (own_ws near))]) (lenOf own_pd0 rfl) rfl (by show 2 * 0 + _ ≤ _; exact Nat.le_of_eq rfl) (hb hby at_30) (fun _ _ => ⟨rfl, rfl, (Nat.le_of_ble_eq_true rfl), (Nat.le_of_ble_eq_true rfl)⟩)
  dsimp only [Pt.U, Pt.locs, Pt.cells, Pt.slots] at X13 l13 y13 z13 st13 hQ13
  subst l13 y13 z13
  obtain ⟨rfl, N13q, ed⟩ := hQ13
  have N13 := Fr.app N10 N13q
  have Zd : n0 ≤ T13.heap.size := by rw [ed]; exact Zc
  have c14 : Steps p.tables e below S0 (T13.setTop (mkF m 33 #[.val (.int pp), .val (.int k), .val (.int near), .val (.int (1 : Int32)), .unset] [(.int (own_ws near)), (.int (own_ws near))])) := c12.trans (by
    refine st13 _ ?_
    exact Steps.refl _)
  have c15 : Steps p.tables e below S0 (T13.setTop (mkF m 36 #[.val (.int pp), .val (.int k), .val (.int near), .val (.int (1 : Int32)), .unset] [])) := c14.trans (by
    refine XS.icmpNo X13.here hx rfl (hb hby at_33) rfl (teq rfl).2 ?_
    exact Steps.refl _)
  have c16 : Steps p.tables e below S0 (T13.setTop (mkF m 44 #[.val (.int pp), .val (.int k), .val (.int near), .val (.int (1 : Int32)), .val (.int (1 : Int32))] [(.int (1 : Int32))])) := c15.trans (by
    refine XS.iconst X13.here hx rfl (hb hby at_36) ?_
    show Steps p.tables e below (T13.setTop (mkF m 37 #[.val (.int pp), .val (.int k), .val (.int near), .val (.int (1 : Int32)), .unset] [(.int (1 : Int32))])) _
    refine XS.goto X13.here hx rfl (pc0 := 37) (pc' := 41) rfl (hb hby at_37) (by decide) (by decide) ?_
    show Steps p.tables e below (T13.setTop (mkF m 41 #[.val (.int pp), .val (.int k), .val (.int near), .val (.int (1 : Int32)), .unset] [(.int (1 : Int32))])) _
    refine XS.istore X13.here hx rfl (hb hby at_41) rfl (l' := #[.val (.int pp), .val (.int k), .val (.int near), .val (.int (1 : Int32)), .val (.int (1 : Int32))]) rfl ?_
    show Steps p.tables e below (T13.setTop (mkF m 43 #[.val (.int pp), .val (.int k), .val (.int near), .val (.int (1 : Int32)), .val (.int (1 : Int32))] [])) _
    refine XS.iloadN X13.here hx rfl (hb hby at_43) rfl ?_
    exact Steps.refl _)
  have c17 : Steps p.tables e below S0 (T13.setTop (mkF m 47 #[.val (.int pp), .val (.int k), .val (.int near), .val (.int (1 : Int32)), .val (.int (1 : Int32))] [])) := c16.trans (by
    refine XS.ifNo X13.here hx rfl (hb hby at_44) rfl ((if0 _ _).trans (feq (by decide)).1) ?_
    exact Steps.refl _)
  have c18 : Steps p.tables e below S0 (T13.setTop (mkF m 49 #[.val (.int pp), .val (.int k), .val (.int near), .val (.int (1 : Int32)), .val (.int (1 : Int32))] [(.int (1 : Int32))])) := c17.trans (by
    refine XS.iload X13.here hx rfl (hb hby at_47) rfl ?_
    exact Steps.refl _)
  have c19 : Steps p.tables e below S0 (T13.setTop (mkF m 52 #[.val (.int pp), .val (.int k), .val (.int near), .val (.int (1 : Int32)), .val (.int (1 : Int32))] [])) := c18.trans (by
    refine XS.ifNo X13.here hx rfl (hb hby at_49) rfl ((if0 _ _).trans (feq (by decide)).1) ?_
    exact Steps.refl _)
  have c20 : Steps p.tables e below S0 (T13.setTop (mkF m 57 #[.val (.int pp), .val (.int k), .val (.int near), .val (.int (1 : Int32)), .val (.int (1 : Int32))] [(.int (1 : Int32))])) := c19.trans (by
    refine XS.iconst X13.here hx rfl (hb hby at_52) ?_
    show Steps p.tables e below (T13.setTop (mkF m 53 #[.val (.int pp), .val (.int k), .val (.int near), .val (.int (1 : Int32)), .val (.int (1 : Int32))] [(.int (1 : Int32))])) _
    refine XS.goto X13.here hx rfl (pc0 := 53) (pc' := 57) rfl (hb hby at_53) (by decide) (by decide) ?_
    exact Steps.refl _)
  obtain ⟨fs, hr, hrun, hended, hW, hsame⟩ := X13.leave (v := some (.int (1 : Int32))) (fun h => by rw [Bd.returns] at h; cases h)
  exact ⟨_, _, c20.trans (retN X13 hx (t := .boolean) Bd.returns (by simp) (hb hby at_57) hr), hrun, hended, _, _, rfl, ⟨rfl, N13⟩, ⟨_, rfl⟩, hW, hsame.mono (by decide) (by decide)⟩
set_option maxRecDepth 65536 in
set_option maxHeartbeats 40000000 in
theorem own_comes {Post : Tables → Env → Array Value → State → Outcome → State → Prop} (hpost : ∀ tb e args s v u, (limb_1_1.after args s (.returned v) u = true ∧ limb_1_2.after args s (.returned v) u = true) → FrameEnd s (.returned v) u (Jvm.fieldLocs frame_1_writes args s ++ Jvm.arrayLocs frame_1_arrays args s ++ Jvm.staticLocs frame_1_statics s) 0 0 → Post tb e args s (.returned v) u) :
    ArmFor flags0 classFile x code maxLocals ret World_1 tables_1 room_1 Calls_1 rest_1 Pre_1 Post := by
  intro l hfl _ _ p e ha hc hk s m args below hf hA hF happ hP
  obtain ⟨hcalls, hrest, hpre⟩ := hP
  obtain ⟨-, -, -, hnamed, -, -, -, hat⟩ := (Spec.applies_iff hf).mp happ
  obtain ⟨hg, hn⟩ := and_e (Cond.before_iff.mp (show (Jvm.Cond.and given_1 narrow_1).before args s = true from hpre))
  obtain ⟨hcount, hgs⟩ := and_e hg
  obtain ⟨hi0, hgs0⟩ := and_e hgs
  obtain ⟨w0, w1, rfl⟩ : ∃ w0 w1 : Value, args = #[w0, w1] := by
    have hs : args.size = 2 := by simpa [Cond.value, given_1] using hcount
    obtain ⟨L⟩ := args
    match L, hs with
    | [w0, w1], _ => exact ⟨w0, w1, rfl⟩
  have hw := fun d (hd : d ∈ tables_1) => atoms_spec (ws := Jvm.Cond.code x code maxLocals ret :: tables_1) hat d (List.mem_cons_of_mem _ hd)
  have hfit : Fit s := fun {y c} hc i hi => by
    obtain ⟨ha, rfl⟩ := Array.getElem?_eq_some_iff.mp hc
    have q := List.all_eq_true.mp ((Array.all_eq_true_iff_forall_mem.mp hF) _ (Array.getElem_mem ha)) i (List.mem_range.mpr hi)
    simpa [Array.getElem?_eq_getElem hi] using q
  obtain ⟨i0, ei0⟩ := is_v hi0
  obtain rfl : w0 = (.int i0) := Option.some.inj ei0
  obtain ⟨i1, ei1⟩ := is_v hgs0
  obtain rfl : w1 = (.int i1) := Option.some.inj ei1
  obtain ⟨n, o, h1, h2, h3, _, L, rfl, ⟨rfl, N⟩, hq⟩ := own_law l s _ hw tables_1 i0 i1 s.heap s.heap.size (Nat.le_refl _) p e ha hc hk s m _ below hf ((Spec.applies_iff_loose hf).mp happ).1 ⟨rfl, State.Warmed39.refl s, rfl⟩ trivial
  exact ⟨n, _, h1, h2, h3, hpost _ _ _ _ _ _ ⟨Cond.after_iff.mpr rfl, Cond.after_iff.mpr (eq_i res_at (Term.int_eval (1)) rfl)⟩ ⟨hq.1, hq.2.1, (hq.2.2.sift fun y hy => Or.inr (N y hy)).mono (by decide) (by decide)⟩⟩
theorem main_1_1 : Claimed_1_1 := own_comes fun _ _ _ _ _ _ h hF => ⟨h.1, hF⟩
theorem main_1_2 : Claimed_1_2 := own_comes fun _ _ _ _ _ _ h hF => ⟨h.2, hF⟩
end Jvm.Pilot.@@N@@
namespace Jvm.Pilot.@@N@@
open Jvm Jvm.ClassFile Sem Op Lib Jvm.Free Jvm.Stand Jvm.Pilot.@@N@@.Jvm.D
/-! MADE BY PROGRAM (witnessworld.py) out of the Statement's table words and the real class files: 9 classes; the members and pool entries that the words name. The judged class is class 1, her method 2. -/
namespace start1
open Jvm.ClassFile
def u (s : String) : CpInfo := .utf8 (stringToUtf16 s)
/-- a pool by its gaps: so many unusable entries, then the entry; so many at the end -/
def gap : Nat → List CpInfo → List CpInfo
  | 0, r => r
  | n + 1, r => .unusable :: gap n r
def poolList (es : List (Nat × CpInfo)) (last : Nat) : List CpInfo := es.foldr (fun e r => gap e.1 (e.2 :: r)) (gap last [])
def pool (es : List (Nat × CpInfo)) (last : Nat) : Array CpInfo := ⟨poolList es last⟩
def fileOf (pool : Array CpInfo) (this : Nat) (attrs : Array Attribute := #[]) (ms : Array MethodInfo := #[]) (fl : Nat := 33) (sup : Nat := 0) (ifs : Array Nat := #[]) (fds : Array FieldInfo := #[]) : ClassFile where
  minorVersion := 0
  majorVersion := 65
  constantPool := pool
  accessFlags := fl
  thisClass := this
  superClass := sup
  interfaces := ifs
  fields := fds
  methods := ms
  attributes := attrs
def plain (name : String) (sup : Option ClassId) : Class where
  name := name
  kind := .ordinary
  loader := none
  accessFlags := 33
  super := sup
  interfaces := #[]
  cf := none
  fields := #[]
  methods := #[]
  instanceTypes := #[]
  staticTypes := #[]
  resolved := #[]
  callSites := []
  init := .initialized
  statics := none
  mirror := none

def pool0 : Array CpInfo := pool [(5, u "<init>"), (0, u "()V"), (1, .class_ 10), (1, u "java/lang/Object")] 113

def k0m0 : Method := { name := "<init>", desc := "()V", sig := { parameters := [], returnType := none }, accessFlags := 1, code := none }
/-- java/lang/Object -/
def k0 : Class := { plain "java/lang/Object" none with
  accessFlags := 33
  interfaces := #[]
  cf := some (fileOf pool0 8 #[] #[{ accessFlags := 1, nameIndex := 5, descriptorIndex := 6, attributes := #[] }] 33 0 #[] #[])
  fields := #[]
  methods := #[k0m0]
  instanceTypes := #[]
  staticTypes := #[]
  resolved := Array.replicate 124 none
  statics := none }

def pool1 : Array CpInfo := pool [(2, .class_ 4), (1, u "java/lang/Object"), (0, u "<init>"), (0, u "()V"), (0, .long 4294977024), (1, .methodref 10 11), (0, .class_ 12), (0, .nameAndType 13 14), (0, u "com/example/trawl/trawl/model/XmlChars"), (0, u "isWhitespace"), (0, u "(I)Z"), (0, .methodref 16 17), (0, .class_ 18), (0, .nameAndType 19 14), (0, u "com/example/trawl/trawl/model/XmlCharsIsWhitespacePinLaw"), (0, u "ref"), (3, u "law"), (0, u "(II)Z")] 2

def k1m0 : Method := { name := "<init>", desc := "()V", sig := { parameters := [], returnType := none }, accessFlags := 2, code := none }
def k1c1 : Code := { maxStack := 4, maxLocals := 3, code := method_2_code, exceptionTable := #[], attributes := #[] }
def k1m1 : Method := { name := "ref", desc := "(I)Z", sig := { parameters := [.int], returnType := some .boolean }, accessFlags := 10, code := some k1c1 }
def k1c2 : Code := { maxStack := 2, maxLocals := 5, code := code, exceptionTable := #[], attributes := #[] }
def k1m2 : Method := { name := "law", desc := "(II)Z", sig := { parameters := [.int, .int], returnType := some .boolean }, accessFlags := 9, code := some k1c2 }
/-- com/example/trawl/trawl/model/XmlCharsIsWhitespacePinLaw -/
def k1 : Class := { plain "com/example/trawl/trawl/model/XmlCharsIsWhitespacePinLaw" (some 0) with
  accessFlags := 49
  interfaces := #[]
  cf := some (fileOf pool1 16 #[] #[{ accessFlags := 2, nameIndex := 5, descriptorIndex := 6, attributes := #[] }, { accessFlags := 10, nameIndex := 19, descriptorIndex := 14, attributes := #[] }, { accessFlags := 9, nameIndex := 23, descriptorIndex := 24, attributes := #[] }] 49 2 #[] #[])
  fields := #[]
  methods := #[k1m0, k1m1, k1m2]
  instanceTypes := #[]
  staticTypes := #[]
  resolved := Array.replicate 27 none
  statics := none }

def pool2 : Array CpInfo := pool [(2, .class_ 4), (1, u "java/lang/Object"), (0, u "<init>"), (0, u "()V"), (6, .class_ 15), (1, u "com/example/trawl/trawl/model/XmlChars"), (0, u "NAME_START_RANGES"), (0, u "[I"), (17, u "(I)Z"), (35, u "NAME_RANGES"), (8, u "isWhitespace")] 5

def k2m0 : Method := { name := "<init>", desc := "()V", sig := { parameters := [], returnType := none }, accessFlags := 2, code := none }
def k2c1 : Code := { maxStack := 2, maxLocals := 1, code := prog_86_method_3_code, exceptionTable := #[], attributes := #[] }
def k2m1 : Method := { name := "isWhitespace", desc := "(I)Z", sig := { parameters := [.int], returnType := some .boolean }, accessFlags := 9, code := some k2c1 }
/-- com/example/trawl/trawl/model/XmlChars -/
def k2 : Class := { plain "com/example/trawl/trawl/model/XmlChars" (some 0) with
  accessFlags := 49
  interfaces := #[]
  cf := some (fileOf pool2 13 #[] #[{ accessFlags := 2, nameIndex := 5, descriptorIndex := 6, attributes := #[] }, { accessFlags := 9, nameIndex := 80, descriptorIndex := 35, attributes := #[] }] 49 2 #[] #[{ accessFlags := 26, nameIndex := 16, descriptorIndex := 17, attributes := #[] }, { accessFlags := 26, nameIndex := 71, descriptorIndex := 17, attributes := #[] }])
  fields := #[{ name := "NAME_START_RANGES", type := (.array .int), accessFlags := 26, slot := 0, constantValue := 0 }, { name := "NAME_RANGES", type := (.array .int), accessFlags := 26, slot := 1, constantValue := 0 }]
  methods := #[k2m0, k2m1]
  instanceTypes := #[]
  staticTypes := #[(.array .int), (.array .int)]
  resolved := Array.replicate 86 none
  statics := none }

def pool3 : Array CpInfo := pool [(1, u "java/lang/Cloneable"), (0, .class_ 1), (0, u "java/lang/Object"), (0, .class_ 3)] 3

/-- java/lang/Cloneable -/
def k3 : Class := { plain "java/lang/Cloneable" (some 0) with
  accessFlags := 1537
  interfaces := #[]
  cf := some (fileOf pool3 2 #[] #[] 1537 4 #[] #[])
  fields := #[]
  methods := #[]
  instanceTypes := #[]
  staticTypes := #[]
  resolved := Array.replicate 8 none
  statics := none }

def pool4 : Array CpInfo := pool [(1, u "java/io/Serializable"), (0, .class_ 1), (0, u "java/lang/Object"), (0, .class_ 3)] 3

/-- java/io/Serializable -/
def k4 : Class := { plain "java/io/Serializable" (some 0) with
  accessFlags := 1537
  interfaces := #[]
  cf := some (fileOf pool4 2 #[] #[] 1537 4 #[] #[])
  fields := #[]
  methods := #[]
  instanceTypes := #[]
  staticTypes := #[]
  resolved := Array.replicate 8 none
  statics := none }

/-- the primitive byte -/
def k5 : Class := { plain "byte" none with kind := .primitive 'B', accessFlags := 0x411 }
/-- [B -/
def k6 : Class := { plain "[B" (some 0) with kind := .array 5 .byte, interfaces := #[3, 4], accessFlags := 1041 }

/-- the primitive int -/
def k7 : Class := { plain "int" none with kind := .primitive 'I', accessFlags := 0x411 }
/-- [I -/
def k8 : Class := { plain "[I" (some 0) with kind := .array 7 .int, interfaces := #[3, 4], accessFlags := 1041 }

def heap : Heap := #[]
def classes : Array Class := #[k0, k1, k2, k3, k4, k5, k6, k7, k8]
def interned : List (Array UInt16 × Addr) := []
def slotsUsed : Nat := 0
def theMethod : MethodId := ⟨1, 2⟩
def args0 : Array Value := #[.int 5, .int 7]
def aboutOver (below : List Frame) : State where
  vm := { classes := classes, interned := interned.toArray }
  heap := heap
  slotsUsed := slotsUsed
  threads := #[{ frames := .invoking theMethod args0 :: below }]
def below0 : List Frame := [.native { method := ⟨0, 0⟩, args := #[] }]
def about1 : State := aboutOver below0
def p0 : Program := .bare "" "" ""
def e0 : Env := launch0.env 0 0 0
theorem w_frames : about1.frames = Frame.invoking theMethod args0 :: below0 := rfl
set_option maxRecDepth 65536 in
theorem w_args : argsFit about1.vm theMethod args0 = true := by decide +kernel
set_option maxRecDepth 65536 in
theorem w_heap : heapFits about1 = true := by decide +kernel
set_option maxRecDepth 65536 in
theorem w_runnable : about1.curStatus? = some .runnable := by decide +kernel
set_option maxRecDepth 65536 in
theorem w_alone : about1.alone = true := by decide +kernel
set_option maxRecDepth 65536 in
theorem w_named : about1.methodNamed? x = some theMethod := by decide +kernel
set_option maxRecDepth 65536 in
theorem w_hears : about1.hears theMethod below0 = true := by decide +kernel
set_option maxRecDepth 65536 in
theorem w_ripe : about1.ripe theMethod args0 below0 = true := by decide +kernel
theorem w_running : about1.status = .running := rfl
set_option maxRecDepth 65536 in
theorem w_room : about1.hasRoom e0.platform room_1 = true :=
  launch0.hasRoom_least _ room_1 (by decide +kernel) (by decide +kernel) (by decide +kernel) (by decide +kernel) (by decide +kernel) (by decide +kernel)
theorem allAtoms_all (ts : List Jvm.Cond) (a : Array Jvm.Value) (st : Jvm.State) : (allAtoms ts).before a st = ts.all (fun c => c.before a st) := by
  induction ts with
  | nil => rfl
  | cons c t ih =>
    show (Jvm.Cond.and c (allAtoms t)).before a st = _
    rw [Jvm.Cond.before_and, ih, List.all_cons]
def words1 : List Jvm.Cond := Jvm.Cond.code x code maxLocals ret :: tables_1
/-- a 'code' word, met by the world's own term for the bytes: nothing is compared byte by byte -/
theorem code_word {y : MethodName} {bytes : ByteArray} {mx : Nat} {rt : Option FieldType} {a : Array Value} {s : State} {m : MethodId} {meth : Method} {c : Code} (h1 : s.methodNamed? y = some m) (h2 : s.vm.method? m = some meth) (h3 : meth.code = some c) (h4 : c.code = bytes)
    (h5 : (c.maxLocals == mx && c.exceptionTable.isEmpty && decide (c.maxStack ≤ mostOperands) && decide (meth.sig.returnType = rt) && !meth.locks && decide (parseMethodDescriptor y.desc = some meth.sig)) = true) : (Jvm.Cond.code y bytes mx rt).before a s = true := by
  simp only [Bool.and_eq_true, beq_iff_eq, Bool.not_eq_true', decide_eq_true_eq] at h5
  obtain ⟨⟨⟨⟨⟨g1, g2⟩, g3⟩, g4⟩, g5⟩, g6⟩ := h5
  simp [Cond.before, Cond.holds, Cond.value, h1, h2, h3, h4, g1, g2, g3, g4, g5, g6]
def isCode : Jvm.Cond → Bool
  | .code _ _ _ _ => true
  | _ => false
theorem all_split {L : List Jvm.Cond} {P : Jvm.Cond → Bool} (h1 : L.all (fun c => isCode c || P c) = true) (h2 : ∀ c ∈ L.filter isCode, P c = true) : L.all P = true := by
  refine List.all_eq_true.mpr fun c hc => ?_
  have h := List.all_eq_true.mp h1 c hc
  rcases Bool.eq_false_or_eq_true (isCode c) with hi | hi
  · exact h2 c (List.mem_filter.mpr ⟨hc, hi⟩)
  · simpa [hi] using h
set_option maxRecDepth 65536 in
theorem w_c0 : (Jvm.Cond.code x code maxLocals ret).before args0 about1 = true := code_word (m := ⟨1, 2⟩) (meth := k1m2) (c := k1c2) (by decide +kernel) rfl rfl rfl (by decide +kernel)
set_option maxRecDepth 65536 in
theorem w_c1 : (Jvm.Cond.code ({ cls := "com/example/trawl/trawl/model/XmlChars", name := "isWhitespace", desc := "(I)Z" } : Jvm.MethodName) prog_86_method_3_code (1 : Nat) (Option.some Jvm.ClassFile.FieldType.boolean)).before args0 about1 = true := code_word (m := ⟨2, 1⟩) (meth := k2m1) (c := k2c1) (by decide +kernel) rfl rfl rfl (by decide +kernel)
set_option maxRecDepth 65536 in
theorem w_c2 : (Jvm.Cond.code ({ cls := "com/example/trawl/trawl/model/XmlCharsIsWhitespacePinLaw", name := "ref", desc := "(I)Z" } : Jvm.MethodName) method_2_code (3 : Nat) (Option.some Jvm.ClassFile.FieldType.boolean)).before args0 about1 = true := code_word (m := ⟨1, 1⟩) (meth := k1m1) (c := k1c1) (by decide +kernel) rfl rfl rfl (by decide +kernel)
def codes1 : List Jvm.Cond := [Jvm.Cond.code x code maxLocals ret, Jvm.Cond.code ({ cls := "com/example/trawl/trawl/model/XmlChars", name := "isWhitespace", desc := "(I)Z" } : Jvm.MethodName) prog_86_method_3_code (1 : Nat) (Option.some Jvm.ClassFile.FieldType.boolean), Jvm.Cond.code ({ cls := "com/example/trawl/trawl/model/XmlCharsIsWhitespacePinLaw", name := "ref", desc := "(I)Z" } : Jvm.MethodName) method_2_code (3 : Nat) (Option.some Jvm.ClassFile.FieldType.boolean)]
set_option maxRecDepth 65536 in
theorem codes_eq : words1.filter isCode = codes1 := rfl
theorem w_codes : ∀ c ∈ words1.filter isCode, c.before args0 about1 = true := by
  rw [codes_eq]
  intro c hc
  simp only [codes1, List.mem_cons, List.not_mem_nil, or_false] at hc
  rcases hc with rfl | rfl | rfl
  · exact w_c0
  · exact w_c1
  · exact w_c2
set_option maxRecDepth 65536 in
theorem w_t1 : words1.all (fun c => isCode c || c.before args0 about1) = true := by decide +kernel
theorem w_tables : (allAtoms (Jvm.Cond.code x code maxLocals ret :: tables_1)).before args0 about1 = true := by
  rw [allAtoms_all]
  show words1.all (fun c => c.before args0 about1) = true
  refine all_split ?_ w_codes
  rw [w_t1]
set_option maxRecDepth 65536 in
theorem w_case : (Jvm.Cond.and given_1 narrow_1).before args0 about1 = true := by decide +kernel
theorem w_applies : (headSpec (Jvm.Cond.code x code maxLocals ret :: tables_1) room_1).applies x e0.platform about1 = true :=
  (Spec.applies_iff w_frames).mpr ⟨w_running, w_runnable, w_alone, w_named, w_hears, w_ripe, w_room, w_tables⟩
theorem atStart : AtStart classFile x code maxLocals ret World_1 tables_1 room_1 Calls_1 rest_1 Pre_1 launch0 p0 e0 about1 theMethod args0 below0 :=
  ⟨lists_1, trivial, launch0.admits_env _ _ _, launch0.least_env, fairChoices_fair.cas, fairChoices_fair.clock, w_frames, w_args, w_heap, w_applies, trivial, trivial, w_case⟩
end start1
theorem witness_1 : WitnessClaimed_1 := ⟨start1.p0, start1.e0, start1.about1, start1.theMethod, start1.args0, start1.below0, start1.atStart⟩
end Jvm.Pilot.@@N@@
