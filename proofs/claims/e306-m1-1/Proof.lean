import JvmDerived
import JvmDerived.Pilot.@@N@@Statement
import JvmDerived.Pilot.@@N@@Code
set_option linter.unusedVariables false
set_option linter.unusedSimpArgs false
@@BLOCK:NumsL.lean.txt@@
@@BLOCK:Masks.lean.txt@@
namespace Jvm.Pilot.@@N@@
open Jvm Jvm.ClassFile Sem Op Lib Jvm.Free Jvm.Stand Jvm.LawKit Jvm.RoadKit Bundle Jvm.Pilot.@@N@@.Jvm.D
theorem own_pd0 : parseMethodDescriptor "(I)Z" = some ⟨[.int], some .boolean⟩ := by decide +kernel
def own_P (n : Int) : Prop := n = 9 ∨ n = 10 ∨ n = 13 ∨ (32 ≤ n ∧ n ≤ 55295) ∨ (57344 ≤ n ∧ n ≤ 65533) ∨ (65536 ≤ n ∧ n ≤ 1114111)
instance (n : Int) : Decidable (own_P n) := by unfold own_P; infer_instance
def own_ic (pp : Int32) : Int32 := if own_P pp.toInt then 1 else 0
def own_ex (pp : Int32) : Int32 := if own_P pp.toInt then 0 else 1
theorem own_ic1 {pp : Int32} (h : own_P pp.toInt) : own_ic pp = 1 := if_pos h
theorem own_ic0 {pp : Int32} (h : ¬ own_P pp.toInt) : own_ic pp = 0 := if_neg h
theorem own_ex0 {pp : Int32} (h : own_P pp.toInt) : own_ex pp = 0 := if_pos h
theorem own_ex1 {pp : Int32} (h : ¬ own_P pp.toInt) : own_ex pp = 1 := if_neg h
theorem own_eqi {p k : Int32} {n : Int} (hk : k.toInt = n) : p = k ↔ p.toInt = n := by rw [← hk, Int32.toInt_inj]
theorem own_lti {p k : Int32} {n : Int} (hk : k.toInt = n) : p < k ↔ p.toInt < n := by rw [← hk, Int32.lt_iff_toInt_lt]
theorem own_gti {p k : Int32} {n : Int} (hk : k.toInt = n) : k < p ↔ n < p.toInt := by rw [← hk, Int32.lt_iff_toInt_lt]
/-- an int[] of n places, whatever they hold -/
def own_IA (Z : State) (h : Heap) (a : Addr) (n : Nat) : Prop := ∃ cl : Cell, Arr Z h a cl .int ∧ cl.slots.size = n ∧ ∀ i, i < n → ∃ z : Int32, cl.slots[i]? = some (.int z)
theorem own_IA_new {Z : State} {h : Heap} {a : Addr} {k : ClassId} {z : Int32} {n : Nat} (A : Arr Z h a (newA k .int z) .int) (hz : z.toNatClampNeg = n) : own_IA Z h a n := by
  refine ⟨_, A, by rw [sz_new, hz], fun i hi => ⟨0, ?_⟩⟩
  show (Array.replicate z.toNatClampNeg (defaultValue .int))[i]? = _
  rw [hz]; simp [hi, defaultValue]
theorem own_IA_in {cl : Cell} {n : Nat} {j : Int32} (hs : cl.slots.size = n) (h0 : ¬ j < 0) (h1 : j.toNatClampNeg < n) : ¬ (j < 0 ∨ cl.slots.size ≤ j.toNatClampNeg) := by
  rintro (q | q)
  · exact h0 q
  · omega
theorem own_IA_set {Z : State} {h h' : Heap} {a : Addr} {cl : Cell} {n j : Nat} {x : Int32} (A : Arr Z h a cl .int) (hs : cl.slots.size = n) (hv : ∀ i, i < n → ∃ z : Int32, cl.slots[i]? = some (.int z)) (W : Wr h h' a j (.int x)) (hj : j < n) : own_IA Z h' a n := by
  refine ⟨_, A.same W, by rw [sz_set, hs], fun i hi => ?_⟩
  by_cases q : j = i
  · subst q; exact ⟨x, Cell.slots_setSlot_self _ (by omega)⟩
  · obtain ⟨z, hz⟩ := hv i hi
    exact ⟨z, by rw [Cell.slots_setSlot_ne _ q]; exact hz⟩
theorem own_and15 (k : Int32) : ¬ (k &&& 15) < 0 ∧ (k &&& 15).toNatClampNeg < 16 := by
  have e : (k &&& 15).toInt = k.toInt % 2 ^ 4 := Jvm.Kit.i32_mask k 15 (k := 4) (by decide) (by decide)
  refine ⟨fun q => ?_, ?_⟩
  · rw [Int32.lt_iff_toInt_lt] at q; have : (0 : Int32).toInt = 0 := rfl
    omega
  · show (k &&& 15).toInt.toNat < 16
    omega
theorem own_da0 : decode prog_86_method_2_code 0 = .ok (.iload_n 0, 1) := by decide +kernel
theorem own_da1 : decode prog_86_method_2_code 1 = .ok (.bipush 9, 2) := by decide +kernel
theorem own_da3 : decode prog_86_method_2_code 3 = .ok (.if_icmp .eq 51, 3) := by decide +kernel
theorem own_da6 : decode prog_86_method_2_code 6 = .ok (.iload_n 0, 1) := by decide +kernel
theorem own_da7 : decode prog_86_method_2_code 7 = .ok (.bipush 10, 2) := by decide +kernel
theorem own_da9 : decode prog_86_method_2_code 9 = .ok (.if_icmp .eq 45, 3) := by decide +kernel
theorem own_da12 : decode prog_86_method_2_code 12 = .ok (.iload_n 0, 1) := by decide +kernel
theorem own_da13 : decode prog_86_method_2_code 13 = .ok (.bipush 13, 2) := by decide +kernel
theorem own_da15 : decode prog_86_method_2_code 15 = .ok (.if_icmp .eq 39, 3) := by decide +kernel
theorem own_da18 : decode prog_86_method_2_code 18 = .ok (.iload_n 0, 1) := by decide +kernel
theorem own_da19 : decode prog_86_method_2_code 19 = .ok (.bipush 32, 2) := by decide +kernel
theorem own_da21 : decode prog_86_method_2_code 21 = .ok (.if_icmp .lt 9, 3) := by decide +kernel
theorem own_da24 : decode prog_86_method_2_code 24 = .ok (.iload_n 0, 1) := by decide +kernel
theorem own_da25 : decode prog_86_method_2_code 25 = .ok (.ldc 7, 2) := by decide +kernel
theorem own_da27 : decode prog_86_method_2_code 27 = .ok (.if_icmp .le 27, 3) := by decide +kernel
theorem own_da30 : decode prog_86_method_2_code 30 = .ok (.iload_n 0, 1) := by decide +kernel
theorem own_da31 : decode prog_86_method_2_code 31 = .ok (.ldc 8, 2) := by decide +kernel
theorem own_da33 : decode prog_86_method_2_code 33 = .ok (.if_icmp .lt 9, 3) := by decide +kernel
theorem own_da36 : decode prog_86_method_2_code 36 = .ok (.iload_n 0, 1) := by decide +kernel
theorem own_da37 : decode prog_86_method_2_code 37 = .ok (.ldc 9, 2) := by decide +kernel
theorem own_da39 : decode prog_86_method_2_code 39 = .ok (.if_icmp .le 15, 3) := by decide +kernel
theorem own_da42 : decode prog_86_method_2_code 42 = .ok (.iload_n 0, 1) := by decide +kernel
theorem own_da43 : decode prog_86_method_2_code 43 = .ok (.ldc 10, 2) := by decide +kernel
theorem own_da45 : decode prog_86_method_2_code 45 = .ok (.if_icmp .lt 13, 3) := by decide +kernel
theorem own_da48 : decode prog_86_method_2_code 48 = .ok (.iload_n 0, 1) := by decide +kernel
theorem own_da49 : decode prog_86_method_2_code 49 = .ok (.ldc 11, 2) := by decide +kernel
theorem own_da51 : decode prog_86_method_2_code 51 = .ok (.if_icmp .gt 7, 3) := by decide +kernel
theorem own_da54 : decode prog_86_method_2_code 54 = .ok (.iconst 1, 1) := by decide +kernel
theorem own_da55 : decode prog_86_method_2_code 55 = .ok (.goto 4, 3) := by decide +kernel
theorem own_da58 : decode prog_86_method_2_code 58 = .ok (.iconst 0, 1) := by decide +kernel
theorem own_da59 : decode prog_86_method_2_code 59 = .ok (.ireturn, 1) := by decide +kernel
theorem own_isc_pn : plainName "com/example/trawl/trawl/model/XmlChars" = true := by first | (simp [plainName, overriddenIn]; done) | decide +kernel
theorem own_isc_ef (m : MethodId) (pp : Int32) : entryFrame m #[(.int pp)] 1 = mkF m 0 #[.val (.int pp)] [] := by first | (simp [entryFrame, mkF, argsToLocals, Value.category]; done) | rfl
def own_isc_Q (Z : State) (pp : Int32) (h0 : Heap) (n0 : Nat) (v : Option Value) (h : Heap) (L : List Loc) : Prop := v = some (.int (own_ic pp)) ∧ Fr n0 L ∧ h = h0
set_option maxRecDepth 65536 in
set_option maxHeartbeats 40000000 in
theorem own_isc (l : Launch) (Z : State) (a0 : Array Value) (hw : ∀ d ∈ tables_1, d.before a0 Z = true) (ws : List Jvm.Cond) (pp : Int32) (h0 : Heap) (n0 : Nat) (Z0 : n0 ≤ h0.size) :
    MetFree l (⟨"com/example/trawl/trawl/model/XmlChars", "isChar", "(I)Z"⟩ : MethodName) (head1 (Jvm.Cond.code (⟨"com/example/trawl/trawl/model/XmlChars", "isChar", "(I)Z"⟩ : MethodName) prog_86_method_2_code 1 (some .boolean) :: ws) ({ frames := 0, cells := 0, slots := 0, locals := 0 } : Room)) (fun ars U => ars = #[(.int pp)] ∧ Z.Warmed39 U.vm ∧ U.heap = h0) (fun _ _ _ _ _ => True) (fun _ U o U' => ∃ v L, o = .returned v ∧ own_isc_Q Z pp  h0 n0 v U'.heap L ∧ FrameEnd U o U' L ({ frames := 0, cells := 0, slots := 0, locals := 0 } : Room).cells ({ frames := 0, cells := 0, slots := 0, locals := 0 } : Room).slots) := by
  refine MetFree.of_bodySF (plainFor_of_name own_isc_pn) hisR ?_
  intro p e s m args below meth c s₁ Bd hml0 hP hK
  obtain ⟨rfl, hZ, hh⟩ := hP
  have hx := Bd.exec
  have hby := Bd.bytes
  have hml : c.maxLocals = 1 := hml0
  have hown : s.vm.findClass "com/example/trawl/trawl/model/XmlChars" = some m.cls := findClass_of_methodNamed Bd.named
  have hnm := (name_of_methodNamed Bd.named Bd.method).1
  have X0 : Stand p l e ({ frames := 0, cells := 0, slots := 0, locals := 0 } : Room) s m #[(.int pp)] below meth c s₁ [] 0 0 := Stand.of_body Bd
  have e0 : s₁.heap = h0 := by rw [← hh, Bd.state]; rfl
  have N0 := Fr.nil n0
  generalize hS0 : s₁.setTop (entryFrame m #[(.int pp)] 1) = S0
  have c0 : Steps p.tables e below S0 (s₁.setTop (mkF m 0 #[.val (.int pp)] [])) := by rw [← hS0]; exact castTop (own_isc_ef m pp) (Steps.refl _)
  have c1 : Steps p.tables e below S0 (s₁.setTop (mkF m 3 #[.val (.int pp)] [(.int (9 : Int32)), (.int pp)])) := c0.trans (by
    refine XS.iloadN X0.here hx rfl (hb hby own_da0) rfl ?_
    show Steps p.tables e below (s₁.setTop (mkF m 1 #[.val (.int pp)] [(.int pp)])) _
    refine XS.bipush X0.here hx rfl (hb hby own_da1) ?_
    exact Steps.refl _)
  by_cases hb3 : pp = (9 : Int32)
  · have c2 : Steps p.tables e below S0 (s₁.setTop (mkF m 54 #[.val (.int pp)] [])) := c1.trans (by
      refine XS.icmpYes X0.here hx rfl (pc0 := 3) (pc' := 54) rfl (hb hby own_da3) rfl (teq hb3).1 (by decide) (by decide) ?_
      exact Steps.refl _)
    have c3 : Steps p.tables e below S0 (s₁.setTop (mkF m 59 #[.val (.int pp)] [(.int (1 : Int32))])) := c2.trans (by
      refine XS.iconst X0.here hx rfl (hb hby own_da54) ?_
      show Steps p.tables e below (s₁.setTop (mkF m 55 #[.val (.int pp)] [(.int (1 : Int32))])) _
      refine XS.goto X0.here hx rfl (pc0 := 55) (pc' := 59) rfl (hb hby own_da55) (by decide) (by decide) ?_
      exact Steps.refl _)
    have hP : own_P pp.toInt := by
      rw [(own_eqi (show (9 : Int32).toInt = 9 by decide))] at hb3
      unfold own_P; omega
    obtain ⟨fs, hr, hrun, hended, hW, hsame⟩ := X0.leave (v := some (.int (1 : Int32))) (fun h => by rw [Bd.returns] at h; cases h)
    exact ⟨_, _, c3.trans (retN X0 hx (t := .boolean) Bd.returns (by simp) (hb hby own_da59) hr), hrun, hended, _, _, rfl, ⟨by rw [own_ic1 hP], N0, e0⟩, ⟨_, rfl⟩, hW, hsame.mono (by decide) (by decide)⟩
  · have c4 : Steps p.tables e below S0 (s₁.setTop (mkF m 6 #[.val (.int pp)] [])) := c1.trans (by
      refine XS.icmpNo X0.here hx rfl (hb hby own_da3) rfl (feq hb3).1 ?_
      exact Steps.refl _)
    have c5 : Steps p.tables e below S0 (s₁.setTop (mkF m 9 #[.val (.int pp)] [(.int (10 : Int32)), (.int pp)])) := c4.trans (by
      refine XS.iloadN X0.here hx rfl (hb hby own_da6) rfl ?_
      show Steps p.tables e below (s₁.setTop (mkF m 7 #[.val (.int pp)] [(.int pp)])) _
      refine XS.bipush X0.here hx rfl (hb hby own_da7) ?_
      exact Steps.refl _)
    by_cases hb9 : pp = (10 : Int32)
    · have c6 : Steps p.tables e below S0 (s₁.setTop (mkF m 54 #[.val (.int pp)] [])) := c5.trans (by
        refine XS.icmpYes X0.here hx rfl (pc0 := 9) (pc' := 54) rfl (hb hby own_da9) rfl (teq hb9).1 (by decide) (by decide) ?_
        exact Steps.refl _)
      have c7 : Steps p.tables e below S0 (s₁.setTop (mkF m 59 #[.val (.int pp)] [(.int (1 : Int32))])) := c6.trans (by
        refine XS.iconst X0.here hx rfl (hb hby own_da54) ?_
        show Steps p.tables e below (s₁.setTop (mkF m 55 #[.val (.int pp)] [(.int (1 : Int32))])) _
        refine XS.goto X0.here hx rfl (pc0 := 55) (pc' := 59) rfl (hb hby own_da55) (by decide) (by decide) ?_
        exact Steps.refl _)
      have hP : own_P pp.toInt := by
        rw [(own_eqi (show (9 : Int32).toInt = 9 by decide))] at hb3
        rw [(own_eqi (show (10 : Int32).toInt = 10 by decide))] at hb9
        unfold own_P; omega
      obtain ⟨fs, hr, hrun, hended, hW, hsame⟩ := X0.leave (v := some (.int (1 : Int32))) (fun h => by rw [Bd.returns] at h; cases h)
      exact ⟨_, _, c7.trans (retN X0 hx (t := .boolean) Bd.returns (by simp) (hb hby own_da59) hr), hrun, hended, _, _, rfl, ⟨by rw [own_ic1 hP], N0, e0⟩, ⟨_, rfl⟩, hW, hsame.mono (by decide) (by decide)⟩
    · have c8 : Steps p.tables e below S0 (s₁.setTop (mkF m 12 #[.val (.int pp)] [])) := c5.trans (by
        refine XS.icmpNo X0.here hx rfl (hb hby own_da9) rfl (feq hb9).1 ?_
        exact Steps.refl _)
      have c9 : Steps p.tables e below S0 (s₁.setTop (mkF m 15 #[.val (.int pp)] [(.int (13 : Int32)), (.int pp)])) := c8.trans (by
        refine XS.iloadN X0.here hx rfl (hb hby own_da12) rfl ?_
        show Steps p.tables e below (s₁.setTop (mkF m 13 #[.val (.int pp)] [(.int pp)])) _
        refine XS.bipush X0.here hx rfl (hb hby own_da13) ?_
        exact Steps.refl _)
      by_cases hb15 : pp = (13 : Int32)
      · have c10 : Steps p.tables e below S0 (s₁.setTop (mkF m 54 #[.val (.int pp)] [])) := c9.trans (by
          refine XS.icmpYes X0.here hx rfl (pc0 := 15) (pc' := 54) rfl (hb hby own_da15) rfl (teq hb15).1 (by decide) (by decide) ?_
          exact Steps.refl _)
        have c11 : Steps p.tables e below S0 (s₁.setTop (mkF m 59 #[.val (.int pp)] [(.int (1 : Int32))])) := c10.trans (by
          refine XS.iconst X0.here hx rfl (hb hby own_da54) ?_
          show Steps p.tables e below (s₁.setTop (mkF m 55 #[.val (.int pp)] [(.int (1 : Int32))])) _
          refine XS.goto X0.here hx rfl (pc0 := 55) (pc' := 59) rfl (hb hby own_da55) (by decide) (by decide) ?_
          exact Steps.refl _)
        have hP : own_P pp.toInt := by
          rw [(own_eqi (show (9 : Int32).toInt = 9 by decide))] at hb3
          rw [(own_eqi (show (10 : Int32).toInt = 10 by decide))] at hb9
          rw [(own_eqi (show (13 : Int32).toInt = 13 by decide))] at hb15
          unfold own_P; omega
        obtain ⟨fs, hr, hrun, hended, hW, hsame⟩ := X0.leave (v := some (.int (1 : Int32))) (fun h => by rw [Bd.returns] at h; cases h)
        exact ⟨_, _, c11.trans (retN X0 hx (t := .boolean) Bd.returns (by simp) (hb hby own_da59) hr), hrun, hended, _, _, rfl, ⟨by rw [own_ic1 hP], N0, e0⟩, ⟨_, rfl⟩, hW, hsame.mono (by decide) (by decide)⟩
      · have c12 : Steps p.tables e below S0 (s₁.setTop (mkF m 18 #[.val (.int pp)] [])) := c9.trans (by
          refine XS.icmpNo X0.here hx rfl (hb hby own_da15) rfl (feq hb15).1 ?_
          exact Steps.refl _)
        have c13 : Steps p.tables e below S0 (s₁.setTop (mkF m 21 #[.val (.int pp)] [(.int (32 : Int32)), (.int pp)])) := c12.trans (by
          refine XS.iloadN X0.here hx rfl (hb hby own_da18) rfl ?_
          show Steps p.tables e below (s₁.setTop (mkF m 19 #[.val (.int pp)] [(.int pp)])) _
          refine XS.bipush X0.here hx rfl (hb hby own_da19) ?_
          exact Steps.refl _)
        by_cases hb21 : pp < (32 : Int32)
        · have c14 : Steps p.tables e below S0 (s₁.setTop (mkF m 30 #[.val (.int pp)] [])) := c13.trans (by
            refine XS.icmpYes X0.here hx rfl (pc0 := 21) (pc' := 30) rfl (hb hby own_da21) rfl (tlt hb21).1 (by decide) (by decide) ?_
            exact Steps.refl _)
          have c15 : Steps p.tables e below S0 (s₁.setTop (mkF m 33 #[.val (.int pp)] [(.int (57344 : Int32)), (.int pp)])) := c14.trans (by
            refine XS.iloadN X0.here hx rfl (hb hby own_da30) rfl ?_
            show Steps p.tables e below (s₁.setTop (mkF m 31 #[.val (.int pp)] [(.int pp)])) _
            refine X0.ldcInt hx hown (mvT hZ (hw _ (List.mem_of_getElem? (i := 16) rfl))) (g := (mkF m 31 #[.val (.int pp)] [(.int pp)])) rfl (hb hby own_da31) _ ?_
            exact Steps.refl _)
          by_cases hb33 : pp < (57344 : Int32)
          · have c16 : Steps p.tables e below S0 (s₁.setTop (mkF m 42 #[.val (.int pp)] [])) := c15.trans (by
              refine XS.icmpYes X0.here hx rfl (pc0 := 33) (pc' := 42) rfl (hb hby own_da33) rfl (tlt hb33).1 (by decide) (by decide) ?_
              exact Steps.refl _)
            have c17 : Steps p.tables e below S0 (s₁.setTop (mkF m 45 #[.val (.int pp)] [(.int (65536 : Int32)), (.int pp)])) := c16.trans (by
              refine XS.iloadN X0.here hx rfl (hb hby own_da42) rfl ?_
              show Steps p.tables e below (s₁.setTop (mkF m 43 #[.val (.int pp)] [(.int pp)])) _
              refine X0.ldcInt hx hown (mvT hZ (hw _ (List.mem_of_getElem? (i := 17) rfl))) (g := (mkF m 43 #[.val (.int pp)] [(.int pp)])) rfl (hb hby own_da43) _ ?_
              exact Steps.refl _)
            by_cases hb45 : pp < (65536 : Int32)
            · have c18 : Steps p.tables e below S0 (s₁.setTop (mkF m 58 #[.val (.int pp)] [])) := c17.trans (by
                refine XS.icmpYes X0.here hx rfl (pc0 := 45) (pc' := 58) rfl (hb hby own_da45) rfl (tlt hb45).1 (by decide) (by decide) ?_
                exact Steps.refl _)
              have c19 : Steps p.tables e below S0 (s₁.setTop (mkF m 59 #[.val (.int pp)] [(.int (0 : Int32))])) := c18.trans (by
                refine XS.iconst X0.here hx rfl (hb hby own_da58) ?_
                exact Steps.refl _)
              have hP : ¬ own_P pp.toInt := by
                rw [(own_eqi (show (9 : Int32).toInt = 9 by decide))] at hb3
                rw [(own_eqi (show (10 : Int32).toInt = 10 by decide))] at hb9
                rw [(own_eqi (show (13 : Int32).toInt = 13 by decide))] at hb15
                rw [(own_lti (show (32 : Int32).toInt = 32 by decide))] at hb21
                rw [(own_lti (show (57344 : Int32).toInt = 57344 by decide))] at hb33
                rw [(own_lti (show (65536 : Int32).toInt = 65536 by decide))] at hb45
                unfold own_P; omega
              obtain ⟨fs, hr, hrun, hended, hW, hsame⟩ := X0.leave (v := some (.int (0 : Int32))) (fun h => by rw [Bd.returns] at h; cases h)
              exact ⟨_, _, c19.trans (retN X0 hx (t := .boolean) Bd.returns (by simp) (hb hby own_da59) hr), hrun, hended, _, _, rfl, ⟨by rw [own_ic0 hP], N0, e0⟩, ⟨_, rfl⟩, hW, hsame.mono (by decide) (by decide)⟩
            · have c20 : Steps p.tables e below S0 (s₁.setTop (mkF m 48 #[.val (.int pp)] [])) := c17.trans (by
                refine XS.icmpNo X0.here hx rfl (hb hby own_da45) rfl (flt hb45).1 ?_
                exact Steps.refl _)
              have c21 : Steps p.tables e below S0 (s₁.setTop (mkF m 51 #[.val (.int pp)] [(.int (1114111 : Int32)), (.int pp)])) := c20.trans (by
                refine XS.iloadN X0.here hx rfl (hb hby own_da48) rfl ?_
                show Steps p.tables e below (s₁.setTop (mkF m 49 #[.val (.int pp)] [(.int pp)])) _
                refine X0.ldcInt hx hown (mvT hZ (hw _ (List.mem_of_getElem? (i := 25) rfl))) (g := (mkF m 49 #[.val (.int pp)] [(.int pp)])) rfl (hb hby own_da49) _ ?_
                exact Steps.refl _)
              by_cases hb51 : (1114111 : Int32) < pp
              · have c22 : Steps p.tables e below S0 (s₁.setTop (mkF m 58 #[.val (.int pp)] [])) := c21.trans (by
                  refine XS.icmpYes X0.here hx rfl (pc0 := 51) (pc' := 58) rfl (hb hby own_da51) rfl (tlt hb51).2.2.1 (by decide) (by decide) ?_
                  exact Steps.refl _)
                have c23 : Steps p.tables e below S0 (s₁.setTop (mkF m 59 #[.val (.int pp)] [(.int (0 : Int32))])) := c22.trans (by
                  refine XS.iconst X0.here hx rfl (hb hby own_da58) ?_
                  exact Steps.refl _)
                have hP : ¬ own_P pp.toInt := by
                  rw [(own_eqi (show (9 : Int32).toInt = 9 by decide))] at hb3
                  rw [(own_eqi (show (10 : Int32).toInt = 10 by decide))] at hb9
                  rw [(own_eqi (show (13 : Int32).toInt = 13 by decide))] at hb15
                  rw [(own_lti (show (32 : Int32).toInt = 32 by decide))] at hb21
                  rw [(own_lti (show (57344 : Int32).toInt = 57344 by decide))] at hb33
                  rw [(own_lti (show (65536 : Int32).toInt = 65536 by decide))] at hb45
                  rw [(own_gti (show (1114111 : Int32).toInt = 1114111 by decide))] at hb51
                  unfold own_P; omega
                obtain ⟨fs, hr, hrun, hended, hW, hsame⟩ := X0.leave (v := some (.int (0 : Int32))) (fun h => by rw [Bd.returns] at h; cases h)
                exact ⟨_, _, c23.trans (retN X0 hx (t := .boolean) Bd.returns (by simp) (hb hby own_da59) hr), hrun, hended, _, _, rfl, ⟨by rw [own_ic0 hP], N0, e0⟩, ⟨_, rfl⟩, hW, hsame.mono (by decide) (by decide)⟩
              · have c24 : Steps p.tables e below S0 (s₁.setTop (mkF m 54 #[.val (.int pp)] [])) := c21.trans (by
                  refine XS.icmpNo X0.here hx rfl (hb hby own_da51) rfl (flt hb51).2.2.1 ?_
                  exact Steps.refl _)
                have c25 : Steps p.tables e below S0 (s₁.setTop (mkF m 59 #[.val (.int pp)] [(.int (1 : Int32))])) := c24.trans (by
                  refine XS.iconst X0.here hx rfl (hb hby own_da54) ?_
                  show Steps p.tables e below (s₁.setTop (mkF m 55 #[.val (.int pp)] [(.int (1 : Int32))])) _
                  refine XS.goto X0.here hx rfl (pc0 := 55) (pc' := 59) rfl (hb hby own_da55) (by decide) (by decide) ?_
                  exact Steps.refl _)
                have hP : own_P pp.toInt := by
                  rw [(own_eqi (show (9 : Int32).toInt = 9 by decide))] at hb3
                  rw [(own_eqi (show (10 : Int32).toInt = 10 by decide))] at hb9
                  rw [(own_eqi (show (13 : Int32).toInt = 13 by decide))] at hb15
                  rw [(own_lti (show (32 : Int32).toInt = 32 by decide))] at hb21
                  rw [(own_lti (show (57344 : Int32).toInt = 57344 by decide))] at hb33
                  rw [(own_lti (show (65536 : Int32).toInt = 65536 by decide))] at hb45
                  rw [(own_gti (show (1114111 : Int32).toInt = 1114111 by decide))] at hb51
                  unfold own_P; omega
                obtain ⟨fs, hr, hrun, hended, hW, hsame⟩ := X0.leave (v := some (.int (1 : Int32))) (fun h => by rw [Bd.returns] at h; cases h)
                exact ⟨_, _, c25.trans (retN X0 hx (t := .boolean) Bd.returns (by simp) (hb hby own_da59) hr), hrun, hended, _, _, rfl, ⟨by rw [own_ic1 hP], N0, e0⟩, ⟨_, rfl⟩, hW, hsame.mono (by decide) (by decide)⟩
          · have c26 : Steps p.tables e below S0 (s₁.setTop (mkF m 36 #[.val (.int pp)] [])) := c15.trans (by
              refine XS.icmpNo X0.here hx rfl (hb hby own_da33) rfl (flt hb33).1 ?_
              exact Steps.refl _)
            have c27 : Steps p.tables e below S0 (s₁.setTop (mkF m 39 #[.val (.int pp)] [(.int (65533 : Int32)), (.int pp)])) := c26.trans (by
              refine XS.iloadN X0.here hx rfl (hb hby own_da36) rfl ?_
              show Steps p.tables e below (s₁.setTop (mkF m 37 #[.val (.int pp)] [(.int pp)])) _
              refine X0.ldcInt hx hown (mvT hZ (hw _ (List.mem_of_getElem? (i := 24) rfl))) (g := (mkF m 37 #[.val (.int pp)] [(.int pp)])) rfl (hb hby own_da37) _ ?_
              exact Steps.refl _)
            by_cases hb39 : (65533 : Int32) < pp
            · have c28 : Steps p.tables e below S0 (s₁.setTop (mkF m 42 #[.val (.int pp)] [])) := c27.trans (by
                refine XS.icmpNo X0.here hx rfl (hb hby own_da39) rfl (tlt hb39).2.2.2 ?_
                exact Steps.refl _)
              have c29 : Steps p.tables e below S0 (s₁.setTop (mkF m 45 #[.val (.int pp)] [(.int (65536 : Int32)), (.int pp)])) := c28.trans (by
                refine XS.iloadN X0.here hx rfl (hb hby own_da42) rfl ?_
                show Steps p.tables e below (s₁.setTop (mkF m 43 #[.val (.int pp)] [(.int pp)])) _
                refine X0.ldcInt hx hown (mvT hZ (hw _ (List.mem_of_getElem? (i := 17) rfl))) (g := (mkF m 43 #[.val (.int pp)] [(.int pp)])) rfl (hb hby own_da43) _ ?_
                exact Steps.refl _)
              by_cases hb45 : pp < (65536 : Int32)
              · have c30 : Steps p.tables e below S0 (s₁.setTop (mkF m 58 #[.val (.int pp)] [])) := c29.trans (by
                  refine XS.icmpYes X0.here hx rfl (pc0 := 45) (pc' := 58) rfl (hb hby own_da45) rfl (tlt hb45).1 (by decide) (by decide) ?_
                  exact Steps.refl _)
                have c31 : Steps p.tables e below S0 (s₁.setTop (mkF m 59 #[.val (.int pp)] [(.int (0 : Int32))])) := c30.trans (by
                  refine XS.iconst X0.here hx rfl (hb hby own_da58) ?_
                  exact Steps.refl _)
                have hP : ¬ own_P pp.toInt := by
                  rw [(own_eqi (show (9 : Int32).toInt = 9 by decide))] at hb3
                  rw [(own_eqi (show (10 : Int32).toInt = 10 by decide))] at hb9
                  rw [(own_eqi (show (13 : Int32).toInt = 13 by decide))] at hb15
                  rw [(own_lti (show (32 : Int32).toInt = 32 by decide))] at hb21
                  rw [(own_lti (show (57344 : Int32).toInt = 57344 by decide))] at hb33
                  rw [(own_gti (show (65533 : Int32).toInt = 65533 by decide))] at hb39
                  rw [(own_lti (show (65536 : Int32).toInt = 65536 by decide))] at hb45
                  unfold own_P; omega
                obtain ⟨fs, hr, hrun, hended, hW, hsame⟩ := X0.leave (v := some (.int (0 : Int32))) (fun h => by rw [Bd.returns] at h; cases h)
                exact ⟨_, _, c31.trans (retN X0 hx (t := .boolean) Bd.returns (by simp) (hb hby own_da59) hr), hrun, hended, _, _, rfl, ⟨by rw [own_ic0 hP], N0, e0⟩, ⟨_, rfl⟩, hW, hsame.mono (by decide) (by decide)⟩
              · have c32 : Steps p.tables e below S0 (s₁.setTop (mkF m 48 #[.val (.int pp)] [])) := c29.trans (by
                  refine XS.icmpNo X0.here hx rfl (hb hby own_da45) rfl (flt hb45).1 ?_
                  exact Steps.refl _)
                have c33 : Steps p.tables e below S0 (s₁.setTop (mkF m 51 #[.val (.int pp)] [(.int (1114111 : Int32)), (.int pp)])) := c32.trans (by
                  refine XS.iloadN X0.here hx rfl (hb hby own_da48) rfl ?_
                  show Steps p.tables e below (s₁.setTop (mkF m 49 #[.val (.int pp)] [(.int pp)])) _
                  refine X0.ldcInt hx hown (mvT hZ (hw _ (List.mem_of_getElem? (i := 25) rfl))) (g := (mkF m 49 #[.val (.int pp)] [(.int pp)])) rfl (hb hby own_da49) _ ?_
                  exact Steps.refl _)
                by_cases hb51 : (1114111 : Int32) < pp
                · have c34 : Steps p.tables e below S0 (s₁.setTop (mkF m 58 #[.val (.int pp)] [])) := c33.trans (by
                    refine XS.icmpYes X0.here hx rfl (pc0 := 51) (pc' := 58) rfl (hb hby own_da51) rfl (tlt hb51).2.2.1 (by decide) (by decide) ?_
                    exact Steps.refl _)
                  have c35 : Steps p.tables e below S0 (s₁.setTop (mkF m 59 #[.val (.int pp)] [(.int (0 : Int32))])) := c34.trans (by
                    refine XS.iconst X0.here hx rfl (hb hby own_da58) ?_
                    exact Steps.refl _)
                  have hP : ¬ own_P pp.toInt := by
                    rw [(own_eqi (show (9 : Int32).toInt = 9 by decide))] at hb3
                    rw [(own_eqi (show (10 : Int32).toInt = 10 by decide))] at hb9
                    rw [(own_eqi (show (13 : Int32).toInt = 13 by decide))] at hb15
                    rw [(own_lti (show (32 : Int32).toInt = 32 by decide))] at hb21
                    rw [(own_lti (show (57344 : Int32).toInt = 57344 by decide))] at hb33
                    rw [(own_gti (show (65533 : Int32).toInt = 65533 by decide))] at hb39
                    rw [(own_lti (show (65536 : Int32).toInt = 65536 by decide))] at hb45
                    rw [(own_gti (show (1114111 : Int32).toInt = 1114111 by decide))] at hb51
                    unfold own_P; omega
                  obtain ⟨fs, hr, hrun, hended, hW, hsame⟩ := X0.leave (v := some (.int (0 : Int32))) (fun h => by rw [Bd.returns] at h; cases h)
                  exact ⟨_, _, c35.trans (retN X0 hx (t := .boolean) Bd.returns (by simp) (hb hby own_da59) hr), hrun, hended, _, _, rfl, ⟨by rw [own_ic0 hP], N0, e0⟩, ⟨_, rfl⟩, hW, hsame.mono (by decide) (by decide)⟩
                · have c36 : Steps p.tables e below S0 (s₁.setTop (mkF m 54 #[.val (.int pp)] [])) := c33.trans (by
                    refine XS.icmpNo X0.here hx rfl (hb hby own_da51) rfl (flt hb51).2.2.1 ?_
                    exact Steps.refl _)
                  have c37 : Steps p.tables e below S0 (s₁.setTop (mkF m 59 #[.val (.int pp)] [(.int (1 : Int32))])) := c36.trans (by
                    refine XS.iconst X0.here hx rfl (hb hby own_da54) ?_
                    show Steps p.tables e below (s₁.setTop (mkF m 55 #[.val (.int pp)] [(.int (1 : Int32))])) _
                    refine XS.goto X0.here hx rfl (pc0 := 55) (pc' := 59) rfl (hb hby own_da55) (by decide) (by decide) ?_
                    exact Steps.refl _)
                  have hP : own_P pp.toInt := by
                    rw [(own_eqi (show (9 : Int32).toInt = 9 by decide))] at hb3
                    rw [(own_eqi (show (10 : Int32).toInt = 10 by decide))] at hb9
                    rw [(own_eqi (show (13 : Int32).toInt = 13 by decide))] at hb15
                    rw [(own_lti (show (32 : Int32).toInt = 32 by decide))] at hb21
                    rw [(own_lti (show (57344 : Int32).toInt = 57344 by decide))] at hb33
                    rw [(own_gti (show (65533 : Int32).toInt = 65533 by decide))] at hb39
                    rw [(own_lti (show (65536 : Int32).toInt = 65536 by decide))] at hb45
                    rw [(own_gti (show (1114111 : Int32).toInt = 1114111 by decide))] at hb51
                    unfold own_P; omega
                  obtain ⟨fs, hr, hrun, hended, hW, hsame⟩ := X0.leave (v := some (.int (1 : Int32))) (fun h => by rw [Bd.returns] at h; cases h)
                  exact ⟨_, _, c37.trans (retN X0 hx (t := .boolean) Bd.returns (by simp) (hb hby own_da59) hr), hrun, hended, _, _, rfl, ⟨by rw [own_ic1 hP], N0, e0⟩, ⟨_, rfl⟩, hW, hsame.mono (by decide) (by decide)⟩
            · have c38 : Steps p.tables e below S0 (s₁.setTop (mkF m 54 #[.val (.int pp)] [])) := c27.trans (by
                refine XS.icmpYes X0.here hx rfl (pc0 := 39) (pc' := 54) rfl (hb hby own_da39) rfl (flt hb39).2.2.2 (by decide) (by decide) ?_
                exact Steps.refl _)
              have c39 : Steps p.tables e below S0 (s₁.setTop (mkF m 59 #[.val (.int pp)] [(.int (1 : Int32))])) := c38.trans (by
                refine XS.iconst X0.here hx rfl (hb hby own_da54) ?_
                show Steps p.tables e below (s₁.setTop (mkF m 55 #[.val (.int pp)] [(.int (1 : Int32))])) _
                refine XS.goto X0.here hx rfl (pc0 := 55) (pc' := 59) rfl (hb hby own_da55) (by decide) (by decide) ?_
                exact Steps.refl _)
              have hP : own_P pp.toInt := by
                rw [(own_eqi (show (9 : Int32).toInt = 9 by decide))] at hb3
                rw [(own_eqi (show (10 : Int32).toInt = 10 by decide))] at hb9
                rw [(own_eqi (show (13 : Int32).toInt = 13 by decide))] at hb15
                rw [(own_lti (show (32 : Int32).toInt = 32 by decide))] at hb21
                rw [(own_lti (show (57344 : Int32).toInt = 57344 by decide))] at hb33
                rw [(own_gti (show (65533 : Int32).toInt = 65533 by decide))] at hb39
                unfold own_P; omega
              obtain ⟨fs, hr, hrun, hended, hW, hsame⟩ := X0.leave (v := some (.int (1 : Int32))) (fun h => by rw [Bd.returns] at h; cases h)
              exact ⟨_, _, c39.trans (retN X0 hx (t := .boolean) Bd.returns (by simp) (hb hby own_da59) hr), hrun, hended, _, _, rfl, ⟨by rw [own_ic1 hP], N0, e0⟩, ⟨_, rfl⟩, hW, hsame.mono (by decide) (by decide)⟩
        · have c40 : Steps p.tables e below S0 (s₁.setTop (mkF m 24 #[.val (.int pp)] [])) := c13.trans (by
            refine XS.icmpNo X0.here hx rfl (hb hby own_da21) rfl (flt hb21).1 ?_
            exact Steps.refl _)
          have c41 : Steps p.tables e below S0 (s₁.setTop (mkF m 27 #[.val (.int pp)] [(.int (55295 : Int32)), (.int pp)])) := c40.trans (by
            refine XS.iloadN X0.here hx rfl (hb hby own_da24) rfl ?_
            show Steps p.tables e below (s₁.setTop (mkF m 25 #[.val (.int pp)] [(.int pp)])) _
            refine X0.ldcInt hx hown (mvT hZ (hw _ (List.mem_of_getElem? (i := 23) rfl))) (g := (mkF m 25 #[.val (.int pp)] [(.int pp)])) rfl (hb hby own_da25) _ ?_
            exact Steps.refl _)
          by_cases hb27 : (55295 : Int32) < pp
          · have c42 : Steps p.tables e below S0 (s₁.setTop (mkF m 30 #[.val (.int pp)] [])) := c41.trans (by
              refine XS.icmpNo X0.here hx rfl (hb hby own_da27) rfl (tlt hb27).2.2.2 ?_
              exact Steps.refl _)
            have c43 : Steps p.tables e below S0 (s₁.setTop (mkF m 33 #[.val (.int pp)] [(.int (57344 : Int32)), (.int pp)])) := c42.trans (by
              refine XS.iloadN X0.here hx rfl (hb hby own_da30) rfl ?_
              show Steps p.tables e below (s₁.setTop (mkF m 31 #[.val (.int pp)] [(.int pp)])) _
              refine X0.ldcInt hx hown (mvT hZ (hw _ (List.mem_of_getElem? (i := 16) rfl))) (g := (mkF m 31 #[.val (.int pp)] [(.int pp)])) rfl (hb hby own_da31) _ ?_
              exact Steps.refl _)
            by_cases hb33 : pp < (57344 : Int32)
            · have c44 : Steps p.tables e below S0 (s₁.setTop (mkF m 42 #[.val (.int pp)] [])) := c43.trans (by
                refine XS.icmpYes X0.here hx rfl (pc0 := 33) (pc' := 42) rfl (hb hby own_da33) rfl (tlt hb33).1 (by decide) (by decide) ?_
                exact Steps.refl _)
              have c45 : Steps p.tables e below S0 (s₁.setTop (mkF m 45 #[.val (.int pp)] [(.int (65536 : Int32)), (.int pp)])) := c44.trans (by
                refine XS.iloadN X0.here hx rfl (hb hby own_da42) rfl ?_
                show Steps p.tables e below (s₁.setTop (mkF m 43 #[.val (.int pp)] [(.int pp)])) _
                refine X0.ldcInt hx hown (mvT hZ (hw _ (List.mem_of_getElem? (i := 17) rfl))) (g := (mkF m 43 #[.val (.int pp)] [(.int pp)])) rfl (hb hby own_da43) _ ?_
                exact Steps.refl _)
              by_cases hb45 : pp < (65536 : Int32)
              · have c46 : Steps p.tables e below S0 (s₁.setTop (mkF m 58 #[.val (.int pp)] [])) := c45.trans (by
                  refine XS.icmpYes X0.here hx rfl (pc0 := 45) (pc' := 58) rfl (hb hby own_da45) rfl (tlt hb45).1 (by decide) (by decide) ?_
                  exact Steps.refl _)
                have c47 : Steps p.tables e below S0 (s₁.setTop (mkF m 59 #[.val (.int pp)] [(.int (0 : Int32))])) := c46.trans (by
                  refine XS.iconst X0.here hx rfl (hb hby own_da58) ?_
                  exact Steps.refl _)
                have hP : ¬ own_P pp.toInt := by
                  rw [(own_eqi (show (9 : Int32).toInt = 9 by decide))] at hb3
                  rw [(own_eqi (show (10 : Int32).toInt = 10 by decide))] at hb9
                  rw [(own_eqi (show (13 : Int32).toInt = 13 by decide))] at hb15
                  rw [(own_lti (show (32 : Int32).toInt = 32 by decide))] at hb21
                  rw [(own_gti (show (55295 : Int32).toInt = 55295 by decide))] at hb27
                  rw [(own_lti (show (57344 : Int32).toInt = 57344 by decide))] at hb33
                  rw [(own_lti (show (65536 : Int32).toInt = 65536 by decide))] at hb45
                  unfold own_P; omega
                obtain ⟨fs, hr, hrun, hended, hW, hsame⟩ := X0.leave (v := some (.int (0 : Int32))) (fun h => by rw [Bd.returns] at h; cases h)
                exact ⟨_, _, c47.trans (retN X0 hx (t := .boolean) Bd.returns (by simp) (hb hby own_da59) hr), hrun, hended, _, _, rfl, ⟨by rw [own_ic0 hP], N0, e0⟩, ⟨_, rfl⟩, hW, hsame.mono (by decide) (by decide)⟩
              · have c48 : Steps p.tables e below S0 (s₁.setTop (mkF m 48 #[.val (.int pp)] [])) := c45.trans (by
                  refine XS.icmpNo X0.here hx rfl (hb hby own_da45) rfl (flt hb45).1 ?_
                  exact Steps.refl _)
                have c49 : Steps p.tables e below S0 (s₁.setTop (mkF m 51 #[.val (.int pp)] [(.int (1114111 : Int32)), (.int pp)])) := c48.trans (by
                  refine XS.iloadN X0.here hx rfl (hb hby own_da48) rfl ?_
                  show Steps p.tables e below (s₁.setTop (mkF m 49 #[.val (.int pp)] [(.int pp)])) _
                  refine X0.ldcInt hx hown (mvT hZ (hw _ (List.mem_of_getElem? (i := 25) rfl))) (g := (mkF m 49 #[.val (.int pp)] [(.int pp)])) rfl (hb hby own_da49) _ ?_
                  exact Steps.refl _)
                by_cases hb51 : (1114111 : Int32) < pp
                · have c50 : Steps p.tables e below S0 (s₁.setTop (mkF m 58 #[.val (.int pp)] [])) := c49.trans (by
                    refine XS.icmpYes X0.here hx rfl (pc0 := 51) (pc' := 58) rfl (hb hby own_da51) rfl (tlt hb51).2.2.1 (by decide) (by decide) ?_
                    exact Steps.refl _)
                  have c51 : Steps p.tables e below S0 (s₁.setTop (mkF m 59 #[.val (.int pp)] [(.int (0 : Int32))])) := c50.trans (by
                    refine XS.iconst X0.here hx rfl (hb hby own_da58) ?_
                    exact Steps.refl _)
                  have hP : ¬ own_P pp.toInt := by
                    rw [(own_eqi (show (9 : Int32).toInt = 9 by decide))] at hb3
                    rw [(own_eqi (show (10 : Int32).toInt = 10 by decide))] at hb9
                    rw [(own_eqi (show (13 : Int32).toInt = 13 by decide))] at hb15
                    rw [(own_lti (show (32 : Int32).toInt = 32 by decide))] at hb21
                    rw [(own_gti (show (55295 : Int32).toInt = 55295 by decide))] at hb27
                    rw [(own_lti (show (57344 : Int32).toInt = 57344 by decide))] at hb33
                    rw [(own_lti (show (65536 : Int32).toInt = 65536 by decide))] at hb45
                    rw [(own_gti (show (1114111 : Int32).toInt = 1114111 by decide))] at hb51
                    unfold own_P; omega
                  obtain ⟨fs, hr, hrun, hended, hW, hsame⟩ := X0.leave (v := some (.int (0 : Int32))) (fun h => by rw [Bd.returns] at h; cases h)
                  exact ⟨_, _, c51.trans (retN X0 hx (t := .boolean) Bd.returns (by simp) (hb hby own_da59) hr), hrun, hended, _, _, rfl, ⟨by rw [own_ic0 hP], N0, e0⟩, ⟨_, rfl⟩, hW, hsame.mono (by decide) (by decide)⟩
                · have c52 : Steps p.tables e below S0 (s₁.setTop (mkF m 54 #[.val (.int pp)] [])) := c49.trans (by
                    refine XS.icmpNo X0.here hx rfl (hb hby own_da51) rfl (flt hb51).2.2.1 ?_
                    exact Steps.refl _)
                  have c53 : Steps p.tables e below S0 (s₁.setTop (mkF m 59 #[.val (.int pp)] [(.int (1 : Int32))])) := c52.trans (by
                    refine XS.iconst X0.here hx rfl (hb hby own_da54) ?_
                    show Steps p.tables e below (s₁.setTop (mkF m 55 #[.val (.int pp)] [(.int (1 : Int32))])) _
                    refine XS.goto X0.here hx rfl (pc0 := 55) (pc' := 59) rfl (hb hby own_da55) (by decide) (by decide) ?_
                    exact Steps.refl _)
                  have hP : own_P pp.toInt := by
                    rw [(own_eqi (show (9 : Int32).toInt = 9 by decide))] at hb3
                    rw [(own_eqi (show (10 : Int32).toInt = 10 by decide))] at hb9
                    rw [(own_eqi (show (13 : Int32).toInt = 13 by decide))] at hb15
                    rw [(own_lti (show (32 : Int32).toInt = 32 by decide))] at hb21
                    rw [(own_gti (show (55295 : Int32).toInt = 55295 by decide))] at hb27
                    rw [(own_lti (show (57344 : Int32).toInt = 57344 by decide))] at hb33
                    rw [(own_lti (show (65536 : Int32).toInt = 65536 by decide))] at hb45
                    rw [(own_gti (show (1114111 : Int32).toInt = 1114111 by decide))] at hb51
                    unfold own_P; omega
                  obtain ⟨fs, hr, hrun, hended, hW, hsame⟩ := X0.leave (v := some (.int (1 : Int32))) (fun h => by rw [Bd.returns] at h; cases h)
                  exact ⟨_, _, c53.trans (retN X0 hx (t := .boolean) Bd.returns (by simp) (hb hby own_da59) hr), hrun, hended, _, _, rfl, ⟨by rw [own_ic1 hP], N0, e0⟩, ⟨_, rfl⟩, hW, hsame.mono (by decide) (by decide)⟩
            · have c54 : Steps p.tables e below S0 (s₁.setTop (mkF m 36 #[.val (.int pp)] [])) := c43.trans (by
                refine XS.icmpNo X0.here hx rfl (hb hby own_da33) rfl (flt hb33).1 ?_
                exact Steps.refl _)
              have c55 : Steps p.tables e below S0 (s₁.setTop (mkF m 39 #[.val (.int pp)] [(.int (65533 : Int32)), (.int pp)])) := c54.trans (by
                refine XS.iloadN X0.here hx rfl (hb hby own_da36) rfl ?_
                show Steps p.tables e below (s₁.setTop (mkF m 37 #[.val (.int pp)] [(.int pp)])) _
                refine X0.ldcInt hx hown (mvT hZ (hw _ (List.mem_of_getElem? (i := 24) rfl))) (g := (mkF m 37 #[.val (.int pp)] [(.int pp)])) rfl (hb hby own_da37) _ ?_
                exact Steps.refl _)
              by_cases hb39 : (65533 : Int32) < pp
              · have c56 : Steps p.tables e below S0 (s₁.setTop (mkF m 42 #[.val (.int pp)] [])) := c55.trans (by
                  refine XS.icmpNo X0.here hx rfl (hb hby own_da39) rfl (tlt hb39).2.2.2 ?_
                  exact Steps.refl _)
                have c57 : Steps p.tables e below S0 (s₁.setTop (mkF m 45 #[.val (.int pp)] [(.int (65536 : Int32)), (.int pp)])) := c56.trans (by
                  refine XS.iloadN X0.here hx rfl (hb hby own_da42) rfl ?_
                  show Steps p.tables e below (s₁.setTop (mkF m 43 #[.val (.int pp)] [(.int pp)])) _
                  refine X0.ldcInt hx hown (mvT hZ (hw _ (List.mem_of_getElem? (i := 17) rfl))) (g := (mkF m 43 #[.val (.int pp)] [(.int pp)])) rfl (hb hby own_da43) _ ?_
                  exact Steps.refl _)
                by_cases hb45 : pp < (65536 : Int32)
                · have c58 : Steps p.tables e below S0 (s₁.setTop (mkF m 58 #[.val (.int pp)] [])) := c57.trans (by
                    refine XS.icmpYes X0.here hx rfl (pc0 := 45) (pc' := 58) rfl (hb hby own_da45) rfl (tlt hb45).1 (by decide) (by decide) ?_
                    exact Steps.refl _)
                  have c59 : Steps p.tables e below S0 (s₁.setTop (mkF m 59 #[.val (.int pp)] [(.int (0 : Int32))])) := c58.trans (by
                    refine XS.iconst X0.here hx rfl (hb hby own_da58) ?_
                    exact Steps.refl _)
                  have hP : ¬ own_P pp.toInt := by
                    rw [(own_eqi (show (9 : Int32).toInt = 9 by decide))] at hb3
                    rw [(own_eqi (show (10 : Int32).toInt = 10 by decide))] at hb9
                    rw [(own_eqi (show (13 : Int32).toInt = 13 by decide))] at hb15
                    rw [(own_lti (show (32 : Int32).toInt = 32 by decide))] at hb21
                    rw [(own_gti (show (55295 : Int32).toInt = 55295 by decide))] at hb27
                    rw [(own_lti (show (57344 : Int32).toInt = 57344 by decide))] at hb33
                    rw [(own_gti (show (65533 : Int32).toInt = 65533 by decide))] at hb39
                    rw [(own_lti (show (65536 : Int32).toInt = 65536 by decide))] at hb45
                    unfold own_P; omega
                  obtain ⟨fs, hr, hrun, hended, hW, hsame⟩ := X0.leave (v := some (.int (0 : Int32))) (fun h => by rw [Bd.returns] at h; cases h)
                  exact ⟨_, _, c59.trans (retN X0 hx (t := .boolean) Bd.returns (by simp) (hb hby own_da59) hr), hrun, hended, _, _, rfl, ⟨by rw [own_ic0 hP], N0, e0⟩, ⟨_, rfl⟩, hW, hsame.mono (by decide) (by decide)⟩
                · have c60 : Steps p.tables e below S0 (s₁.setTop (mkF m 48 #[.val (.int pp)] [])) := c57.trans (by
                    refine XS.icmpNo X0.here hx rfl (hb hby own_da45) rfl (flt hb45).1 ?_
                    exact Steps.refl _)
                  have c61 : Steps p.tables e below S0 (s₁.setTop (mkF m 51 #[.val (.int pp)] [(.int (1114111 : Int32)), (.int pp)])) := c60.trans (by
                    refine XS.iloadN X0.here hx rfl (hb hby own_da48) rfl ?_
                    show Steps p.tables e below (s₁.setTop (mkF m 49 #[.val (.int pp)] [(.int pp)])) _
                    refine X0.ldcInt hx hown (mvT hZ (hw _ (List.mem_of_getElem? (i := 25) rfl))) (g := (mkF m 49 #[.val (.int pp)] [(.int pp)])) rfl (hb hby own_da49) _ ?_
                    exact Steps.refl _)
                  by_cases hb51 : (1114111 : Int32) < pp
                  · have c62 : Steps p.tables e below S0 (s₁.setTop (mkF m 58 #[.val (.int pp)] [])) := c61.trans (by
                      refine XS.icmpYes X0.here hx rfl (pc0 := 51) (pc' := 58) rfl (hb hby own_da51) rfl (tlt hb51).2.2.1 (by decide) (by decide) ?_
                      exact Steps.refl _)
                    have c63 : Steps p.tables e below S0 (s₁.setTop (mkF m 59 #[.val (.int pp)] [(.int (0 : Int32))])) := c62.trans (by
                      refine XS.iconst X0.here hx rfl (hb hby own_da58) ?_
                      exact Steps.refl _)
                    have hP : ¬ own_P pp.toInt := by
                      rw [(own_eqi (show (9 : Int32).toInt = 9 by decide))] at hb3
                      rw [(own_eqi (show (10 : Int32).toInt = 10 by decide))] at hb9
                      rw [(own_eqi (show (13 : Int32).toInt = 13 by decide))] at hb15
                      rw [(own_lti (show (32 : Int32).toInt = 32 by decide))] at hb21
                      rw [(own_gti (show (55295 : Int32).toInt = 55295 by decide))] at hb27
                      rw [(own_lti (show (57344 : Int32).toInt = 57344 by decide))] at hb33
                      rw [(own_gti (show (65533 : Int32).toInt = 65533 by decide))] at hb39
                      rw [(own_lti (show (65536 : Int32).toInt = 65536 by decide))] at hb45
                      rw [(own_gti (show (1114111 : Int32).toInt = 1114111 by decide))] at hb51
                      unfold own_P; omega
                    obtain ⟨fs, hr, hrun, hended, hW, hsame⟩ := X0.leave (v := some (.int (0 : Int32))) (fun h => by rw [Bd.returns] at h; cases h)
                    exact ⟨_, _, c63.trans (retN X0 hx (t := .boolean) Bd.returns (by simp) (hb hby own_da59) hr), hrun, hended, _, _, rfl, ⟨by rw [own_ic0 hP], N0, e0⟩, ⟨_, rfl⟩, hW, hsame.mono (by decide) (by decide)⟩
                  · have c64 : Steps p.tables e below S0 (s₁.setTop (mkF m 54 #[.val (.int pp)] [])) := c61.trans (by
                      refine XS.icmpNo X0.here hx rfl (hb hby own_da51) rfl (flt hb51).2.2.1 ?_
                      exact Steps.refl _)
                    have c65 : Steps p.tables e below S0 (s₁.setTop (mkF m 59 #[.val (.int pp)] [(.int (1 : Int32))])) := c64.trans (by
                      refine XS.iconst X0.here hx rfl (hb hby own_da54) ?_
                      show Steps p.tables e below (s₁.setTop (mkF m 55 #[.val (.int pp)] [(.int (1 : Int32))])) _
                      refine XS.goto X0.here hx rfl (pc0 := 55) (pc' := 59) rfl (hb hby own_da55) (by decide) (by decide) ?_
                      exact Steps.refl _)
                    have hP : own_P pp.toInt := by
                      rw [(own_eqi (show (9 : Int32).toInt = 9 by decide))] at hb3
                      rw [(own_eqi (show (10 : Int32).toInt = 10 by decide))] at hb9
                      rw [(own_eqi (show (13 : Int32).toInt = 13 by decide))] at hb15
                      rw [(own_lti (show (32 : Int32).toInt = 32 by decide))] at hb21
                      rw [(own_gti (show (55295 : Int32).toInt = 55295 by decide))] at hb27
                      rw [(own_lti (show (57344 : Int32).toInt = 57344 by decide))] at hb33
                      rw [(own_gti (show (65533 : Int32).toInt = 65533 by decide))] at hb39
                      rw [(own_lti (show (65536 : Int32).toInt = 65536 by decide))] at hb45
                      rw [(own_gti (show (1114111 : Int32).toInt = 1114111 by decide))] at hb51
                      unfold own_P; omega
                    obtain ⟨fs, hr, hrun, hended, hW, hsame⟩ := X0.leave (v := some (.int (1 : Int32))) (fun h => by rw [Bd.returns] at h; cases h)
                    exact ⟨_, _, c65.trans (retN X0 hx (t := .boolean) Bd.returns (by simp) (hb hby own_da59) hr), hrun, hended, _, _, rfl, ⟨by rw [own_ic1 hP], N0, e0⟩, ⟨_, rfl⟩, hW, hsame.mono (by decide) (by decide)⟩
              · have c66 : Steps p.tables e below S0 (s₁.setTop (mkF m 54 #[.val (.int pp)] [])) := c55.trans (by
                  refine XS.icmpYes X0.here hx rfl (pc0 := 39) (pc' := 54) rfl (hb hby own_da39) rfl (flt hb39).2.2.2 (by decide) (by decide) ?_
                  exact Steps.refl _)
                have c67 : Steps p.tables e below S0 (s₁.setTop (mkF m 59 #[.val (.int pp)] [(.int (1 : Int32))])) := c66.trans (by
                  refine XS.iconst X0.here hx rfl (hb hby own_da54) ?_
                  show Steps p.tables e below (s₁.setTop (mkF m 55 #[.val (.int pp)] [(.int (1 : Int32))])) _
                  refine XS.goto X0.here hx rfl (pc0 := 55) (pc' := 59) rfl (hb hby own_da55) (by decide) (by decide) ?_
                  exact Steps.refl _)
                have hP : own_P pp.toInt := by
                  rw [(own_eqi (show (9 : Int32).toInt = 9 by decide))] at hb3
                  rw [(own_eqi (show (10 : Int32).toInt = 10 by decide))] at hb9
                  rw [(own_eqi (show (13 : Int32).toInt = 13 by decide))] at hb15
                  rw [(own_lti (show (32 : Int32).toInt = 32 by decide))] at hb21
                  rw [(own_gti (show (55295 : Int32).toInt = 55295 by decide))] at hb27
                  rw [(own_lti (show (57344 : Int32).toInt = 57344 by decide))] at hb33
                  rw [(own_gti (show (65533 : Int32).toInt = 65533 by decide))] at hb39
                  unfold own_P; omega
                obtain ⟨fs, hr, hrun, hended, hW, hsame⟩ := X0.leave (v := some (.int (1 : Int32))) (fun h => by rw [Bd.returns] at h; cases h)
                exact ⟨_, _, c67.trans (retN X0 hx (t := .boolean) Bd.returns (by simp) (hb hby own_da59) hr), hrun, hended, _, _, rfl, ⟨by rw [own_ic1 hP], N0, e0⟩, ⟨_, rfl⟩, hW, hsame.mono (by decide) (by decide)⟩
          · have c68 : Steps p.tables e below S0 (s₁.setTop (mkF m 54 #[.val (.int pp)] [])) := c41.trans (by
              refine XS.icmpYes X0.here hx rfl (pc0 := 27) (pc' := 54) rfl (hb hby own_da27) rfl (flt hb27).2.2.2 (by decide) (by decide) ?_
              exact Steps.refl _)
            have c69 : Steps p.tables e below S0 (s₁.setTop (mkF m 59 #[.val (.int pp)] [(.int (1 : Int32))])) := c68.trans (by
              refine XS.iconst X0.here hx rfl (hb hby own_da54) ?_
              show Steps p.tables e below (s₁.setTop (mkF m 55 #[.val (.int pp)] [(.int (1 : Int32))])) _
              refine XS.goto X0.here hx rfl (pc0 := 55) (pc' := 59) rfl (hb hby own_da55) (by decide) (by decide) ?_
              exact Steps.refl _)
            have hP : own_P pp.toInt := by
              rw [(own_eqi (show (9 : Int32).toInt = 9 by decide))] at hb3
              rw [(own_eqi (show (10 : Int32).toInt = 10 by decide))] at hb9
              rw [(own_eqi (show (13 : Int32).toInt = 13 by decide))] at hb15
              rw [(own_lti (show (32 : Int32).toInt = 32 by decide))] at hb21
              rw [(own_gti (show (55295 : Int32).toInt = 55295 by decide))] at hb27
              unfold own_P; omega
            obtain ⟨fs, hr, hrun, hended, hW, hsame⟩ := X0.leave (v := some (.int (1 : Int32))) (fun h => by rw [Bd.returns] at h; cases h)
            exact ⟨_, _, c69.trans (retN X0 hx (t := .boolean) Bd.returns (by simp) (hb hby own_da59) hr), hrun, hended, _, _, rfl, ⟨by rw [own_ic1 hP], N0, e0⟩, ⟨_, rfl⟩, hW, hsame.mono (by decide) (by decide)⟩
theorem own_db0 : decode method_2_code 0 = .ok (.iload_n 0, 1) := by decide +kernel
theorem own_db1 : decode method_2_code 1 = .ok (.ifCond .ge 5, 3) := by decide +kernel
theorem own_db4 : decode method_2_code 4 = .ok (.iconst 1, 1) := by decide +kernel
theorem own_db5 : decode method_2_code 5 = .ok (.ireturn, 1) := by decide +kernel
theorem own_db6 : decode method_2_code 6 = .ok (.iload_n 0, 1) := by decide +kernel
theorem own_db7 : decode method_2_code 7 = .ok (.bipush 8, 2) := by decide +kernel
theorem own_db9 : decode method_2_code 9 = .ok (.if_icmp .gt 5, 3) := by decide +kernel
theorem own_db12 : decode method_2_code 12 = .ok (.iconst 1, 1) := by decide +kernel
theorem own_db13 : decode method_2_code 13 = .ok (.ireturn, 1) := by decide +kernel
theorem own_db14 : decode method_2_code 14 = .ok (.iload_n 0, 1) := by decide +kernel
theorem own_db15 : decode method_2_code 15 = .ok (.bipush 11, 2) := by decide +kernel
theorem own_db17 : decode method_2_code 17 = .ok (.if_icmp .eq 9, 3) := by decide +kernel
theorem own_db20 : decode method_2_code 20 = .ok (.iload_n 0, 1) := by decide +kernel
theorem own_db21 : decode method_2_code 21 = .ok (.bipush 12, 2) := by decide +kernel
theorem own_db23 : decode method_2_code 23 = .ok (.if_icmp .ne 5, 3) := by decide +kernel
theorem own_db26 : decode method_2_code 26 = .ok (.iconst 1, 1) := by decide +kernel
theorem own_db27 : decode method_2_code 27 = .ok (.ireturn, 1) := by decide +kernel
theorem own_db28 : decode method_2_code 28 = .ok (.iload_n 0, 1) := by decide +kernel
theorem own_db29 : decode method_2_code 29 = .ok (.bipush 14, 2) := by decide +kernel
theorem own_db31 : decode method_2_code 31 = .ok (.if_icmp .lt 11, 3) := by decide +kernel
theorem own_db34 : decode method_2_code 34 = .ok (.iload_n 0, 1) := by decide +kernel
theorem own_db35 : decode method_2_code 35 = .ok (.bipush 31, 2) := by decide +kernel
theorem own_db37 : decode method_2_code 37 = .ok (.if_icmp .gt 5, 3) := by decide +kernel
theorem own_db40 : decode method_2_code 40 = .ok (.iconst 1, 1) := by decide +kernel
theorem own_db41 : decode method_2_code 41 = .ok (.ireturn, 1) := by decide +kernel
theorem own_db42 : decode method_2_code 42 = .ok (.iload_n 0, 1) := by decide +kernel
theorem own_db43 : decode method_2_code 43 = .ok (.ldc 7, 2) := by decide +kernel
theorem own_db45 : decode method_2_code 45 = .ok (.if_icmp .lt 11, 3) := by decide +kernel
theorem own_db48 : decode method_2_code 48 = .ok (.iload_n 0, 1) := by decide +kernel
theorem own_db49 : decode method_2_code 49 = .ok (.ldc 8, 2) := by decide +kernel
theorem own_db51 : decode method_2_code 51 = .ok (.if_icmp .gt 5, 3) := by decide +kernel
theorem own_db54 : decode method_2_code 54 = .ok (.iconst 1, 1) := by decide +kernel
theorem own_db55 : decode method_2_code 55 = .ok (.ireturn, 1) := by decide +kernel
theorem own_db56 : decode method_2_code 56 = .ok (.iload_n 0, 1) := by decide +kernel
theorem own_db57 : decode method_2_code 57 = .ok (.ldc 9, 2) := by decide +kernel
theorem own_db59 : decode method_2_code 59 = .ok (.if_icmp .eq 9, 3) := by decide +kernel
theorem own_db62 : decode method_2_code 62 = .ok (.iload_n 0, 1) := by decide +kernel
theorem own_db63 : decode method_2_code 63 = .ok (.ldc 10, 2) := by decide +kernel
theorem own_db65 : decode method_2_code 65 = .ok (.if_icmp .ne 5, 3) := by decide +kernel
theorem own_db68 : decode method_2_code 68 = .ok (.iconst 1, 1) := by decide +kernel
theorem own_db69 : decode method_2_code 69 = .ok (.ireturn, 1) := by decide +kernel
theorem own_db70 : decode method_2_code 70 = .ok (.iload_n 0, 1) := by decide +kernel
theorem own_db71 : decode method_2_code 71 = .ok (.ldc 11, 2) := by decide +kernel
theorem own_db73 : decode method_2_code 73 = .ok (.if_icmp .le 5, 3) := by decide +kernel
theorem own_db76 : decode method_2_code 76 = .ok (.iconst 1, 1) := by decide +kernel
theorem own_db77 : decode method_2_code 77 = .ok (.ireturn, 1) := by decide +kernel
theorem own_db78 : decode method_2_code 78 = .ok (.iconst 0, 1) := by decide +kernel
theorem own_db79 : decode method_2_code 79 = .ok (.ireturn, 1) := by decide +kernel
theorem own_exc_pn : plainName "com/example/trawl/trawl/model/XmlCharsIsCharPinLaw" = true := by first | (simp [plainName, overriddenIn]; done) | decide +kernel
theorem own_exc_ef (m : MethodId) (pp : Int32) : entryFrame m #[(.int pp)] 1 = mkF m 0 #[.val (.int pp)] [] := by first | (simp [entryFrame, mkF, argsToLocals, Value.category]; done) | rfl
def own_exc_Q (Z : State) (pp : Int32) (h0 : Heap) (n0 : Nat) (v : Option Value) (h : Heap) (L : List Loc) : Prop := v = some (.int (own_ex pp)) ∧ Fr n0 L ∧ h = h0
set_option maxRecDepth 65536 in
set_option maxHeartbeats 40000000 in
theorem own_exc (l : Launch) (Z : State) (a0 : Array Value) (hw : ∀ d ∈ tables_1, d.before a0 Z = true) (ws : List Jvm.Cond) (pp : Int32) (h0 : Heap) (n0 : Nat) (Z0 : n0 ≤ h0.size) :
    MetFree l (⟨"com/example/trawl/trawl/model/XmlCharsIsCharPinLaw", "excluded", "(I)Z"⟩ : MethodName) (head1 (Jvm.Cond.code (⟨"com/example/trawl/trawl/model/XmlCharsIsCharPinLaw", "excluded", "(I)Z"⟩ : MethodName) method_2_code 1 (some .boolean) :: ws) ({ frames := 0, cells := 0, slots := 0, locals := 0 } : Room)) (fun ars U => ars = #[(.int pp)] ∧ Z.Warmed39 U.vm ∧ U.heap = h0) (fun _ _ _ _ _ => True) (fun _ U o U' => ∃ v L, o = .returned v ∧ own_exc_Q Z pp  h0 n0 v U'.heap L ∧ FrameEnd U o U' L ({ frames := 0, cells := 0, slots := 0, locals := 0 } : Room).cells ({ frames := 0, cells := 0, slots := 0, locals := 0 } : Room).slots) := by
  refine MetFree.of_bodySF (plainFor_of_name own_exc_pn) hisR ?_
  intro p e s m args below meth c s₁ Bd hml0 hP hK
  obtain ⟨rfl, hZ, hh⟩ := hP
  have hx := Bd.exec
  have hby := Bd.bytes
  have hml : c.maxLocals = 1 := hml0
  have hown : s.vm.findClass "com/example/trawl/trawl/model/XmlCharsIsCharPinLaw" = some m.cls := findClass_of_methodNamed Bd.named
  have hnm := (name_of_methodNamed Bd.named Bd.method).1
  have X0 : Stand p l e ({ frames := 0, cells := 0, slots := 0, locals := 0 } : Room) s m #[(.int pp)] below meth c s₁ [] 0 0 := Stand.of_body Bd
  have e0 : s₁.heap = h0 := by rw [← hh, Bd.state]; rfl
  have N0 := Fr.nil n0
  generalize hS0 : s₁.setTop (entryFrame m #[(.int pp)] 1) = S0
  have c0 : Steps p.tables e below S0 (s₁.setTop (mkF m 0 #[.val (.int pp)] [])) := by rw [← hS0]; exact castTop (own_exc_ef m pp) (Steps.refl _)
  have c1 : Steps p.tables e below S0 (s₁.setTop (mkF m 1 #[.val (.int pp)] [(.int pp)])) := c0.trans (by
    refine XS.iloadN X0.here hx rfl (hb hby own_db0) rfl ?_
    exact Steps.refl _)
  by_cases hb1 : pp < (0 : Int32)
  · have c2 : Steps p.tables e below S0 (s₁.setTop (mkF m 4 #[.val (.int pp)] [])) := c1.trans (by
      refine XS.ifNo X0.here hx rfl (hb hby own_db1) rfl ((if0 _ _).trans (tlt hb1).2.1) ?_
      exact Steps.refl _)
    have c3 : Steps p.tables e below S0 (s₁.setTop (mkF m 5 #[.val (.int pp)] [(.int (1 : Int32))])) := c2.trans (by
      refine XS.iconst X0.here hx rfl (hb hby own_db4) ?_
      exact Steps.refl _)
    have hP : ¬ own_P pp.toInt := by
      rw [(own_lti (show (0 : Int32).toInt = 0 by decide))] at hb1
      unfold own_P; omega
    obtain ⟨fs, hr, hrun, hended, hW, hsame⟩ := X0.leave (v := some (.int (1 : Int32))) (fun h => by rw [Bd.returns] at h; cases h)
    exact ⟨_, _, c3.trans (retN X0 hx (t := .boolean) Bd.returns (by simp) (hb hby own_db5) hr), hrun, hended, _, _, rfl, ⟨by rw [own_ex1 hP], N0, e0⟩, ⟨_, rfl⟩, hW, hsame.mono (by decide) (by decide)⟩
  · have c4 : Steps p.tables e below S0 (s₁.setTop (mkF m 6 #[.val (.int pp)] [])) := c1.trans (by
      refine XS.ifYes X0.here hx rfl (pc0 := 1) (pc' := 6) rfl (hb hby own_db1) rfl ((if0 _ _).trans (flt hb1).2.1) (by decide) (by decide) ?_
      exact Steps.refl _)
    have c5 : Steps p.tables e below S0 (s₁.setTop (mkF m 9 #[.val (.int pp)] [(.int (8 : Int32)), (.int pp)])) := c4.trans (by
      refine XS.iloadN X0.here hx rfl (hb hby own_db6) rfl ?_
      show Steps p.tables e below (s₁.setTop (mkF m 7 #[.val (.int pp)] [(.int pp)])) _
      refine XS.bipush X0.here hx rfl (hb hby own_db7) ?_
      exact Steps.refl _)
    by_cases hb9 : (8 : Int32) < pp
    · have c6 : Steps p.tables e below S0 (s₁.setTop (mkF m 14 #[.val (.int pp)] [])) := c5.trans (by
        refine XS.icmpYes X0.here hx rfl (pc0 := 9) (pc' := 14) rfl (hb hby own_db9) rfl (tlt hb9).2.2.1 (by decide) (by decide) ?_
        exact Steps.refl _)
      have c7 : Steps p.tables e below S0 (s₁.setTop (mkF m 17 #[.val (.int pp)] [(.int (11 : Int32)), (.int pp)])) := c6.trans (by
        refine XS.iloadN X0.here hx rfl (hb hby own_db14) rfl ?_
        show Steps p.tables e below (s₁.setTop (mkF m 15 #[.val (.int pp)] [(.int pp)])) _
        refine XS.bipush X0.here hx rfl (hb hby own_db15) ?_
        exact Steps.refl _)
      by_cases hb17 : pp = (11 : Int32)
      · have c8 : Steps p.tables e below S0 (s₁.setTop (mkF m 26 #[.val (.int pp)] [])) := c7.trans (by
          refine XS.icmpYes X0.here hx rfl (pc0 := 17) (pc' := 26) rfl (hb hby own_db17) rfl (teq hb17).1 (by decide) (by decide) ?_
          exact Steps.refl _)
        have c9 : Steps p.tables e below S0 (s₁.setTop (mkF m 27 #[.val (.int pp)] [(.int (1 : Int32))])) := c8.trans (by
          refine XS.iconst X0.here hx rfl (hb hby own_db26) ?_
          exact Steps.refl _)
        have hP : ¬ own_P pp.toInt := by
          rw [(own_lti (show (0 : Int32).toInt = 0 by decide))] at hb1
          rw [(own_gti (show (8 : Int32).toInt = 8 by decide))] at hb9
          rw [(own_eqi (show (11 : Int32).toInt = 11 by decide))] at hb17
          unfold own_P; omega
        obtain ⟨fs, hr, hrun, hended, hW, hsame⟩ := X0.leave (v := some (.int (1 : Int32))) (fun h => by rw [Bd.returns] at h; cases h)
        exact ⟨_, _, c9.trans (retN X0 hx (t := .boolean) Bd.returns (by simp) (hb hby own_db27) hr), hrun, hended, _, _, rfl, ⟨by rw [own_ex1 hP], N0, e0⟩, ⟨_, rfl⟩, hW, hsame.mono (by decide) (by decide)⟩
      · have c10 : Steps p.tables e below S0 (s₁.setTop (mkF m 20 #[.val (.int pp)] [])) := c7.trans (by
          refine XS.icmpNo X0.here hx rfl (hb hby own_db17) rfl (feq hb17).1 ?_
          exact Steps.refl _)
        have c11 : Steps p.tables e below S0 (s₁.setTop (mkF m 23 #[.val (.int pp)] [(.int (12 : Int32)), (.int pp)])) := c10.trans (by
          refine XS.iloadN X0.here hx rfl (hb hby own_db20) rfl ?_
          show Steps p.tables e below (s₁.setTop (mkF m 21 #[.val (.int pp)] [(.int pp)])) _
          refine XS.bipush X0.here hx rfl (hb hby own_db21) ?_
          exact Steps.refl _)
        by_cases hb23 : pp = (12 : Int32)
        · have c12 : Steps p.tables e below S0 (s₁.setTop (mkF m 26 #[.val (.int pp)] [])) := c11.trans (by
            refine XS.icmpNo X0.here hx rfl (hb hby own_db23) rfl (teq hb23).2 ?_
            exact Steps.refl _)
          have c13 : Steps p.tables e below S0 (s₁.setTop (mkF m 27 #[.val (.int pp)] [(.int (1 : Int32))])) := c12.trans (by
            refine XS.iconst X0.here hx rfl (hb hby own_db26) ?_
            exact Steps.refl _)
          have hP : ¬ own_P pp.toInt := by
            rw [(own_lti (show (0 : Int32).toInt = 0 by decide))] at hb1
            rw [(own_gti (show (8 : Int32).toInt = 8 by decide))] at hb9
            rw [(own_eqi (show (11 : Int32).toInt = 11 by decide))] at hb17
            rw [(own_eqi (show (12 : Int32).toInt = 12 by decide))] at hb23
            unfold own_P; omega
          obtain ⟨fs, hr, hrun, hended, hW, hsame⟩ := X0.leave (v := some (.int (1 : Int32))) (fun h => by rw [Bd.returns] at h; cases h)
          exact ⟨_, _, c13.trans (retN X0 hx (t := .boolean) Bd.returns (by simp) (hb hby own_db27) hr), hrun, hended, _, _, rfl, ⟨by rw [own_ex1 hP], N0, e0⟩, ⟨_, rfl⟩, hW, hsame.mono (by decide) (by decide)⟩
        · have c14 : Steps p.tables e below S0 (s₁.setTop (mkF m 28 #[.val (.int pp)] [])) := c11.trans (by
            refine XS.icmpYes X0.here hx rfl (pc0 := 23) (pc' := 28) rfl (hb hby own_db23) rfl (feq hb23).2 (by decide) (by decide) ?_
            exact Steps.refl _)
          have c15 : Steps p.tables e below S0 (s₁.setTop (mkF m 31 #[.val (.int pp)] [(.int (14 : Int32)), (.int pp)])) := c14.trans (by
            refine XS.iloadN X0.here hx rfl (hb hby own_db28) rfl ?_
            show Steps p.tables e below (s₁.setTop (mkF m 29 #[.val (.int pp)] [(.int pp)])) _
            refine XS.bipush X0.here hx rfl (hb hby own_db29) ?_
            exact Steps.refl _)
          by_cases hb31 : pp < (14 : Int32)
          · have c16 : Steps p.tables e below S0 (s₁.setTop (mkF m 42 #[.val (.int pp)] [])) := c15.trans (by
              refine XS.icmpYes X0.here hx rfl (pc0 := 31) (pc' := 42) rfl (hb hby own_db31) rfl (tlt hb31).1 (by decide) (by decide) ?_
              exact Steps.refl _)
            have c17 : Steps p.tables e below S0 (s₁.setTop (mkF m 45 #[.val (.int pp)] [(.int (55296 : Int32)), (.int pp)])) := c16.trans (by
              refine XS.iloadN X0.here hx rfl (hb hby own_db42) rfl ?_
              show Steps p.tables e below (s₁.setTop (mkF m 43 #[.val (.int pp)] [(.int pp)])) _
              refine X0.ldcInt hx hown (mvT hZ (hw _ (List.mem_of_getElem? (i := 2) rfl))) (g := (mkF m 43 #[.val (.int pp)] [(.int pp)])) rfl (hb hby own_db43) _ ?_
              exact Steps.refl _)
            by_cases hb45 : pp < (55296 : Int32)
            · have c18 : Steps p.tables e below S0 (s₁.setTop (mkF m 56 #[.val (.int pp)] [])) := c17.trans (by
                refine XS.icmpYes X0.here hx rfl (pc0 := 45) (pc' := 56) rfl (hb hby own_db45) rfl (tlt hb45).1 (by decide) (by decide) ?_
                exact Steps.refl _)
              have c19 : Steps p.tables e below S0 (s₁.setTop (mkF m 59 #[.val (.int pp)] [(.int (65534 : Int32)), (.int pp)])) := c18.trans (by
                refine XS.iloadN X0.here hx rfl (hb hby own_db56) rfl ?_
                show Steps p.tables e below (s₁.setTop (mkF m 57 #[.val (.int pp)] [(.int pp)])) _
                refine X0.ldcInt hx hown (mvT hZ (hw _ (List.mem_of_getElem? (i := 6) rfl))) (g := (mkF m 57 #[.val (.int pp)] [(.int pp)])) rfl (hb hby own_db57) _ ?_
                exact Steps.refl _)
              by_cases hb59 : pp = (65534 : Int32)
              · have c20 : Steps p.tables e below S0 (s₁.setTop (mkF m 68 #[.val (.int pp)] [])) := c19.trans (by
                  refine XS.icmpYes X0.here hx rfl (pc0 := 59) (pc' := 68) rfl (hb hby own_db59) rfl (teq hb59).1 (by decide) (by decide) ?_
                  exact Steps.refl _)
                have c21 : Steps p.tables e below S0 (s₁.setTop (mkF m 69 #[.val (.int pp)] [(.int (1 : Int32))])) := c20.trans (by
                  refine XS.iconst X0.here hx rfl (hb hby own_db68) ?_
                  exact Steps.refl _)
                have hP : ¬ own_P pp.toInt := by
                  rw [(own_lti (show (0 : Int32).toInt = 0 by decide))] at hb1
                  rw [(own_gti (show (8 : Int32).toInt = 8 by decide))] at hb9
                  rw [(own_eqi (show (11 : Int32).toInt = 11 by decide))] at hb17
                  rw [(own_eqi (show (12 : Int32).toInt = 12 by decide))] at hb23
                  rw [(own_lti (show (14 : Int32).toInt = 14 by decide))] at hb31
                  rw [(own_lti (show (55296 : Int32).toInt = 55296 by decide))] at hb45
                  rw [(own_eqi (show (65534 : Int32).toInt = 65534 by decide))] at hb59
                  unfold own_P; omega
                obtain ⟨fs, hr, hrun, hended, hW, hsame⟩ := X0.leave (v := some (.int (1 : Int32))) (fun h => by rw [Bd.returns] at h; cases h)
                exact ⟨_, _, c21.trans (retN X0 hx (t := .boolean) Bd.returns (by simp) (hb hby own_db69) hr), hrun, hended, _, _, rfl, ⟨by rw [own_ex1 hP], N0, e0⟩, ⟨_, rfl⟩, hW, hsame.mono (by decide) (by decide)⟩
              · have c22 : Steps p.tables e below S0 (s₁.setTop (mkF m 62 #[.val (.int pp)] [])) := c19.trans (by
                  refine XS.icmpNo X0.here hx rfl (hb hby own_db59) rfl (feq hb59).1 ?_
                  exact Steps.refl _)
                have c23 : Steps p.tables e below S0 (s₁.setTop (mkF m 65 #[.val (.int pp)] [(.int (65535 : Int32)), (.int pp)])) := c22.trans (by
                  refine XS.iloadN X0.here hx rfl (hb hby own_db62) rfl ?_
                  show Steps p.tables e below (s₁.setTop (mkF m 63 #[.val (.int pp)] [(.int pp)])) _
                  refine X0.ldcInt hx hown (mvT hZ (hw _ (List.mem_of_getElem? (i := 22) rfl))) (g := (mkF m 63 #[.val (.int pp)] [(.int pp)])) rfl (hb hby own_db63) _ ?_
                  exact Steps.refl _)
                by_cases hb65 : pp = (65535 : Int32)
                · have c24 : Steps p.tables e below S0 (s₁.setTop (mkF m 68 #[.val (.int pp)] [])) := c23.trans (by
                    refine XS.icmpNo X0.here hx rfl (hb hby own_db65) rfl (teq hb65).2 ?_
                    exact Steps.refl _)
                  have c25 : Steps p.tables e below S0 (s₁.setTop (mkF m 69 #[.val (.int pp)] [(.int (1 : Int32))])) := c24.trans (by
                    refine XS.iconst X0.here hx rfl (hb hby own_db68) ?_
                    exact Steps.refl _)
                  have hP : ¬ own_P pp.toInt := by
                    rw [(own_lti (show (0 : Int32).toInt = 0 by decide))] at hb1
                    rw [(own_gti (show (8 : Int32).toInt = 8 by decide))] at hb9
                    rw [(own_eqi (show (11 : Int32).toInt = 11 by decide))] at hb17
                    rw [(own_eqi (show (12 : Int32).toInt = 12 by decide))] at hb23
                    rw [(own_lti (show (14 : Int32).toInt = 14 by decide))] at hb31
                    rw [(own_lti (show (55296 : Int32).toInt = 55296 by decide))] at hb45
                    rw [(own_eqi (show (65534 : Int32).toInt = 65534 by decide))] at hb59
                    rw [(own_eqi (show (65535 : Int32).toInt = 65535 by decide))] at hb65
                    unfold own_P; omega
                  obtain ⟨fs, hr, hrun, hended, hW, hsame⟩ := X0.leave (v := some (.int (1 : Int32))) (fun h => by rw [Bd.returns] at h; cases h)
                  exact ⟨_, _, c25.trans (retN X0 hx (t := .boolean) Bd.returns (by simp) (hb hby own_db69) hr), hrun, hended, _, _, rfl, ⟨by rw [own_ex1 hP], N0, e0⟩, ⟨_, rfl⟩, hW, hsame.mono (by decide) (by decide)⟩
                · have c26 : Steps p.tables e below S0 (s₁.setTop (mkF m 70 #[.val (.int pp)] [])) := c23.trans (by
                    refine XS.icmpYes X0.here hx rfl (pc0 := 65) (pc' := 70) rfl (hb hby own_db65) rfl (feq hb65).2 (by decide) (by decide) ?_
                    exact Steps.refl _)
                  have c27 : Steps p.tables e below S0 (s₁.setTop (mkF m 73 #[.val (.int pp)] [(.int (1114111 : Int32)), (.int pp)])) := c26.trans (by
                    refine XS.iloadN X0.here hx rfl (hb hby own_db70) rfl ?_
                    show Steps p.tables e below (s₁.setTop (mkF m 71 #[.val (.int pp)] [(.int pp)])) _
                    refine X0.ldcInt hx hown (mvT hZ (hw _ (List.mem_of_getElem? (i := 8) rfl))) (g := (mkF m 71 #[.val (.int pp)] [(.int pp)])) rfl (hb hby own_db71) _ ?_
                    exact Steps.refl _)
                  by_cases hb73 : (1114111 : Int32) < pp
                  · have c28 : Steps p.tables e below S0 (s₁.setTop (mkF m 76 #[.val (.int pp)] [])) := c27.trans (by
                      refine XS.icmpNo X0.here hx rfl (hb hby own_db73) rfl (tlt hb73).2.2.2 ?_
                      exact Steps.refl _)
                    have c29 : Steps p.tables e below S0 (s₁.setTop (mkF m 77 #[.val (.int pp)] [(.int (1 : Int32))])) := c28.trans (by
                      refine XS.iconst X0.here hx rfl (hb hby own_db76) ?_
                      exact Steps.refl _)
                    have hP : ¬ own_P pp.toInt := by
                      rw [(own_lti (show (0 : Int32).toInt = 0 by decide))] at hb1
                      rw [(own_gti (show (8 : Int32).toInt = 8 by decide))] at hb9
                      rw [(own_eqi (show (11 : Int32).toInt = 11 by decide))] at hb17
                      rw [(own_eqi (show (12 : Int32).toInt = 12 by decide))] at hb23
                      rw [(own_lti (show (14 : Int32).toInt = 14 by decide))] at hb31
                      rw [(own_lti (show (55296 : Int32).toInt = 55296 by decide))] at hb45
                      rw [(own_eqi (show (65534 : Int32).toInt = 65534 by decide))] at hb59
                      rw [(own_eqi (show (65535 : Int32).toInt = 65535 by decide))] at hb65
                      rw [(own_gti (show (1114111 : Int32).toInt = 1114111 by decide))] at hb73
                      unfold own_P; omega
                    obtain ⟨fs, hr, hrun, hended, hW, hsame⟩ := X0.leave (v := some (.int (1 : Int32))) (fun h => by rw [Bd.returns] at h; cases h)
                    exact ⟨_, _, c29.trans (retN X0 hx (t := .boolean) Bd.returns (by simp) (hb hby own_db77) hr), hrun, hended, _, _, rfl, ⟨by rw [own_ex1 hP], N0, e0⟩, ⟨_, rfl⟩, hW, hsame.mono (by decide) (by decide)⟩
                  · have c30 : Steps p.tables e below S0 (s₁.setTop (mkF m 78 #[.val (.int pp)] [])) := c27.trans (by
                      refine XS.icmpYes X0.here hx rfl (pc0 := 73) (pc' := 78) rfl (hb hby own_db73) rfl (flt hb73).2.2.2 (by decide) (by decide) ?_
                      exact Steps.refl _)
                    have c31 : Steps p.tables e below S0 (s₁.setTop (mkF m 79 #[.val (.int pp)] [(.int (0 : Int32))])) := c30.trans (by
                      refine XS.iconst X0.here hx rfl (hb hby own_db78) ?_
                      exact Steps.refl _)
                    have hP : own_P pp.toInt := by
                      rw [(own_lti (show (0 : Int32).toInt = 0 by decide))] at hb1
                      rw [(own_gti (show (8 : Int32).toInt = 8 by decide))] at hb9
                      rw [(own_eqi (show (11 : Int32).toInt = 11 by decide))] at hb17
                      rw [(own_eqi (show (12 : Int32).toInt = 12 by decide))] at hb23
                      rw [(own_lti (show (14 : Int32).toInt = 14 by decide))] at hb31
                      rw [(own_lti (show (55296 : Int32).toInt = 55296 by decide))] at hb45
                      rw [(own_eqi (show (65534 : Int32).toInt = 65534 by decide))] at hb59
                      rw [(own_eqi (show (65535 : Int32).toInt = 65535 by decide))] at hb65
                      rw [(own_gti (show (1114111 : Int32).toInt = 1114111 by decide))] at hb73
                      unfold own_P; omega
                    obtain ⟨fs, hr, hrun, hended, hW, hsame⟩ := X0.leave (v := some (.int (0 : Int32))) (fun h => by rw [Bd.returns] at h; cases h)
                    exact ⟨_, _, c31.trans (retN X0 hx (t := .boolean) Bd.returns (by simp) (hb hby own_db79) hr), hrun, hended, _, _, rfl, ⟨by rw [own_ex0 hP], N0, e0⟩, ⟨_, rfl⟩, hW, hsame.mono (by decide) (by decide)⟩
            · have c32 : Steps p.tables e below S0 (s₁.setTop (mkF m 48 #[.val (.int pp)] [])) := c17.trans (by
                refine XS.icmpNo X0.here hx rfl (hb hby own_db45) rfl (flt hb45).1 ?_
                exact Steps.refl _)
              have c33 : Steps p.tables e below S0 (s₁.setTop (mkF m 51 #[.val (.int pp)] [(.int (57343 : Int32)), (.int pp)])) := c32.trans (by
                refine XS.iloadN X0.here hx rfl (hb hby own_db48) rfl ?_
                show Steps p.tables e below (s₁.setTop (mkF m 49 #[.val (.int pp)] [(.int pp)])) _
                refine X0.ldcInt hx hown (mvT hZ (hw _ (List.mem_of_getElem? (i := 3) rfl))) (g := (mkF m 49 #[.val (.int pp)] [(.int pp)])) rfl (hb hby own_db49) _ ?_
                exact Steps.refl _)
              by_cases hb51 : (57343 : Int32) < pp
              · have c34 : Steps p.tables e below S0 (s₁.setTop (mkF m 56 #[.val (.int pp)] [])) := c33.trans (by
                  refine XS.icmpYes X0.here hx rfl (pc0 := 51) (pc' := 56) rfl (hb hby own_db51) rfl (tlt hb51).2.2.1 (by decide) (by decide) ?_
                  exact Steps.refl _)
                have c35 : Steps p.tables e below S0 (s₁.setTop (mkF m 59 #[.val (.int pp)] [(.int (65534 : Int32)), (.int pp)])) := c34.trans (by
                  refine XS.iloadN X0.here hx rfl (hb hby own_db56) rfl ?_
                  show Steps p.tables e below (s₁.setTop (mkF m 57 #[.val (.int pp)] [(.int pp)])) _
                  refine X0.ldcInt hx hown (mvT hZ (hw _ (List.mem_of_getElem? (i := 6) rfl))) (g := (mkF m 57 #[.val (.int pp)] [(.int pp)])) rfl (hb hby own_db57) _ ?_
                  exact Steps.refl _)
                by_cases hb59 : pp = (65534 : Int32)
                · have c36 : Steps p.tables e below S0 (s₁.setTop (mkF m 68 #[.val (.int pp)] [])) := c35.trans (by
                    refine XS.icmpYes X0.here hx rfl (pc0 := 59) (pc' := 68) rfl (hb hby own_db59) rfl (teq hb59).1 (by decide) (by decide) ?_
                    exact Steps.refl _)
                  have c37 : Steps p.tables e below S0 (s₁.setTop (mkF m 69 #[.val (.int pp)] [(.int (1 : Int32))])) := c36.trans (by
                    refine XS.iconst X0.here hx rfl (hb hby own_db68) ?_
                    exact Steps.refl _)
                  have hP : ¬ own_P pp.toInt := by
                    rw [(own_lti (show (0 : Int32).toInt = 0 by decide))] at hb1
                    rw [(own_gti (show (8 : Int32).toInt = 8 by decide))] at hb9
                    rw [(own_eqi (show (11 : Int32).toInt = 11 by decide))] at hb17
                    rw [(own_eqi (show (12 : Int32).toInt = 12 by decide))] at hb23
                    rw [(own_lti (show (14 : Int32).toInt = 14 by decide))] at hb31
                    rw [(own_lti (show (55296 : Int32).toInt = 55296 by decide))] at hb45
                    rw [(own_gti (show (57343 : Int32).toInt = 57343 by decide))] at hb51
                    rw [(own_eqi (show (65534 : Int32).toInt = 65534 by decide))] at hb59
                    unfold own_P; omega
                  obtain ⟨fs, hr, hrun, hended, hW, hsame⟩ := X0.leave (v := some (.int (1 : Int32))) (fun h => by rw [Bd.returns] at h; cases h)
                  exact ⟨_, _, c37.trans (retN X0 hx (t := .boolean) Bd.returns (by simp) (hb hby own_db69) hr), hrun, hended, _, _, rfl, ⟨by rw [own_ex1 hP], N0, e0⟩, ⟨_, rfl⟩, hW, hsame.mono (by decide) (by decide)⟩
                · have c38 : Steps p.tables e below S0 (s₁.setTop (mkF m 62 #[.val (.int pp)] [])) := c35.trans (by
                    refine XS.icmpNo X0.here hx rfl (hb hby own_db59) rfl (feq hb59).1 ?_
                    exact Steps.refl _)
                  have c39 : Steps p.tables e below S0 (s₁.setTop (mkF m 65 #[.val (.int pp)] [(.int (65535 : Int32)), (.int pp)])) := c38.trans (by
                    refine XS.iloadN X0.here hx rfl (hb hby own_db62) rfl ?_
                    show Steps p.tables e below (s₁.setTop (mkF m 63 #[.val (.int pp)] [(.int pp)])) _
                    refine X0.ldcInt hx hown (mvT hZ (hw _ (List.mem_of_getElem? (i := 22) rfl))) (g := (mkF m 63 #[.val (.int pp)] [(.int pp)])) rfl (hb hby own_db63) _ ?_
                    exact Steps.refl _)
                  by_cases hb65 : pp = (65535 : Int32)
                  · have c40 : Steps p.tables e below S0 (s₁.setTop (mkF m 68 #[.val (.int pp)] [])) := c39.trans (by
                      refine XS.icmpNo X0.here hx rfl (hb hby own_db65) rfl (teq hb65).2 ?_
                      exact Steps.refl _)
                    have c41 : Steps p.tables e below S0 (s₁.setTop (mkF m 69 #[.val (.int pp)] [(.int (1 : Int32))])) := c40.trans (by
                      refine XS.iconst X0.here hx rfl (hb hby own_db68) ?_
                      exact Steps.refl _)
                    have hP : ¬ own_P pp.toInt := by
                      rw [(own_lti (show (0 : Int32).toInt = 0 by decide))] at hb1
                      rw [(own_gti (show (8 : Int32).toInt = 8 by decide))] at hb9
                      rw [(own_eqi (show (11 : Int32).toInt = 11 by decide))] at hb17
                      rw [(own_eqi (show (12 : Int32).toInt = 12 by decide))] at hb23
                      rw [(own_lti (show (14 : Int32).toInt = 14 by decide))] at hb31
                      rw [(own_lti (show (55296 : Int32).toInt = 55296 by decide))] at hb45
                      rw [(own_gti (show (57343 : Int32).toInt = 57343 by decide))] at hb51
                      rw [(own_eqi (show (65534 : Int32).toInt = 65534 by decide))] at hb59
                      rw [(own_eqi (show (65535 : Int32).toInt = 65535 by decide))] at hb65
                      unfold own_P; omega
                    obtain ⟨fs, hr, hrun, hended, hW, hsame⟩ := X0.leave (v := some (.int (1 : Int32))) (fun h => by rw [Bd.returns] at h; cases h)
                    exact ⟨_, _, c41.trans (retN X0 hx (t := .boolean) Bd.returns (by simp) (hb hby own_db69) hr), hrun, hended, _, _, rfl, ⟨by rw [own_ex1 hP], N0, e0⟩, ⟨_, rfl⟩, hW, hsame.mono (by decide) (by decide)⟩
                  · have c42 : Steps p.tables e below S0 (s₁.setTop (mkF m 70 #[.val (.int pp)] [])) := c39.trans (by
                      refine XS.icmpYes X0.here hx rfl (pc0 := 65) (pc' := 70) rfl (hb hby own_db65) rfl (feq hb65).2 (by decide) (by decide) ?_
                      exact Steps.refl _)
                    have c43 : Steps p.tables e below S0 (s₁.setTop (mkF m 73 #[.val (.int pp)] [(.int (1114111 : Int32)), (.int pp)])) := c42.trans (by
                      refine XS.iloadN X0.here hx rfl (hb hby own_db70) rfl ?_
                      show Steps p.tables e below (s₁.setTop (mkF m 71 #[.val (.int pp)] [(.int pp)])) _
                      refine X0.ldcInt hx hown (mvT hZ (hw _ (List.mem_of_getElem? (i := 8) rfl))) (g := (mkF m 71 #[.val (.int pp)] [(.int pp)])) rfl (hb hby own_db71) _ ?_
                      exact Steps.refl _)
                    by_cases hb73 : (1114111 : Int32) < pp
                    · have c44 : Steps p.tables e below S0 (s₁.setTop (mkF m 76 #[.val (.int pp)] [])) := c43.trans (by
                        refine XS.icmpNo X0.here hx rfl (hb hby own_db73) rfl (tlt hb73).2.2.2 ?_
                        exact Steps.refl _)
                      have c45 : Steps p.tables e below S0 (s₁.setTop (mkF m 77 #[.val (.int pp)] [(.int (1 : Int32))])) := c44.trans (by
                        refine XS.iconst X0.here hx rfl (hb hby own_db76) ?_
                        exact Steps.refl _)
                      have hP : ¬ own_P pp.toInt := by
                        rw [(own_lti (show (0 : Int32).toInt = 0 by decide))] at hb1
                        rw [(own_gti (show (8 : Int32).toInt = 8 by decide))] at hb9
                        rw [(own_eqi (show (11 : Int32).toInt = 11 by decide))] at hb17
                        rw [(own_eqi (show (12 : Int32).toInt = 12 by decide))] at hb23
                        rw [(own_lti (show (14 : Int32).toInt = 14 by decide))] at hb31
                        rw [(own_lti (show (55296 : Int32).toInt = 55296 by decide))] at hb45
                        rw [(own_gti (show (57343 : Int32).toInt = 57343 by decide))] at hb51
                        rw [(own_eqi (show (65534 : Int32).toInt = 65534 by decide))] at hb59
                        rw [(own_eqi (show (65535 : Int32).toInt = 65535 by decide))] at hb65
                        rw [(own_gti (show (1114111 : Int32).toInt = 1114111 by decide))] at hb73
                        unfold own_P; omega
                      obtain ⟨fs, hr, hrun, hended, hW, hsame⟩ := X0.leave (v := some (.int (1 : Int32))) (fun h => by rw [Bd.returns] at h; cases h)
                      exact ⟨_, _, c45.trans (retN X0 hx (t := .boolean) Bd.returns (by simp) (hb hby own_db77) hr), hrun, hended, _, _, rfl, ⟨by rw [own_ex1 hP], N0, e0⟩, ⟨_, rfl⟩, hW, hsame.mono (by decide) (by decide)⟩
                    · have c46 : Steps p.tables e below S0 (s₁.setTop (mkF m 78 #[.val (.int pp)] [])) := c43.trans (by
                        refine XS.icmpYes X0.here hx rfl (pc0 := 73) (pc' := 78) rfl (hb hby own_db73) rfl (flt hb73).2.2.2 (by decide) (by decide) ?_
                        exact Steps.refl _)
                      have c47 : Steps p.tables e below S0 (s₁.setTop (mkF m 79 #[.val (.int pp)] [(.int (0 : Int32))])) := c46.trans (by
                        refine XS.iconst X0.here hx rfl (hb hby own_db78) ?_
                        exact Steps.refl _)
                      have hP : own_P pp.toInt := by
                        rw [(own_lti (show (0 : Int32).toInt = 0 by decide))] at hb1
                        rw [(own_gti (show (8 : Int32).toInt = 8 by decide))] at hb9
                        rw [(own_eqi (show (11 : Int32).toInt = 11 by decide))] at hb17
                        rw [(own_eqi (show (12 : Int32).toInt = 12 by decide))] at hb23
                        rw [(own_lti (show (14 : Int32).toInt = 14 by decide))] at hb31
                        rw [(own_lti (show (55296 : Int32).toInt = 55296 by decide))] at hb45
                        rw [(own_gti (show (57343 : Int32).toInt = 57343 by decide))] at hb51
                        rw [(own_eqi (show (65534 : Int32).toInt = 65534 by decide))] at hb59
                        rw [(own_eqi (show (65535 : Int32).toInt = 65535 by decide))] at hb65
                        rw [(own_gti (show (1114111 : Int32).toInt = 1114111 by decide))] at hb73
                        unfold own_P; omega
                      obtain ⟨fs, hr, hrun, hended, hW, hsame⟩ := X0.leave (v := some (.int (0 : Int32))) (fun h => by rw [Bd.returns] at h; cases h)
                      exact ⟨_, _, c47.trans (retN X0 hx (t := .boolean) Bd.returns (by simp) (hb hby own_db79) hr), hrun, hended, _, _, rfl, ⟨by rw [own_ex0 hP], N0, e0⟩, ⟨_, rfl⟩, hW, hsame.mono (by decide) (by decide)⟩
              · have c48 : Steps p.tables e below S0 (s₁.setTop (mkF m 54 #[.val (.int pp)] [])) := c33.trans (by
                  refine XS.icmpNo X0.here hx rfl (hb hby own_db51) rfl (flt hb51).2.2.1 ?_
                  exact Steps.refl _)
                have c49 : Steps p.tables e below S0 (s₁.setTop (mkF m 55 #[.val (.int pp)] [(.int (1 : Int32))])) := c48.trans (by
                  refine XS.iconst X0.here hx rfl (hb hby own_db54) ?_
                  exact Steps.refl _)
                have hP : ¬ own_P pp.toInt := by
                  rw [(own_lti (show (0 : Int32).toInt = 0 by decide))] at hb1
                  rw [(own_gti (show (8 : Int32).toInt = 8 by decide))] at hb9
                  rw [(own_eqi (show (11 : Int32).toInt = 11 by decide))] at hb17
                  rw [(own_eqi (show (12 : Int32).toInt = 12 by decide))] at hb23
                  rw [(own_lti (show (14 : Int32).toInt = 14 by decide))] at hb31
                  rw [(own_lti (show (55296 : Int32).toInt = 55296 by decide))] at hb45
                  rw [(own_gti (show (57343 : Int32).toInt = 57343 by decide))] at hb51
                  unfold own_P; omega
                obtain ⟨fs, hr, hrun, hended, hW, hsame⟩ := X0.leave (v := some (.int (1 : Int32))) (fun h => by rw [Bd.returns] at h; cases h)
                exact ⟨_, _, c49.trans (retN X0 hx (t := .boolean) Bd.returns (by simp) (hb hby own_db55) hr), hrun, hended, _, _, rfl, ⟨by rw [own_ex1 hP], N0, e0⟩, ⟨_, rfl⟩, hW, hsame.mono (by decide) (by decide)⟩
          · have c50 : Steps p.tables e below S0 (s₁.setTop (mkF m 34 #[.val (.int pp)] [])) := c15.trans (by
              refine XS.icmpNo X0.here hx rfl (hb hby own_db31) rfl (flt hb31).1 ?_
              exact Steps.refl _)
            have c51 : Steps p.tables e below S0 (s₁.setTop (mkF m 37 #[.val (.int pp)] [(.int (31 : Int32)), (.int pp)])) := c50.trans (by
              refine XS.iloadN X0.here hx rfl (hb hby own_db34) rfl ?_
              show Steps p.tables e below (s₁.setTop (mkF m 35 #[.val (.int pp)] [(.int pp)])) _
              refine XS.bipush X0.here hx rfl (hb hby own_db35) ?_
              exact Steps.refl _)
            by_cases hb37 : (31 : Int32) < pp
            · have c52 : Steps p.tables e below S0 (s₁.setTop (mkF m 42 #[.val (.int pp)] [])) := c51.trans (by
                refine XS.icmpYes X0.here hx rfl (pc0 := 37) (pc' := 42) rfl (hb hby own_db37) rfl (tlt hb37).2.2.1 (by decide) (by decide) ?_
                exact Steps.refl _)
              have c53 : Steps p.tables e below S0 (s₁.setTop (mkF m 45 #[.val (.int pp)] [(.int (55296 : Int32)), (.int pp)])) := c52.trans (by
                refine XS.iloadN X0.here hx rfl (hb hby own_db42) rfl ?_
                show Steps p.tables e below (s₁.setTop (mkF m 43 #[.val (.int pp)] [(.int pp)])) _
                refine X0.ldcInt hx hown (mvT hZ (hw _ (List.mem_of_getElem? (i := 2) rfl))) (g := (mkF m 43 #[.val (.int pp)] [(.int pp)])) rfl (hb hby own_db43) _ ?_
                exact Steps.refl _)
              by_cases hb45 : pp < (55296 : Int32)
              · have c54 : Steps p.tables e below S0 (s₁.setTop (mkF m 56 #[.val (.int pp)] [])) := c53.trans (by
                  refine XS.icmpYes X0.here hx rfl (pc0 := 45) (pc' := 56) rfl (hb hby own_db45) rfl (tlt hb45).1 (by decide) (by decide) ?_
                  exact Steps.refl _)
                have c55 : Steps p.tables e below S0 (s₁.setTop (mkF m 59 #[.val (.int pp)] [(.int (65534 : Int32)), (.int pp)])) := c54.trans (by
                  refine XS.iloadN X0.here hx rfl (hb hby own_db56) rfl ?_
                  show Steps p.tables e below (s₁.setTop (mkF m 57 #[.val (.int pp)] [(.int pp)])) _
                  refine X0.ldcInt hx hown (mvT hZ (hw _ (List.mem_of_getElem? (i := 6) rfl))) (g := (mkF m 57 #[.val (.int pp)] [(.int pp)])) rfl (hb hby own_db57) _ ?_
                  exact Steps.refl _)
                by_cases hb59 : pp = (65534 : Int32)
                · have c56 : Steps p.tables e below S0 (s₁.setTop (mkF m 68 #[.val (.int pp)] [])) := c55.trans (by
                    refine XS.icmpYes X0.here hx rfl (pc0 := 59) (pc' := 68) rfl (hb hby own_db59) rfl (teq hb59).1 (by decide) (by decide) ?_
                    exact Steps.refl _)
                  have c57 : Steps p.tables e below S0 (s₁.setTop (mkF m 69 #[.val (.int pp)] [(.int (1 : Int32))])) := c56.trans (by
                    refine XS.iconst X0.here hx rfl (hb hby own_db68) ?_
                    exact Steps.refl _)
                  have hP : ¬ own_P pp.toInt := by
                    rw [(own_lti (show (0 : Int32).toInt = 0 by decide))] at hb1
                    rw [(own_gti (show (8 : Int32).toInt = 8 by decide))] at hb9
                    rw [(own_eqi (show (11 : Int32).toInt = 11 by decide))] at hb17
                    rw [(own_eqi (show (12 : Int32).toInt = 12 by decide))] at hb23
                    rw [(own_lti (show (14 : Int32).toInt = 14 by decide))] at hb31
                    rw [(own_gti (show (31 : Int32).toInt = 31 by decide))] at hb37
                    rw [(own_lti (show (55296 : Int32).toInt = 55296 by decide))] at hb45
                    rw [(own_eqi (show (65534 : Int32).toInt = 65534 by decide))] at hb59
                    unfold own_P; omega
                  obtain ⟨fs, hr, hrun, hended, hW, hsame⟩ := X0.leave (v := some (.int (1 : Int32))) (fun h => by rw [Bd.returns] at h; cases h)
                  exact ⟨_, _, c57.trans (retN X0 hx (t := .boolean) Bd.returns (by simp) (hb hby own_db69) hr), hrun, hended, _, _, rfl, ⟨by rw [own_ex1 hP], N0, e0⟩, ⟨_, rfl⟩, hW, hsame.mono (by decide) (by decide)⟩
                · have c58 : Steps p.tables e below S0 (s₁.setTop (mkF m 62 #[.val (.int pp)] [])) := c55.trans (by
                    refine XS.icmpNo X0.here hx rfl (hb hby own_db59) rfl (feq hb59).1 ?_
                    exact Steps.refl _)
                  have c59 : Steps p.tables e below S0 (s₁.setTop (mkF m 65 #[.val (.int pp)] [(.int (65535 : Int32)), (.int pp)])) := c58.trans (by
                    refine XS.iloadN X0.here hx rfl (hb hby own_db62) rfl ?_
                    show Steps p.tables e below (s₁.setTop (mkF m 63 #[.val (.int pp)] [(.int pp)])) _
                    refine X0.ldcInt hx hown (mvT hZ (hw _ (List.mem_of_getElem? (i := 22) rfl))) (g := (mkF m 63 #[.val (.int pp)] [(.int pp)])) rfl (hb hby own_db63) _ ?_
                    exact Steps.refl _)
                  by_cases hb65 : pp = (65535 : Int32)
                  · have c60 : Steps p.tables e below S0 (s₁.setTop (mkF m 68 #[.val (.int pp)] [])) := c59.trans (by
                      refine XS.icmpNo X0.here hx rfl (hb hby own_db65) rfl (teq hb65).2 ?_
                      exact Steps.refl _)
                    have c61 : Steps p.tables e below S0 (s₁.setTop (mkF m 69 #[.val (.int pp)] [(.int (1 : Int32))])) := c60.trans (by
                      refine XS.iconst X0.here hx rfl (hb hby own_db68) ?_
                      exact Steps.refl _)
                    have hP : ¬ own_P pp.toInt := by
                      rw [(own_lti (show (0 : Int32).toInt = 0 by decide))] at hb1
                      rw [(own_gti (show (8 : Int32).toInt = 8 by decide))] at hb9
                      rw [(own_eqi (show (11 : Int32).toInt = 11 by decide))] at hb17
                      rw [(own_eqi (show (12 : Int32).toInt = 12 by decide))] at hb23
                      rw [(own_lti (show (14 : Int32).toInt = 14 by decide))] at hb31
                      rw [(own_gti (show (31 : Int32).toInt = 31 by decide))] at hb37
                      rw [(own_lti (show (55296 : Int32).toInt = 55296 by decide))] at hb45
                      rw [(own_eqi (show (65534 : Int32).toInt = 65534 by decide))] at hb59
                      rw [(own_eqi (show (65535 : Int32).toInt = 65535 by decide))] at hb65
                      unfold own_P; omega
                    obtain ⟨fs, hr, hrun, hended, hW, hsame⟩ := X0.leave (v := some (.int (1 : Int32))) (fun h => by rw [Bd.returns] at h; cases h)
                    exact ⟨_, _, c61.trans (retN X0 hx (t := .boolean) Bd.returns (by simp) (hb hby own_db69) hr), hrun, hended, _, _, rfl, ⟨by rw [own_ex1 hP], N0, e0⟩, ⟨_, rfl⟩, hW, hsame.mono (by decide) (by decide)⟩
                  · have c62 : Steps p.tables e below S0 (s₁.setTop (mkF m 70 #[.val (.int pp)] [])) := c59.trans (by
                      refine XS.icmpYes X0.here hx rfl (pc0 := 65) (pc' := 70) rfl (hb hby own_db65) rfl (feq hb65).2 (by decide) (by decide) ?_
                      exact Steps.refl _)
                    have c63 : Steps p.tables e below S0 (s₁.setTop (mkF m 73 #[.val (.int pp)] [(.int (1114111 : Int32)), (.int pp)])) := c62.trans (by
                      refine XS.iloadN X0.here hx rfl (hb hby own_db70) rfl ?_
                      show Steps p.tables e below (s₁.setTop (mkF m 71 #[.val (.int pp)] [(.int pp)])) _
                      refine X0.ldcInt hx hown (mvT hZ (hw _ (List.mem_of_getElem? (i := 8) rfl))) (g := (mkF m 71 #[.val (.int pp)] [(.int pp)])) rfl (hb hby own_db71) _ ?_
                      exact Steps.refl _)
                    by_cases hb73 : (1114111 : Int32) < pp
                    · have c64 : Steps p.tables e below S0 (s₁.setTop (mkF m 76 #[.val (.int pp)] [])) := c63.trans (by
                        refine XS.icmpNo X0.here hx rfl (hb hby own_db73) rfl (tlt hb73).2.2.2 ?_
                        exact Steps.refl _)
                      have c65 : Steps p.tables e below S0 (s₁.setTop (mkF m 77 #[.val (.int pp)] [(.int (1 : Int32))])) := c64.trans (by
                        refine XS.iconst X0.here hx rfl (hb hby own_db76) ?_
                        exact Steps.refl _)
                      have hP : ¬ own_P pp.toInt := by
                        rw [(own_lti (show (0 : Int32).toInt = 0 by decide))] at hb1
                        rw [(own_gti (show (8 : Int32).toInt = 8 by decide))] at hb9
                        rw [(own_eqi (show (11 : Int32).toInt = 11 by decide))] at hb17
                        rw [(own_eqi (show (12 : Int32).toInt = 12 by decide))] at hb23
                        rw [(own_lti (show (14 : Int32).toInt = 14 by decide))] at hb31
                        rw [(own_gti (show (31 : Int32).toInt = 31 by decide))] at hb37
                        rw [(own_lti (show (55296 : Int32).toInt = 55296 by decide))] at hb45
                        rw [(own_eqi (show (65534 : Int32).toInt = 65534 by decide))] at hb59
                        rw [(own_eqi (show (65535 : Int32).toInt = 65535 by decide))] at hb65
                        rw [(own_gti (show (1114111 : Int32).toInt = 1114111 by decide))] at hb73
                        unfold own_P; omega
                      obtain ⟨fs, hr, hrun, hended, hW, hsame⟩ := X0.leave (v := some (.int (1 : Int32))) (fun h => by rw [Bd.returns] at h; cases h)
                      exact ⟨_, _, c65.trans (retN X0 hx (t := .boolean) Bd.returns (by simp) (hb hby own_db77) hr), hrun, hended, _, _, rfl, ⟨by rw [own_ex1 hP], N0, e0⟩, ⟨_, rfl⟩, hW, hsame.mono (by decide) (by decide)⟩
                    · have c66 : Steps p.tables e below S0 (s₁.setTop (mkF m 78 #[.val (.int pp)] [])) := c63.trans (by
                        refine XS.icmpYes X0.here hx rfl (pc0 := 73) (pc' := 78) rfl (hb hby own_db73) rfl (flt hb73).2.2.2 (by decide) (by decide) ?_
                        exact Steps.refl _)
                      have c67 : Steps p.tables e below S0 (s₁.setTop (mkF m 79 #[.val (.int pp)] [(.int (0 : Int32))])) := c66.trans (by
                        refine XS.iconst X0.here hx rfl (hb hby own_db78) ?_
                        exact Steps.refl _)
                      have hP : own_P pp.toInt := by
                        rw [(own_lti (show (0 : Int32).toInt = 0 by decide))] at hb1
                        rw [(own_gti (show (8 : Int32).toInt = 8 by decide))] at hb9
                        rw [(own_eqi (show (11 : Int32).toInt = 11 by decide))] at hb17
                        rw [(own_eqi (show (12 : Int32).toInt = 12 by decide))] at hb23
                        rw [(own_lti (show (14 : Int32).toInt = 14 by decide))] at hb31
                        rw [(own_gti (show (31 : Int32).toInt = 31 by decide))] at hb37
                        rw [(own_lti (show (55296 : Int32).toInt = 55296 by decide))] at hb45
                        rw [(own_eqi (show (65534 : Int32).toInt = 65534 by decide))] at hb59
                        rw [(own_eqi (show (65535 : Int32).toInt = 65535 by decide))] at hb65
                        rw [(own_gti (show (1114111 : Int32).toInt = 1114111 by decide))] at hb73
                        unfold own_P; omega
                      obtain ⟨fs, hr, hrun, hended, hW, hsame⟩ := X0.leave (v := some (.int (0 : Int32))) (fun h => by rw [Bd.returns] at h; cases h)
                      exact ⟨_, _, c67.trans (retN X0 hx (t := .boolean) Bd.returns (by simp) (hb hby own_db79) hr), hrun, hended, _, _, rfl, ⟨by rw [own_ex0 hP], N0, e0⟩, ⟨_, rfl⟩, hW, hsame.mono (by decide) (by decide)⟩
              · have c68 : Steps p.tables e below S0 (s₁.setTop (mkF m 48 #[.val (.int pp)] [])) := c53.trans (by
                  refine XS.icmpNo X0.here hx rfl (hb hby own_db45) rfl (flt hb45).1 ?_
                  exact Steps.refl _)
                have c69 : Steps p.tables e below S0 (s₁.setTop (mkF m 51 #[.val (.int pp)] [(.int (57343 : Int32)), (.int pp)])) := c68.trans (by
                  refine XS.iloadN X0.here hx rfl (hb hby own_db48) rfl ?_
                  show Steps p.tables e below (s₁.setTop (mkF m 49 #[.val (.int pp)] [(.int pp)])) _
                  refine X0.ldcInt hx hown (mvT hZ (hw _ (List.mem_of_getElem? (i := 3) rfl))) (g := (mkF m 49 #[.val (.int pp)] [(.int pp)])) rfl (hb hby own_db49) _ ?_
                  exact Steps.refl _)
                by_cases hb51 : (57343 : Int32) < pp
                · have c70 : Steps p.tables e below S0 (s₁.setTop (mkF m 56 #[.val (.int pp)] [])) := c69.trans (by
                    refine XS.icmpYes X0.here hx rfl (pc0 := 51) (pc' := 56) rfl (hb hby own_db51) rfl (tlt hb51).2.2.1 (by decide) (by decide) ?_
                    exact Steps.refl _)
                  have c71 : Steps p.tables e below S0 (s₁.setTop (mkF m 59 #[.val (.int pp)] [(.int (65534 : Int32)), (.int pp)])) := c70.trans (by
                    refine XS.iloadN X0.here hx rfl (hb hby own_db56) rfl ?_
                    show Steps p.tables e below (s₁.setTop (mkF m 57 #[.val (.int pp)] [(.int pp)])) _
                    refine X0.ldcInt hx hown (mvT hZ (hw _ (List.mem_of_getElem? (i := 6) rfl))) (g := (mkF m 57 #[.val (.int pp)] [(.int pp)])) rfl (hb hby own_db57) _ ?_
                    exact Steps.refl _)
                  by_cases hb59 : pp = (65534 : Int32)
                  · have c72 : Steps p.tables e below S0 (s₁.setTop (mkF m 68 #[.val (.int pp)] [])) := c71.trans (by
                      refine XS.icmpYes X0.here hx rfl (pc0 := 59) (pc' := 68) rfl (hb hby own_db59) rfl (teq hb59).1 (by decide) (by decide) ?_
                      exact Steps.refl _)
                    have c73 : Steps p.tables e below S0 (s₁.setTop (mkF m 69 #[.val (.int pp)] [(.int (1 : Int32))])) := c72.trans (by
                      refine XS.iconst X0.here hx rfl (hb hby own_db68) ?_
                      exact Steps.refl _)
                    have hP : ¬ own_P pp.toInt := by
                      rw [(own_lti (show (0 : Int32).toInt = 0 by decide))] at hb1
                      rw [(own_gti (show (8 : Int32).toInt = 8 by decide))] at hb9
                      rw [(own_eqi (show (11 : Int32).toInt = 11 by decide))] at hb17
                      rw [(own_eqi (show (12 : Int32).toInt = 12 by decide))] at hb23
                      rw [(own_lti (show (14 : Int32).toInt = 14 by decide))] at hb31
                      rw [(own_gti (show (31 : Int32).toInt = 31 by decide))] at hb37
                      rw [(own_lti (show (55296 : Int32).toInt = 55296 by decide))] at hb45
                      rw [(own_gti (show (57343 : Int32).toInt = 57343 by decide))] at hb51
                      rw [(own_eqi (show (65534 : Int32).toInt = 65534 by decide))] at hb59
                      unfold own_P; omega
                    obtain ⟨fs, hr, hrun, hended, hW, hsame⟩ := X0.leave (v := some (.int (1 : Int32))) (fun h => by rw [Bd.returns] at h; cases h)
                    exact ⟨_, _, c73.trans (retN X0 hx (t := .boolean) Bd.returns (by simp) (hb hby own_db69) hr), hrun, hended, _, _, rfl, ⟨by rw [own_ex1 hP], N0, e0⟩, ⟨_, rfl⟩, hW, hsame.mono (by decide) (by decide)⟩
                  · have c74 : Steps p.tables e below S0 (s₁.setTop (mkF m 62 #[.val (.int pp)] [])) := c71.trans (by
                      refine XS.icmpNo X0.here hx rfl (hb hby own_db59) rfl (feq hb59).1 ?_
                      exact Steps.refl _)
                    have c75 : Steps p.tables e below S0 (s₁.setTop (mkF m 65 #[.val (.int pp)] [(.int (65535 : Int32)), (.int pp)])) := c74.trans (by
                      refine XS.iloadN X0.here hx rfl (hb hby own_db62) rfl ?_
                      show Steps p.tables e below (s₁.setTop (mkF m 63 #[.val (.int pp)] [(.int pp)])) _
                      refine X0.ldcInt hx hown (mvT hZ (hw _ (List.mem_of_getElem? (i := 22) rfl))) (g := (mkF m 63 #[.val (.int pp)] [(.int pp)])) rfl (hb hby own_db63) _ ?_
                      exact Steps.refl _)
                    by_cases hb65 : pp = (65535 : Int32)
                    · have c76 : Steps p.tables e below S0 (s₁.setTop (mkF m 68 #[.val (.int pp)] [])) := c75.trans (by
                        refine XS.icmpNo X0.here hx rfl (hb hby own_db65) rfl (teq hb65).2 ?_
                        exact Steps.refl _)
                      have c77 : Steps p.tables e below S0 (s₁.setTop (mkF m 69 #[.val (.int pp)] [(.int (1 : Int32))])) := c76.trans (by
                        refine XS.iconst X0.here hx rfl (hb hby own_db68) ?_
                        exact Steps.refl _)
                      have hP : ¬ own_P pp.toInt := by
                        rw [(own_lti (show (0 : Int32).toInt = 0 by decide))] at hb1
                        rw [(own_gti (show (8 : Int32).toInt = 8 by decide))] at hb9
                        rw [(own_eqi (show (11 : Int32).toInt = 11 by decide))] at hb17
                        rw [(own_eqi (show (12 : Int32).toInt = 12 by decide))] at hb23
                        rw [(own_lti (show (14 : Int32).toInt = 14 by decide))] at hb31
                        rw [(own_gti (show (31 : Int32).toInt = 31 by decide))] at hb37
                        rw [(own_lti (show (55296 : Int32).toInt = 55296 by decide))] at hb45
                        rw [(own_gti (show (57343 : Int32).toInt = 57343 by decide))] at hb51
                        rw [(own_eqi (show (65534 : Int32).toInt = 65534 by decide))] at hb59
                        rw [(own_eqi (show (65535 : Int32).toInt = 65535 by decide))] at hb65
                        unfold own_P; omega
                      obtain ⟨fs, hr, hrun, hended, hW, hsame⟩ := X0.leave (v := some (.int (1 : Int32))) (fun h => by rw [Bd.returns] at h; cases h)
                      exact ⟨_, _, c77.trans (retN X0 hx (t := .boolean) Bd.returns (by simp) (hb hby own_db69) hr), hrun, hended, _, _, rfl, ⟨by rw [own_ex1 hP], N0, e0⟩, ⟨_, rfl⟩, hW, hsame.mono (by decide) (by decide)⟩
                    · have c78 : Steps p.tables e below S0 (s₁.setTop (mkF m 70 #[.val (.int pp)] [])) := c75.trans (by
                        refine XS.icmpYes X0.here hx rfl (pc0 := 65) (pc' := 70) rfl (hb hby own_db65) rfl (feq hb65).2 (by decide) (by decide) ?_
                        exact Steps.refl _)
                      have c79 : Steps p.tables e below S0 (s₁.setTop (mkF m 73 #[.val (.int pp)] [(.int (1114111 : Int32)), (.int pp)])) := c78.trans (by
                        refine XS.iloadN X0.here hx rfl (hb hby own_db70) rfl ?_
                        show Steps p.tables e below (s₁.setTop (mkF m 71 #[.val (.int pp)] [(.int pp)])) _
                        refine X0.ldcInt hx hown (mvT hZ (hw _ (List.mem_of_getElem? (i := 8) rfl))) (g := (mkF m 71 #[.val (.int pp)] [(.int pp)])) rfl (hb hby own_db71) _ ?_
                        exact Steps.refl _)
                      by_cases hb73 : (1114111 : Int32) < pp
                      · have c80 : Steps p.tables e below S0 (s₁.setTop (mkF m 76 #[.val (.int pp)] [])) := c79.trans (by
                          refine XS.icmpNo X0.here hx rfl (hb hby own_db73) rfl (tlt hb73).2.2.2 ?_
                          exact Steps.refl _)
                        have c81 : Steps p.tables e below S0 (s₁.setTop (mkF m 77 #[.val (.int pp)] [(.int (1 : Int32))])) := c80.trans (by
                          refine XS.iconst X0.here hx rfl (hb hby own_db76) ?_
                          exact Steps.refl _)
                        have hP : ¬ own_P pp.toInt := by
                          rw [(own_lti (show (0 : Int32).toInt = 0 by decide))] at hb1
                          rw [(own_gti (show (8 : Int32).toInt = 8 by decide))] at hb9
                          rw [(own_eqi (show (11 : Int32).toInt = 11 by decide))] at hb17
                          rw [(own_eqi (show (12 : Int32).toInt = 12 by decide))] at hb23
                          rw [(own_lti (show (14 : Int32).toInt = 14 by decide))] at hb31
                          rw [(own_gti (show (31 : Int32).toInt = 31 by decide))] at hb37
                          rw [(own_lti (show (55296 : Int32).toInt = 55296 by decide))] at hb45
                          rw [(own_gti (show (57343 : Int32).toInt = 57343 by decide))] at hb51
                          rw [(own_eqi (show (65534 : Int32).toInt = 65534 by decide))] at hb59
                          rw [(own_eqi (show (65535 : Int32).toInt = 65535 by decide))] at hb65
                          rw [(own_gti (show (1114111 : Int32).toInt = 1114111 by decide))] at hb73
                          unfold own_P; omega
                        obtain ⟨fs, hr, hrun, hended, hW, hsame⟩ := X0.leave (v := some (.int (1 : Int32))) (fun h => by rw [Bd.returns] at h; cases h)
                        exact ⟨_, _, c81.trans (retN X0 hx (t := .boolean) Bd.returns (by simp) (hb hby own_db77) hr), hrun, hended, _, _, rfl, ⟨by rw [own_ex1 hP], N0, e0⟩, ⟨_, rfl⟩, hW, hsame.mono (by decide) (by decide)⟩
                      · have c82 : Steps p.tables e below S0 (s₁.setTop (mkF m 78 #[.val (.int pp)] [])) := c79.trans (by
                          refine XS.icmpYes X0.here hx rfl (pc0 := 73) (pc' := 78) rfl (hb hby own_db73) rfl (flt hb73).2.2.2 (by decide) (by decide) ?_
                          exact Steps.refl _)
                        have c83 : Steps p.tables e below S0 (s₁.setTop (mkF m 79 #[.val (.int pp)] [(.int (0 : Int32))])) := c82.trans (by
                          refine XS.iconst X0.here hx rfl (hb hby own_db78) ?_
                          exact Steps.refl _)
                        have hP : own_P pp.toInt := by
                          rw [(own_lti (show (0 : Int32).toInt = 0 by decide))] at hb1
                          rw [(own_gti (show (8 : Int32).toInt = 8 by decide))] at hb9
                          rw [(own_eqi (show (11 : Int32).toInt = 11 by decide))] at hb17
                          rw [(own_eqi (show (12 : Int32).toInt = 12 by decide))] at hb23
                          rw [(own_lti (show (14 : Int32).toInt = 14 by decide))] at hb31
                          rw [(own_gti (show (31 : Int32).toInt = 31 by decide))] at hb37
                          rw [(own_lti (show (55296 : Int32).toInt = 55296 by decide))] at hb45
                          rw [(own_gti (show (57343 : Int32).toInt = 57343 by decide))] at hb51
                          rw [(own_eqi (show (65534 : Int32).toInt = 65534 by decide))] at hb59
                          rw [(own_eqi (show (65535 : Int32).toInt = 65535 by decide))] at hb65
                          rw [(own_gti (show (1114111 : Int32).toInt = 1114111 by decide))] at hb73
                          unfold own_P; omega
                        obtain ⟨fs, hr, hrun, hended, hW, hsame⟩ := X0.leave (v := some (.int (0 : Int32))) (fun h => by rw [Bd.returns] at h; cases h)
                        exact ⟨_, _, c83.trans (retN X0 hx (t := .boolean) Bd.returns (by simp) (hb hby own_db79) hr), hrun, hended, _, _, rfl, ⟨by rw [own_ex0 hP], N0, e0⟩, ⟨_, rfl⟩, hW, hsame.mono (by decide) (by decide)⟩
                · have c84 : Steps p.tables e below S0 (s₁.setTop (mkF m 54 #[.val (.int pp)] [])) := c69.trans (by
                    refine XS.icmpNo X0.here hx rfl (hb hby own_db51) rfl (flt hb51).2.2.1 ?_
                    exact Steps.refl _)
                  have c85 : Steps p.tables e below S0 (s₁.setTop (mkF m 55 #[.val (.int pp)] [(.int (1 : Int32))])) := c84.trans (by
                    refine XS.iconst X0.here hx rfl (hb hby own_db54) ?_
                    exact Steps.refl _)
                  have hP : ¬ own_P pp.toInt := by
                    rw [(own_lti (show (0 : Int32).toInt = 0 by decide))] at hb1
                    rw [(own_gti (show (8 : Int32).toInt = 8 by decide))] at hb9
                    rw [(own_eqi (show (11 : Int32).toInt = 11 by decide))] at hb17
                    rw [(own_eqi (show (12 : Int32).toInt = 12 by decide))] at hb23
                    rw [(own_lti (show (14 : Int32).toInt = 14 by decide))] at hb31
                    rw [(own_gti (show (31 : Int32).toInt = 31 by decide))] at hb37
                    rw [(own_lti (show (55296 : Int32).toInt = 55296 by decide))] at hb45
                    rw [(own_gti (show (57343 : Int32).toInt = 57343 by decide))] at hb51
                    unfold own_P; omega
                  obtain ⟨fs, hr, hrun, hended, hW, hsame⟩ := X0.leave (v := some (.int (1 : Int32))) (fun h => by rw [Bd.returns] at h; cases h)
                  exact ⟨_, _, c85.trans (retN X0 hx (t := .boolean) Bd.returns (by simp) (hb hby own_db55) hr), hrun, hended, _, _, rfl, ⟨by rw [own_ex1 hP], N0, e0⟩, ⟨_, rfl⟩, hW, hsame.mono (by decide) (by decide)⟩
            · have c86 : Steps p.tables e below S0 (s₁.setTop (mkF m 40 #[.val (.int pp)] [])) := c51.trans (by
                refine XS.icmpNo X0.here hx rfl (hb hby own_db37) rfl (flt hb37).2.2.1 ?_
                exact Steps.refl _)
              have c87 : Steps p.tables e below S0 (s₁.setTop (mkF m 41 #[.val (.int pp)] [(.int (1 : Int32))])) := c86.trans (by
                refine XS.iconst X0.here hx rfl (hb hby own_db40) ?_
                exact Steps.refl _)
              have hP : ¬ own_P pp.toInt := by
                rw [(own_lti (show (0 : Int32).toInt = 0 by decide))] at hb1
                rw [(own_gti (show (8 : Int32).toInt = 8 by decide))] at hb9
                rw [(own_eqi (show (11 : Int32).toInt = 11 by decide))] at hb17
                rw [(own_eqi (show (12 : Int32).toInt = 12 by decide))] at hb23
                rw [(own_lti (show (14 : Int32).toInt = 14 by decide))] at hb31
                rw [(own_gti (show (31 : Int32).toInt = 31 by decide))] at hb37
                unfold own_P; omega
              obtain ⟨fs, hr, hrun, hended, hW, hsame⟩ := X0.leave (v := some (.int (1 : Int32))) (fun h => by rw [Bd.returns] at h; cases h)
              exact ⟨_, _, c87.trans (retN X0 hx (t := .boolean) Bd.returns (by simp) (hb hby own_db41) hr), hrun, hended, _, _, rfl, ⟨by rw [own_ex1 hP], N0, e0⟩, ⟨_, rfl⟩, hW, hsame.mono (by decide) (by decide)⟩
    · have c88 : Steps p.tables e below S0 (s₁.setTop (mkF m 12 #[.val (.int pp)] [])) := c5.trans (by
        refine XS.icmpNo X0.here hx rfl (hb hby own_db9) rfl (flt hb9).2.2.1 ?_
        exact Steps.refl _)
      have c89 : Steps p.tables e below S0 (s₁.setTop (mkF m 13 #[.val (.int pp)] [(.int (1 : Int32))])) := c88.trans (by
        refine XS.iconst X0.here hx rfl (hb hby own_db12) ?_
        exact Steps.refl _)
      have hP : ¬ own_P pp.toInt := by
        rw [(own_lti (show (0 : Int32).toInt = 0 by decide))] at hb1
        rw [(own_gti (show (8 : Int32).toInt = 8 by decide))] at hb9
        unfold own_P; omega
      obtain ⟨fs, hr, hrun, hended, hW, hsame⟩ := X0.leave (v := some (.int (1 : Int32))) (fun h => by rw [Bd.returns] at h; cases h)
      exact ⟨_, _, c89.trans (retN X0 hx (t := .boolean) Bd.returns (by simp) (hb hby own_db13) hr), hrun, hended, _, _, rfl, ⟨by rw [own_ex1 hP], N0, e0⟩, ⟨_, rfl⟩, hW, hsame.mono (by decide) (by decide)⟩
theorem own_law_pn : plainName "com/example/trawl/trawl/model/XmlCharsIsCharPinLaw" = true := by first | (simp [plainName, overriddenIn]; done) | decide +kernel
theorem own_law_ef (m : MethodId) (pp : Int32) (k : Int32) : entryFrame m #[(.int pp), (.int k)] maxLocals = mkF m 0 #[.val (.int pp), .val (.int k), .unset, .unset, .unset, .unset] [] := by first | (simp [entryFrame, mkF, argsToLocals, Value.category, maxLocals]; done) | rfl
def own_law_Q (Z : State) (pp : Int32) (k : Int32) (h0 : Heap) (n0 : Nat) (v : Option Value) (h : Heap) (L : List Loc) : Prop := v = some (.int 1) ∧ Fr n0 L
set_option maxRecDepth 65536 in
set_option maxHeartbeats 40000000 in
theorem own_law (l : Launch) (Z : State) (a0 : Array Value) (hw : ∀ d ∈ tables_1, d.before a0 Z = true) (ws : List Jvm.Cond) (pp : Int32) (k : Int32) (h0 : Heap) (n0 : Nat) (Z0 : n0 ≤ h0.size) :
    MetFree l x (head1 (Jvm.Cond.code x code maxLocals ret :: ws) room_1) (fun ars U => ars = #[(.int pp), (.int k)] ∧ Z.Warmed39 U.vm ∧ U.heap = h0) (fun _ _ _ _ _ => True) (fun _ U o U' => ∃ v L, o = .returned v ∧ own_law_Q Z pp k  h0 n0 v U'.heap L ∧ FrameEnd U o U' L 1 16) := by
  refine MetFree.of_bodySF (plainFor_of_name own_law_pn) hisR ?_
  intro p e s m args below meth c s₁ Bd hml0 hP hK
  obtain ⟨rfl, hZ, hh⟩ := hP
  have hx := Bd.exec
  have hby := Bd.bytes
  have hml : c.maxLocals = 6 := hml0
  have hown : s.vm.findClass "com/example/trawl/trawl/model/XmlCharsIsCharPinLaw" = some m.cls := findClass_of_methodNamed Bd.named
  have hnm := (name_of_methodNamed Bd.named Bd.method).1
  have X0 : Stand p l e room_1 s m #[(.int pp), (.int k)] below meth c s₁ [] 0 0 := Stand.of_body Bd
  have e0 : s₁.heap = h0 := by rw [← hh, Bd.state]; rfl
  have N0 := Fr.nil n0
  generalize hS0 : s₁.setTop (entryFrame m #[(.int pp), (.int k)] maxLocals) = S0
  have c0 : Steps p.tables e below S0 (s₁.setTop (mkF m 0 #[.val (.int pp), .val (.int k), .unset, .unset, .unset, .unset] [])) := by rw [← hS0]; exact castTop (own_law_ef m pp k) (Steps.refl _)
  have c1 : Steps p.tables e below S0 (s₁.setTop (mkF m 2 #[.val (.int pp), .val (.int k), .unset, .unset, .unset, .unset] [(.int (16 : Int32))])) := c0.trans (by
    refine XS.bipush X0.here hx rfl (hb hby at_0) ?_
    exact Steps.refl _)
  obtain ⟨T2, h2, k2, X2, e2, E2, A2, st2⟩ := newP X0 hx hZ (hw _ (List.mem_of_getElem? (i := 0) rfl)) e0 (g := (mkF m 2 #[.val (.int pp), .val (.int k), .unset, .unset, .unset, .unset] [(.int (16 : Int32))])) rfl (hb hby at_2) rfl (by decide) (cap := 16) (by decide) (by decide) (by decide) (by decide)
  obtain ⟨b, gb⟩ : ∃ z, z = h0.size := ⟨_, rfl⟩
  rw [← gb] at A2 st2
  have B2 : own_IA Z h2 b 16 := own_IA_new A2 (by decide)
  have g_b : n0 ≤ b := gb ▸ Z0
  have Z2 : n0 ≤ h2.size := Nat.le_trans Z0 E2.1
  have c3 : Steps p.tables e below S0 (T2.setTop (mkF m 4 #[.val (.int pp), .val (.int k), .unset, .unset, .unset, .unset] [(.ref b)])) := c1.trans (by
    refine st2 _ ?_
    exact Steps.refl _)
  have c4 : Steps p.tables e below S0 (T2.setTop (mkF m 8 #[.val (.int pp), .val (.int k), .unset, .unset, .unset, .unset] [(.int (9 : Int32)), (.int (0 : Int32)), (.ref b), (.ref b)])) := c3.trans (by
    refine XS.dup X2.here hx rfl (hb hby at_4) rfl rfl ?_
    show Steps p.tables e below (T2.setTop (mkF m 5 #[.val (.int pp), .val (.int k), .unset, .unset, .unset, .unset] [(.ref b), (.ref b)])) _
    refine XS.iconst X2.here hx rfl (hb hby at_5) ?_
    show Steps p.tables e below (T2.setTop (mkF m 6 #[.val (.int pp), .val (.int k), .unset, .unset, .unset, .unset] [(.int (0 : Int32)), (.ref b), (.ref b)])) _
    refine XS.bipush X2.here hx rfl (hb hby at_6) ?_
    exact Steps.refl _)
  obtain ⟨cl0, Ar0, Sz0, U0⟩ := B2
  obtain ⟨T5, h5, X5, e5, W5, st5⟩ := stI X2 hx hZ e2 Ar0 (j := (0 : Int32)) (own_IA_in Sz0 (by decide) (by decide)) (g := (mkF m 8 #[.val (.int pp), .val (.int k), .unset, .unset, .unset, .unset] [(.int (9 : Int32)), (.int (0 : Int32)), (.ref b), (.ref b)])) rfl rfl (hb hby at_8)
  have c6 : Steps p.tables e below S0 (T5.setTop (mkF m 9 #[.val (.int pp), .val (.int k), .unset, .unset, .unset, .unset] [(.ref b)])) := c4.trans (by
    refine st5 _ ?_
    exact Steps.refl _)
  have B5 : own_IA Z h5 b 16 := own_IA_set Ar0 Sz0 U0 W5 (by decide)
  have N5 := Fr.snoc X5 N0 g_b
  have Z5 : n0 ≤ h5.size := by rw [W5.size]; exact Z2
  have c7 : Steps p.tables e below S0 (T5.setTop (mkF m 13 #[.val (.int pp), .val (.int k), .unset, .unset, .unset, .unset] [(.int (10 : Int32)), (.int (1 : Int32)), (.ref b), (.ref b)])) := c6.trans (by
    refine XS.dup X5.here hx rfl (hb hby at_9) rfl rfl ?_
    show Steps p.tables e below (T5.setTop (mkF m 10 #[.val (.int pp), .val (.int k), .unset, .unset, .unset, .unset] [(.ref b), (.ref b)])) _
    refine XS.iconst X5.here hx rfl (hb hby at_10) ?_
    show Steps p.tables e below (T5.setTop (mkF m 11 #[.val (.int pp), .val (.int k), .unset, .unset, .unset, .unset] [(.int (1 : Int32)), (.ref b), (.ref b)])) _
    refine XS.bipush X5.here hx rfl (hb hby at_11) ?_
    exact Steps.refl _)
  obtain ⟨cl1, Ar1, Sz1, U1⟩ := B5
  obtain ⟨T8, h8, X8, e8, W8, st8⟩ := stI X5 hx hZ e5 Ar1 (j := (1 : Int32)) (own_IA_in Sz1 (by decide) (by decide)) (g := (mkF m 13 #[.val (.int pp), .val (.int k), .unset, .unset, .unset, .unset] [(.int (10 : Int32)), (.int (1 : Int32)), (.ref b), (.ref b)])) rfl rfl (hb hby at_13)
  have c9 : Steps p.tables e below S0 (T8.setTop (mkF m 14 #[.val (.int pp), .val (.int k), .unset, .unset, .unset, .unset] [(.ref b)])) := c7.trans (by
    refine st8 _ ?_
    exact Steps.refl _)
  have B8 : own_IA Z h8 b 16 := own_IA_set Ar1 Sz1 U1 W8 (by decide)
  have N8 := Fr.snoc X8 N5 g_b
  have Z8 : n0 ≤ h8.size := by rw [W8.size]; exact Z5
  have c10 : Steps p.tables e below S0 (T8.setTop (mkF m 18 #[.val (.int pp), .val (.int k), .unset, .unset, .unset, .unset] [(.int (13 : Int32)), (.int (2 : Int32)), (.ref b), (.ref b)])) := c9.trans (by
    refine XS.dup X8.here hx rfl (hb hby at_14) rfl rfl ?_
    show Steps p.tables e below (T8.setTop (mkF m 15 #[.val (.int pp), .val (.int k), .unset, .unset, .unset, .unset] [(.ref b), (.ref b)])) _
    refine XS.iconst X8.here hx rfl (hb hby at_15) ?_
    show Steps p.tables e below (T8.setTop (mkF m 16 #[.val (.int pp), .val (.int k), .unset, .unset, .unset, .unset] [(.int (2 : Int32)), (.ref b), (.ref b)])) _
    refine XS.bipush X8.here hx rfl (hb hby at_16) ?_
    exact Steps.refl _)
  obtain ⟨cl2, Ar2, Sz2, U2⟩ := B8
  obtain ⟨T11, h11, X11, e11, W11, st11⟩ := stI X8 hx hZ e8 Ar2 (j := (2 : Int32)) (own_IA_in Sz2 (by decide) (by decide)) (g := (mkF m 18 #[.val (.int pp), .val (.int k), .unset, .unset, .unset, .unset] [(.int (13 : Int32)), (.int (2 : Int32)), (.ref b), (.ref b)])) rfl rfl (hb hby at_18)
  have c12 : Steps p.tables e below S0 (T11.setTop (mkF m 19 #[.val (.int pp), .val (.int k), .unset, .unset, .unset, .unset] [(.ref b)])) := c10.trans (by
    refine st11 _ ?_
    exact Steps.refl _)
  have B11 : own_IA Z h11 b 16 := own_IA_set Ar2 Sz2 U2 W11 (by decide)
  have N11 := Fr.snoc X11 N8 g_b
  have Z11 : n0 ≤ h11.size := by rw [W11.size]; exact Z8
  have c13 : Steps p.tables e below S0 (T11.setTop (mkF m 23 #[.val (.int pp), .val (.int k), .unset, .unset, .unset, .unset] [(.int (32 : Int32)), (.int (3 : Int32)), (.ref b), (.ref b)])) := c12.trans (by
    refine XS.dup X11.here hx rfl (hb hby at_19) rfl rfl ?_
    show Steps p.tables e below (T11.setTop (mkF m 20 #[.val (.int pp), .val (.int k), .unset, .unset, .unset, .unset] [(.ref b), (.ref b)])) _
    refine XS.iconst X11.here hx rfl (hb hby at_20) ?_
    show Steps p.tables e below (T11.setTop (mkF m 21 #[.val (.int pp), .val (.int k), .unset, .unset, .unset, .unset] [(.int (3 : Int32)), (.ref b), (.ref b)])) _
    refine XS.bipush X11.here hx rfl (hb hby at_21) ?_
    exact Steps.refl _)
  obtain ⟨cl3, Ar3, Sz3, U3⟩ := B11
  obtain ⟨T14, h14, X14, e14, W14, st14⟩ := stI X11 hx hZ e11 Ar3 (j := (3 : Int32)) (own_IA_in Sz3 (by decide) (by decide)) (g := (mkF m 23 #[.val (.int pp), .val (.int k), .unset, .unset, .unset, .unset] [(.int (32 : Int32)), (.int (3 : Int32)), (.ref b), (.ref b)])) rfl rfl (hb hby at_23)
  have c15 : Steps p.tables e below S0 (T14.setTop (mkF m 24 #[.val (.int pp), .val (.int k), .unset, .unset, .unset, .unset] [(.ref b)])) := c13.trans (by
    refine st14 _ ?_
    exact Steps.refl _)
  have B14 : own_IA Z h14 b 16 := own_IA_set Ar3 Sz3 U3 W14 (by decide)
  have N14 := Fr.snoc X14 N11 g_b
  have Z14 : n0 ≤ h14.size := by rw [W14.size]; exact Z11
  have c16 : Steps p.tables e below S0 (T14.setTop (mkF m 28 #[.val (.int pp), .val (.int k), .unset, .unset, .unset, .unset] [(.int (55295 : Int32)), (.int (4 : Int32)), (.ref b), (.ref b)])) := c15.trans (by
    refine XS.dup X14.here hx rfl (hb hby at_24) rfl rfl ?_
    show Steps p.tables e below (T14.setTop (mkF m 25 #[.val (.int pp), .val (.int k), .unset, .unset, .unset, .unset] [(.ref b), (.ref b)])) _
    refine XS.iconst X14.here hx rfl (hb hby at_25) ?_
    show Steps p.tables e below (T14.setTop (mkF m 26 #[.val (.int pp), .val (.int k), .unset, .unset, .unset, .unset] [(.int (4 : Int32)), (.ref b), (.ref b)])) _
    refine X14.ldcInt hx hown (mvT hZ (hw _ (List.mem_of_getElem? (i := 1) rfl))) (g := (mkF m 26 #[.val (.int pp), .val (.int k), .unset, .unset, .unset, .unset] [(.int (4 : Int32)), (.ref b), (.ref b)])) rfl (hb hby at_26) _ ?_
    exact Steps.refl _)
  obtain ⟨cl4, Ar4, Sz4, U4⟩ := B14
  obtain ⟨T17, h17, X17, e17, W17, st17⟩ := stI X14 hx hZ e14 Ar4 (j := (4 : Int32)) (own_IA_in Sz4 (by decide) (by decide)) (g := (mkF m 28 #[.val (.int pp), .val (.int k), .unset, .unset, .unset, .unset] [(.int (55295 : Int32)), (.int (4 : Int32)), (.ref b), (.ref b)])) rfl rfl (hb hby at_28)
  have c18 : Steps p.tables e below S0 (T17.setTop (mkF m 29 #[.val (.int pp), .val (.int k), .unset, .unset, .unset, .unset] [(.ref b)])) := c16.trans (by
    refine st17 _ ?_
    exact Steps.refl _)
  have B17 : own_IA Z h17 b 16 := own_IA_set Ar4 Sz4 U4 W17 (by decide)
  have N17 := Fr.snoc X17 N14 g_b
  have Z17 : n0 ≤ h17.size := by rw [W17.size]; exact Z14
  have c19 : Steps p.tables e below S0 (T17.setTop (mkF m 33 #[.val (.int pp), .val (.int k), .unset, .unset, .unset, .unset] [(.int (55296 : Int32)), (.int (5 : Int32)), (.ref b), (.ref b)])) := c18.trans (by
    refine XS.dup X17.here hx rfl (hb hby at_29) rfl rfl ?_
    show Steps p.tables e below (T17.setTop (mkF m 30 #[.val (.int pp), .val (.int k), .unset, .unset, .unset, .unset] [(.ref b), (.ref b)])) _
    refine XS.iconst X17.here hx rfl (hb hby at_30) ?_
    show Steps p.tables e below (T17.setTop (mkF m 31 #[.val (.int pp), .val (.int k), .unset, .unset, .unset, .unset] [(.int (5 : Int32)), (.ref b), (.ref b)])) _
    refine X17.ldcInt hx hown (mvT hZ (hw _ (List.mem_of_getElem? (i := 2) rfl))) (g := (mkF m 31 #[.val (.int pp), .val (.int k), .unset, .unset, .unset, .unset] [(.int (5 : Int32)), (.ref b), (.ref b)])) rfl (hb hby at_31) _ ?_
    exact Steps.refl _)
  obtain ⟨cl5, Ar5, Sz5, U5⟩ := B17
  obtain ⟨T20, h20, X20, e20, W20, st20⟩ := stI X17 hx hZ e17 Ar5 (j := (5 : Int32)) (own_IA_in Sz5 (by decide) (by decide)) (g := (mkF m 33 #[.val (.int pp), .val (.int k), .unset, .unset, .unset, .unset] [(.int (55296 : Int32)), (.int (5 : Int32)), (.ref b), (.ref b)])) rfl rfl (hb hby at_33)
  have c21 : Steps p.tables e below S0 (T20.setTop (mkF m 34 #[.val (.int pp), .val (.int k), .unset, .unset, .unset, .unset] [(.ref b)])) := c19.trans (by
    refine st20 _ ?_
    exact Steps.refl _)
  have B20 : own_IA Z h20 b 16 := own_IA_set Ar5 Sz5 U5 W20 (by decide)
  have N20 := Fr.snoc X20 N17 g_b
  have Z20 : n0 ≤ h20.size := by rw [W20.size]; exact Z17
  have c22 : Steps p.tables e below S0 (T20.setTop (mkF m 39 #[.val (.int pp), .val (.int k), .unset, .unset, .unset, .unset] [(.int (57343 : Int32)), (.int (6 : Int32)), (.ref b), (.ref b)])) := c21.trans (by
    refine XS.dup X20.here hx rfl (hb hby at_34) rfl rfl ?_
    show Steps p.tables e below (T20.setTop (mkF m 35 #[.val (.int pp), .val (.int k), .unset, .unset, .unset, .unset] [(.ref b), (.ref b)])) _
    refine XS.bipush X20.here hx rfl (hb hby at_35) ?_
    show Steps p.tables e below (T20.setTop (mkF m 37 #[.val (.int pp), .val (.int k), .unset, .unset, .unset, .unset] [(.int (6 : Int32)), (.ref b), (.ref b)])) _
    refine X20.ldcInt hx hown (mvT hZ (hw _ (List.mem_of_getElem? (i := 3) rfl))) (g := (mkF m 37 #[.val (.int pp), .val (.int k), .unset, .unset, .unset, .unset] [(.int (6 : Int32)), (.ref b), (.ref b)])) rfl (hb hby at_37) _ ?_
    exact Steps.refl _)
  obtain ⟨cl6, Ar6, Sz6, U6⟩ := B20
  obtain ⟨T23, h23, X23, e23, W23, st23⟩ := stI X20 hx hZ e20 Ar6 (j := (6 : Int32)) (own_IA_in Sz6 (by decide) (by decide)) (g := (mkF m 39 #[.val (.int pp), .val (.int k), .unset, .unset, .unset, .unset] [(.int (57343 : Int32)), (.int (6 : Int32)), (.ref b), (.ref b)])) rfl rfl (hb hby at_39)
  have c24 : Steps p.tables e below S0 (T23.setTop (mkF m 40 #[.val (.int pp), .val (.int k), .unset, .unset, .unset, .unset] [(.ref b)])) := c22.trans (by
    refine st23 _ ?_
    exact Steps.refl _)
  have B23 : own_IA Z h23 b 16 := own_IA_set Ar6 Sz6 U6 W23 (by decide)
  have N23 := Fr.snoc X23 N20 g_b
  have Z23 : n0 ≤ h23.size := by rw [W23.size]; exact Z20
  have c25 : Steps p.tables e below S0 (T23.setTop (mkF m 45 #[.val (.int pp), .val (.int k), .unset, .unset, .unset, .unset] [(.int (57344 : Int32)), (.int (7 : Int32)), (.ref b), (.ref b)])) := c24.trans (by
    refine XS.dup X23.here hx rfl (hb hby at_40) rfl rfl ?_
    show Steps p.tables e below (T23.setTop (mkF m 41 #[.val (.int pp), .val (.int k), .unset, .unset, .unset, .unset] [(.ref b), (.ref b)])) _
    refine XS.bipush X23.here hx rfl (hb hby at_41) ?_
    show Steps p.tables e below (T23.setTop (mkF m 43 #[.val (.int pp), .val (.int k), .unset, .unset, .unset, .unset] [(.int (7 : Int32)), (.ref b), (.ref b)])) _
    refine X23.ldcInt hx hown (mvT hZ (hw _ (List.mem_of_getElem? (i := 4) rfl))) (g := (mkF m 43 #[.val (.int pp), .val (.int k), .unset, .unset, .unset, .unset] [(.int (7 : Int32)), (.ref b), (.ref b)])) rfl (hb hby at_43) _ ?_
    exact Steps.refl _)
  obtain ⟨cl7, Ar7, Sz7, U7⟩ := B23
  obtain ⟨T26, h26, X26, e26, W26, st26⟩ := stI X23 hx hZ e23 Ar7 (j := (7 : Int32)) (own_IA_in Sz7 (by decide) (by decide)) (g := (mkF m 45 #[.val (.int pp), .val (.int k), .unset, .unset, .unset, .unset] [(.int (57344 : Int32)), (.int (7 : Int32)), (.ref b), (.ref b)])) rfl rfl (hb hby at_45)
  have c27 : Steps p.tables e below S0 (T26.setTop (mkF m 46 #[.val (.int pp), .val (.int k), .unset, .unset, .unset, .unset] [(.ref b)])) := c25.trans (by
    refine st26 _ ?_
    exact Steps.refl _)
  have B26 : own_IA Z h26 b 16 := own_IA_set Ar7 Sz7 U7 W26 (by decide)
  have N26 := Fr.snoc X26 N23 g_b
  have Z26 : n0 ≤ h26.size := by rw [W26.size]; exact Z23
  have c28 : Steps p.tables e below S0 (T26.setTop (mkF m 51 #[.val (.int pp), .val (.int k), .unset, .unset, .unset, .unset] [(.int (65533 : Int32)), (.int (8 : Int32)), (.ref b), (.ref b)])) := c27.trans (by
    refine XS.dup X26.here hx rfl (hb hby at_46) rfl rfl ?_
    show Steps p.tables e below (T26.setTop (mkF m 47 #[.val (.int pp), .val (.int k), .unset, .unset, .unset, .unset] [(.ref b), (.ref b)])) _
    refine XS.bipush X26.here hx rfl (hb hby at_47) ?_
    show Steps p.tables e below (T26.setTop (mkF m 49 #[.val (.int pp), .val (.int k), .unset, .unset, .unset, .unset] [(.int (8 : Int32)), (.ref b), (.ref b)])) _
    refine X26.ldcInt hx hown (mvT hZ (hw _ (List.mem_of_getElem? (i := 5) rfl))) (g := (mkF m 49 #[.val (.int pp), .val (.int k), .unset, .unset, .unset, .unset] [(.int (8 : Int32)), (.ref b), (.ref b)])) rfl (hb hby at_49) _ ?_
    exact Steps.refl _)
  obtain ⟨cl8, Ar8, Sz8, U8⟩ := B26
  obtain ⟨T29, h29, X29, e29, W29, st29⟩ := stI X26 hx hZ e26 Ar8 (j := (8 : Int32)) (own_IA_in Sz8 (by decide) (by decide)) (g := (mkF m 51 #[.val (.int pp), .val (.int k), .unset, .unset, .unset, .unset] [(.int (65533 : Int32)), (.int (8 : Int32)), (.ref b), (.ref b)])) rfl rfl (hb hby at_51)
  have c30 : Steps p.tables e below S0 (T29.setTop (mkF m 52 #[.val (.int pp), .val (.int k), .unset, .unset, .unset, .unset] [(.ref b)])) := c28.trans (by
    refine st29 _ ?_
    exact Steps.refl _)
  have B29 : own_IA Z h29 b 16 := own_IA_set Ar8 Sz8 U8 W29 (by decide)
  have N29 := Fr.snoc X29 N26 g_b
  have Z29 : n0 ≤ h29.size := by rw [W29.size]; exact Z26
  have c31 : Steps p.tables e below S0 (T29.setTop (mkF m 57 #[.val (.int pp), .val (.int k), .unset, .unset, .unset, .unset] [(.int (65534 : Int32)), (.int (9 : Int32)), (.ref b), (.ref b)])) := c30.trans (by
    refine XS.dup X29.here hx rfl (hb hby at_52) rfl rfl ?_
    show Steps p.tables e below (T29.setTop (mkF m 53 #[.val (.int pp), .val (.int k), .unset, .unset, .unset, .unset] [(.ref b), (.ref b)])) _
    refine XS.bipush X29.here hx rfl (hb hby at_53) ?_
    show Steps p.tables e below (T29.setTop (mkF m 55 #[.val (.int pp), .val (.int k), .unset, .unset, .unset, .unset] [(.int (9 : Int32)), (.ref b), (.ref b)])) _
    refine X29.ldcInt hx hown (mvT hZ (hw _ (List.mem_of_getElem? (i := 6) rfl))) (g := (mkF m 55 #[.val (.int pp), .val (.int k), .unset, .unset, .unset, .unset] [(.int (9 : Int32)), (.ref b), (.ref b)])) rfl (hb hby at_55) _ ?_
    exact Steps.refl _)
  obtain ⟨cl9, Ar9, Sz9, U9⟩ := B29
  obtain ⟨T32, h32, X32, e32, W32, st32⟩ := stI X29 hx hZ e29 Ar9 (j := (9 : Int32)) (own_IA_in Sz9 (by decide) (by decide)) (g := (mkF m 57 #[.val (.int pp), .val (.int k), .unset, .unset, .unset, .unset] [(.int (65534 : Int32)), (.int (9 : Int32)), (.ref b), (.ref b)])) rfl rfl (hb hby at_57)
  have c33 : Steps p.tables e below S0 (T32.setTop (mkF m 58 #[.val (.int pp), .val (.int k), .unset, .unset, .unset, .unset] [(.ref b)])) := c31.trans (by
    refine st32 _ ?_
    exact Steps.refl _)
  have B32 : own_IA Z h32 b 16 := own_IA_set Ar9 Sz9 U9 W32 (by decide)
  have N32 := Fr.snoc X32 N29 g_b
  have Z32 : n0 ≤ h32.size := by rw [W32.size]; exact Z29
  have c34 : Steps p.tables e below S0 (T32.setTop (mkF m 63 #[.val (.int pp), .val (.int k), .unset, .unset, .unset, .unset] [(.int (65536 : Int32)), (.int (10 : Int32)), (.ref b), (.ref b)])) := c33.trans (by
    refine XS.dup X32.here hx rfl (hb hby at_58) rfl rfl ?_
    show Steps p.tables e below (T32.setTop (mkF m 59 #[.val (.int pp), .val (.int k), .unset, .unset, .unset, .unset] [(.ref b), (.ref b)])) _
    refine XS.bipush X32.here hx rfl (hb hby at_59) ?_
    show Steps p.tables e below (T32.setTop (mkF m 61 #[.val (.int pp), .val (.int k), .unset, .unset, .unset, .unset] [(.int (10 : Int32)), (.ref b), (.ref b)])) _
    refine X32.ldcInt hx hown (mvT hZ (hw _ (List.mem_of_getElem? (i := 7) rfl))) (g := (mkF m 61 #[.val (.int pp), .val (.int k), .unset, .unset, .unset, .unset] [(.int (10 : Int32)), (.ref b), (.ref b)])) rfl (hb hby at_61) _ ?_
    exact Steps.refl _)
  obtain ⟨cl10, Ar10, Sz10, U10⟩ := B32
  obtain ⟨T35, h35, X35, e35, W35, st35⟩ := stI X32 hx hZ e32 Ar10 (j := (10 : Int32)) (own_IA_in Sz10 (by decide) (by decide)) (g := (mkF m 63 #[.val (.int pp), .val (.int k), .unset, .unset, .unset, .unset] [(.int (65536 : Int32)), (.int (10 : Int32)), (.ref b), (.ref b)])) rfl rfl (hb hby at_63)
  have c36 : Steps p.tables e below S0 (T35.setTop (mkF m 64 #[.val (.int pp), .val (.int k), .unset, .unset, .unset, .unset] [(.ref b)])) := c34.trans (by
    refine st35 _ ?_
    exact Steps.refl _)
  have B35 : own_IA Z h35 b 16 := own_IA_set Ar10 Sz10 U10 W35 (by decide)
  have N35 := Fr.snoc X35 N32 g_b
  have Z35 : n0 ≤ h35.size := by rw [W35.size]; exact Z32
  have c37 : Steps p.tables e below S0 (T35.setTop (mkF m 69 #[.val (.int pp), .val (.int k), .unset, .unset, .unset, .unset] [(.int (1114111 : Int32)), (.int (11 : Int32)), (.ref b), (.ref b)])) := c36.trans (by
    refine XS.dup X35.here hx rfl (hb hby at_64) rfl rfl ?_
    show Steps p.tables e below (T35.setTop (mkF m 65 #[.val (.int pp), .val (.int k), .unset, .unset, .unset, .unset] [(.ref b), (.ref b)])) _
    refine XS.bipush X35.here hx rfl (hb hby at_65) ?_
    show Steps p.tables e below (T35.setTop (mkF m 67 #[.val (.int pp), .val (.int k), .unset, .unset, .unset, .unset] [(.int (11 : Int32)), (.ref b), (.ref b)])) _
    refine X35.ldcInt hx hown (mvT hZ (hw _ (List.mem_of_getElem? (i := 8) rfl))) (g := (mkF m 67 #[.val (.int pp), .val (.int k), .unset, .unset, .unset, .unset] [(.int (11 : Int32)), (.ref b), (.ref b)])) rfl (hb hby at_67) _ ?_
    exact Steps.refl _)
  obtain ⟨cl11, Ar11, Sz11, U11⟩ := B35
  obtain ⟨T38, h38, X38, e38, W38, st38⟩ := stI X35 hx hZ e35 Ar11 (j := (11 : Int32)) (own_IA_in Sz11 (by decide) (by decide)) (g := (mkF m 69 #[.val (.int pp), .val (.int k), .unset, .unset, .unset, .unset] [(.int (1114111 : Int32)), (.int (11 : Int32)), (.ref b), (.ref b)])) rfl rfl (hb hby at_69)
  have c39 : Steps p.tables e below S0 (T38.setTop (mkF m 70 #[.val (.int pp), .val (.int k), .unset, .unset, .unset, .unset] [(.ref b)])) := c37.trans (by
    refine st38 _ ?_
    exact Steps.refl _)
  have B38 : own_IA Z h38 b 16 := own_IA_set Ar11 Sz11 U11 W38 (by decide)
  have N38 := Fr.snoc X38 N35 g_b
  have Z38 : n0 ≤ h38.size := by rw [W38.size]; exact Z35
  have c40 : Steps p.tables e below S0 (T38.setTop (mkF m 75 #[.val (.int pp), .val (.int k), .unset, .unset, .unset, .unset] [(.int (1114112 : Int32)), (.int (12 : Int32)), (.ref b), (.ref b)])) := c39.trans (by
    refine XS.dup X38.here hx rfl (hb hby at_70) rfl rfl ?_
    show Steps p.tables e below (T38.setTop (mkF m 71 #[.val (.int pp), .val (.int k), .unset, .unset, .unset, .unset] [(.ref b), (.ref b)])) _
    refine XS.bipush X38.here hx rfl (hb hby at_71) ?_
    show Steps p.tables e below (T38.setTop (mkF m 73 #[.val (.int pp), .val (.int k), .unset, .unset, .unset, .unset] [(.int (12 : Int32)), (.ref b), (.ref b)])) _
    refine X38.ldcInt hx hown (mvT hZ (hw _ (List.mem_of_getElem? (i := 9) rfl))) (g := (mkF m 73 #[.val (.int pp), .val (.int k), .unset, .unset, .unset, .unset] [(.int (12 : Int32)), (.ref b), (.ref b)])) rfl (hb hby at_73) _ ?_
    exact Steps.refl _)
  obtain ⟨cl12, Ar12, Sz12, U12⟩ := B38
  obtain ⟨T41, h41, X41, e41, W41, st41⟩ := stI X38 hx hZ e38 Ar12 (j := (12 : Int32)) (own_IA_in Sz12 (by decide) (by decide)) (g := (mkF m 75 #[.val (.int pp), .val (.int k), .unset, .unset, .unset, .unset] [(.int (1114112 : Int32)), (.int (12 : Int32)), (.ref b), (.ref b)])) rfl rfl (hb hby at_75)
  have c42 : Steps p.tables e below S0 (T41.setTop (mkF m 76 #[.val (.int pp), .val (.int k), .unset, .unset, .unset, .unset] [(.ref b)])) := c40.trans (by
    refine st41 _ ?_
    exact Steps.refl _)
  have B41 : own_IA Z h41 b 16 := own_IA_set Ar12 Sz12 U12 W41 (by decide)
  have N41 := Fr.snoc X41 N38 g_b
  have Z41 : n0 ≤ h41.size := by rw [W41.size]; exact Z38
  have c43 : Steps p.tables e below S0 (T41.setTop (mkF m 80 #[.val (.int pp), .val (.int k), .unset, .unset, .unset, .unset] [(.int (0 : Int32)), (.int (13 : Int32)), (.ref b), (.ref b)])) := c42.trans (by
    refine XS.dup X41.here hx rfl (hb hby at_76) rfl rfl ?_
    show Steps p.tables e below (T41.setTop (mkF m 77 #[.val (.int pp), .val (.int k), .unset, .unset, .unset, .unset] [(.ref b), (.ref b)])) _
    refine XS.bipush X41.here hx rfl (hb hby at_77) ?_
    show Steps p.tables e below (T41.setTop (mkF m 79 #[.val (.int pp), .val (.int k), .unset, .unset, .unset, .unset] [(.int (13 : Int32)), (.ref b), (.ref b)])) _
    refine XS.iconst X41.here hx rfl (hb hby at_79) ?_
    exact Steps.refl _)
  obtain ⟨cl13, Ar13, Sz13, U13⟩ := B41
  obtain ⟨T44, h44, X44, e44, W44, st44⟩ := stI X41 hx hZ e41 Ar13 (j := (13 : Int32)) (own_IA_in Sz13 (by decide) (by decide)) (g := (mkF m 80 #[.val (.int pp), .val (.int k), .unset, .unset, .unset, .unset] [(.int (0 : Int32)), (.int (13 : Int32)), (.ref b), (.ref b)])) rfl rfl (hb hby at_80)
  have c45 : Steps p.tables e below S0 (T44.setTop (mkF m 81 #[.val (.int pp), .val (.int k), .unset, .unset, .unset, .unset] [(.ref b)])) := c43.trans (by
    refine st44 _ ?_
    exact Steps.refl _)
  have B44 : own_IA Z h44 b 16 := own_IA_set Ar13 Sz13 U13 W44 (by decide)
  have N44 := Fr.snoc X44 N41 g_b
  have Z44 : n0 ≤ h44.size := by rw [W44.size]; exact Z41
  have c46 : Steps p.tables e below S0 (T44.setTop (mkF m 86 #[.val (.int pp), .val (.int k), .unset, .unset, .unset, .unset] [(.int (-2147483648 : Int32)), (.int (14 : Int32)), (.ref b), (.ref b)])) := c45.trans (by
    refine XS.dup X44.here hx rfl (hb hby at_81) rfl rfl ?_
    show Steps p.tables e below (T44.setTop (mkF m 82 #[.val (.int pp), .val (.int k), .unset, .unset, .unset, .unset] [(.ref b), (.ref b)])) _
    refine XS.bipush X44.here hx rfl (hb hby at_82) ?_
    show Steps p.tables e below (T44.setTop (mkF m 84 #[.val (.int pp), .val (.int k), .unset, .unset, .unset, .unset] [(.int (14 : Int32)), (.ref b), (.ref b)])) _
    refine X44.ldcInt hx hown (mvT hZ (hw _ (List.mem_of_getElem? (i := 10) rfl))) (g := (mkF m 84 #[.val (.int pp), .val (.int k), .unset, .unset, .unset, .unset] [(.int (14 : Int32)), (.ref b), (.ref b)])) rfl (hb hby at_84) _ ?_
    exact Steps.refl _)
  obtain ⟨cl14, Ar14, Sz14, U14⟩ := B44
  obtain ⟨T47, h47, X47, e47, W47, st47⟩ := stI X44 hx hZ e44 Ar14 (j := (14 : Int32)) (own_IA_in Sz14 (by decide) (by decide)) (g := (mkF m 86 #[.val (.int pp), .val (.int k), .unset, .unset, .unset, .unset] [(.int (-2147483648 : Int32)), (.int (14 : Int32)), (.ref b), (.ref b)])) rfl rfl (hb hby at_86)
  have c48 : Steps p.tables e below S0 (T47.setTop (mkF m 87 #[.val (.int pp), .val (.int k), .unset, .unset, .unset, .unset] [(.ref b)])) := c46.trans (by
    refine st47 _ ?_
    exact Steps.refl _)
  have B47 : own_IA Z h47 b 16 := own_IA_set Ar14 Sz14 U14 W47 (by decide)
  have N47 := Fr.snoc X47 N44 g_b
  have Z47 : n0 ≤ h47.size := by rw [W47.size]; exact Z44
  have c49 : Steps p.tables e below S0 (T47.setTop (mkF m 92 #[.val (.int pp), .val (.int k), .unset, .unset, .unset, .unset] [(.int (2147483647 : Int32)), (.int (15 : Int32)), (.ref b), (.ref b)])) := c48.trans (by
    refine XS.dup X47.here hx rfl (hb hby at_87) rfl rfl ?_
    show Steps p.tables e below (T47.setTop (mkF m 88 #[.val (.int pp), .val (.int k), .unset, .unset, .unset, .unset] [(.ref b), (.ref b)])) _
    refine XS.bipush X47.here hx rfl (hb hby at_88) ?_
    show Steps p.tables e below (T47.setTop (mkF m 90 #[.val (.int pp), .val (.int k), .unset, .unset, .unset, .unset] [(.int (15 : Int32)), (.ref b), (.ref b)])) _
    refine X47.ldcInt hx hown (mvT hZ (hw _ (List.mem_of_getElem? (i := 11) rfl))) (g := (mkF m 90 #[.val (.int pp), .val (.int k), .unset, .unset, .unset, .unset] [(.int (15 : Int32)), (.ref b), (.ref b)])) rfl (hb hby at_90) _ ?_
    exact Steps.refl _)
  obtain ⟨cl15, Ar15, Sz15, U15⟩ := B47
  obtain ⟨T50, h50, X50, e50, W50, st50⟩ := stI X47 hx hZ e47 Ar15 (j := (15 : Int32)) (own_IA_in Sz15 (by decide) (by decide)) (g := (mkF m 92 #[.val (.int pp), .val (.int k), .unset, .unset, .unset, .unset] [(.int (2147483647 : Int32)), (.int (15 : Int32)), (.ref b), (.ref b)])) rfl rfl (hb hby at_92)
  have c51 : Steps p.tables e below S0 (T50.setTop (mkF m 93 #[.val (.int pp), .val (.int k), .unset, .unset, .unset, .unset] [(.ref b)])) := c49.trans (by
    refine st50 _ ?_
    exact Steps.refl _)
  have B50 : own_IA Z h50 b 16 := own_IA_set Ar15 Sz15 U15 W50 (by decide)
  have N50 := Fr.snoc X50 N47 g_b
  have Z50 : n0 ≤ h50.size := by rw [W50.size]; exact Z47
  have c52 : Steps p.tables e below S0 (T50.setTop (mkF m 99 #[.val (.int pp), .val (.int k), .val (.ref b), .unset, .unset, .unset] [(.int (k &&& (15 : Int32))), (.ref b)])) := c51.trans (by
    refine XS.astoreN X50.here hx rfl (hb hby at_93) rfl rfl (l' := #[.val (.int pp), .val (.int k), .val (.ref b), .unset, .unset, .unset]) rfl ?_
    show Steps p.tables e below (T50.setTop (mkF m 94 #[.val (.int pp), .val (.int k), .val (.ref b), .unset, .unset, .unset] [])) _
    refine XS.aloadN X50.here hx rfl (hb hby at_94) rfl rfl ?_
    show Steps p.tables e below (T50.setTop (mkF m 95 #[.val (.int pp), .val (.int k), .val (.ref b), .unset, .unset, .unset] [(.ref b)])) _
    refine XS.iloadN X50.here hx rfl (hb hby at_95) rfl ?_
    show Steps p.tables e below (T50.setTop (mkF m 96 #[.val (.int pp), .val (.int k), .val (.ref b), .unset, .unset, .unset] [(.int k), (.ref b)])) _
    refine XS.bipush X50.here hx rfl (hb hby at_96) ?_
    show Steps p.tables e below (T50.setTop (mkF m 98 #[.val (.int pp), .val (.int k), .val (.ref b), .unset, .unset, .unset] [(.int (15 : Int32)), (.int k), (.ref b)])) _
    refine XS.iand X50.here hx rfl (hb hby at_98) rfl ?_
    exact Steps.refl _)
  obtain ⟨cl, Ar, S, U⟩ := B50
  obtain ⟨y, hy⟩ := U _ (own_and15 k).2
  have c53 : Steps p.tables e below S0 (T50.setTop (mkF m 100 #[.val (.int pp), .val (.int k), .val (.ref b), .unset, .unset, .unset] [(.int y)])) := c52.trans (by
    refine X50.iaload hx (j := (k &&& (15 : Int32))) (v := (.int y)) (by rw [e50]; exact Ar.1) (State.isArrayOf_alike hZ.alike Ar.2.1) Ar.2.2 (own_IA_in S (own_and15 k).1 (own_and15 k).2) hy (g := (mkF m 99 #[.val (.int pp), .val (.int k), .val (.ref b), .unset, .unset, .unset] [(.int (k &&& (15 : Int32))), (.ref b)])) rfl rfl (hb hby at_99) _ ?_
    exact Steps.refl _)
  have c54 : Steps p.tables e below S0 (T50.setTop (mkF m 108 #[.val (.int pp), .val (.int k), .val (.ref b), .unset, .unset, .unset] [(.int ((y + (((k.toUInt32 >>> ((4 : Int32) &&& 31).toUInt32).toInt32) &&& (3 : Int32))) - (1 : Int32)))])) := c53.trans (by
    refine XS.iloadN X50.here hx rfl (hb hby at_100) rfl ?_
    show Steps p.tables e below (T50.setTop (mkF m 101 #[.val (.int pp), .val (.int k), .val (.ref b), .unset, .unset, .unset] [(.int k), (.int y)])) _
    refine XS.iconst X50.here hx rfl (hb hby at_101) ?_
    show Steps p.tables e below (T50.setTop (mkF m 102 #[.val (.int pp), .val (.int k), .val (.ref b), .unset, .unset, .unset] [(.int (4 : Int32)), (.int k), (.int y)])) _
    refine XS.iushr X50.here hx rfl (hb hby at_102) rfl ?_
    show Steps p.tables e below (T50.setTop (mkF m 103 #[.val (.int pp), .val (.int k), .val (.ref b), .unset, .unset, .unset] [(.int ((k.toUInt32 >>> ((4 : Int32) &&& 31).toUInt32).toInt32)), (.int y)])) _
    refine XS.iconst X50.here hx rfl (hb hby at_103) ?_
    show Steps p.tables e below (T50.setTop (mkF m 104 #[.val (.int pp), .val (.int k), .val (.ref b), .unset, .unset, .unset] [(.int (3 : Int32)), (.int ((k.toUInt32 >>> ((4 : Int32) &&& 31).toUInt32).toInt32)), (.int y)])) _
    refine XS.iand X50.here hx rfl (hb hby at_104) rfl ?_
    show Steps p.tables e below (T50.setTop (mkF m 105 #[.val (.int pp), .val (.int k), .val (.ref b), .unset, .unset, .unset] [(.int (((k.toUInt32 >>> ((4 : Int32) &&& 31).toUInt32).toInt32) &&& (3 : Int32))), (.int y)])) _
    refine XS.iadd X50.here hx rfl (hb hby at_105) rfl ?_
    show Steps p.tables e below (T50.setTop (mkF m 106 #[.val (.int pp), .val (.int k), .val (.ref b), .unset, .unset, .unset] [(.int (y + (((k.toUInt32 >>> ((4 : Int32) &&& 31).toUInt32).toInt32) &&& (3 : Int32))))])) _
    refine XS.iconst X50.here hx rfl (hb hby at_106) ?_
    show Steps p.tables e below (T50.setTop (mkF m 107 #[.val (.int pp), .val (.int k), .val (.ref b), .unset, .unset, .unset] [(.int (1 : Int32)), (.int (y + (((k.toUInt32 >>> ((4 : Int32) &&& 31).toUInt32).toInt32) &&& (3 : Int32))))])) _
    refine XS.isub X50.here hx rfl (hb hby at_107) rfl ?_
    exact Steps.refl _)
  obtain ⟨near, hnear⟩ : ∃ z : Int32, z = ((y + (((k.toUInt32 >>> ((4 : Int32) &&& 31).toUInt32).toInt32) &&& (3 : Int32))) - (1 : Int32)) := ⟨_, rfl⟩
  rw [← hnear] at c54
  have c55 : Steps p.tables e below S0 (T50.setTop (mkF m 110 #[.val (.int pp), .val (.int k), .val (.ref b), .val (.int near), .unset, .unset] [(.int pp)])) := c54.trans (by
    refine XS.istoreN X50.here hx rfl (hb hby at_108) rfl (l' := #[.val (.int pp), .val (.int k), .val (.ref b), .val (.int near), .unset, .unset]) rfl ?_
    show Steps p.tables e below (T50.setTop (mkF m 109 #[.val (.int pp), .val (.int k), .val (.ref b), .val (.int near), .unset, .unset] [])) _
    refine XS.iloadN X50.here hx rfl (hb hby at_109) rfl ?_
    exact Steps.refl _)
  obtain ⟨_, _, ⟨T56, L56, k56, n56⟩, -, X56, ⟨Lc56, hQ56, l56, y56, z56⟩, st56⟩ := Jvm.LawKit.callS X50 hx (y := (⟨"com/example/trawl/trawl/model/XmlChars", "isChar", "(I)Z"⟩ : MethodName)) hown (mvT hZ (hw _ (List.mem_of_getElem? (i := 12) rfl))) (mvT hZ (hw _ (List.mem_of_getElem? (i := 13) rfl))) (mvT hZ (hw _ (List.mem_of_getElem? (i := 14) rfl))) (mvT hZ (hw _ (List.mem_of_getElem? (i := 15) rfl))) (by decide) (backOf (W := 0) (own_isc l Z a0 hw [] pp h50 n0 Z50) hZ (hw _ (List.mem_of_getElem? (i := 15) rfl)) (hw _ (List.mem_of_getElem? (i := 14) rfl)) (by decide) (by decide)) (g := (mkF m 110 #[.val (.int pp), .val (.int k), .val (.ref b), .val (.int near), .unset, .unset] [(.int pp)])) rfl (by rw [hml]; rfl) (argsL := [(.int pp)]) (rest := []) (lenOf own_pd0 rfl) rfl (by show 2 * 0 + _ ≤ _; exact Nat.le_of_eq rfl) (hb hby at_110) (fun _ _ => ⟨rfl, e50, (Nat.le_of_ble_eq_true rfl), (Nat.le_of_ble_eq_true rfl)⟩)
  dsimp only [Pt.U, Pt.locs, Pt.cells, Pt.slots] at X56 l56 y56 z56 st56 hQ56
  subst l56 y56 z56
  obtain ⟨rfl, N56q, ea1⟩ := hQ56
  have N56 := Fr.app N50 N56q
  have Za1 : n0 ≤ T56.heap.size := by rw [ea1]; exact Z50
  have c57 : Steps p.tables e below S0 (T56.setTop (mkF m 113 #[.val (.int pp), .val (.int k), .val (.ref b), .val (.int near), .unset, .unset] [(.int (own_ic pp))])) := c55.trans (by
    refine st56 _ ?_
    exact Steps.refl _)
  have c58 : Steps p.tables e below S0 (T56.setTop (mkF m 114 #[.val (.int pp), .val (.int k), .val (.ref b), .val (.int near), .unset, .unset] [(.int pp), (.int (own_ic pp))])) := c57.trans (by
    refine XS.iloadN X56.here hx rfl (hb hby at_113) rfl ?_
    exact Steps.refl _)
  obtain ⟨_, _, ⟨T59, L59, k59, n59⟩, -, X59, ⟨Lc59, hQ59, l59, y59, z59⟩, st59⟩ := Jvm.LawKit.callS X56 hx (y := (⟨"com/example/trawl/trawl/model/XmlCharsIsCharPinLaw", "excluded", "(I)Z"⟩ : MethodName)) hown (mvT hZ (hw _ (List.mem_of_getElem? (i := 18) rfl))) (mvT hZ (hw _ (List.mem_of_getElem? (i := 19) rfl))) (mvT hZ (hw _ (List.mem_of_getElem? (i := 20) rfl))) (mvT hZ (hw _ (List.mem_of_getElem? (i := 21) rfl))) (by decide) (backOf (W := 1) (own_exc l Z a0 hw [] pp T56.heap n0 Za1) hZ (hw _ (List.mem_of_getElem? (i := 21) rfl)) (hw _ (List.mem_of_getElem? (i := 20) rfl)) (by decide) (by decide)) (g := (mkF m 114 #[.val (.int pp), .val (.int k), .val (.ref b), .val (.int near), .unset, .unset] [(.int pp), (.int (own_ic pp))])) rfl (by rw [hml]; rfl) (argsL := [(.int pp)]) (rest := [(.int (own_ic pp))]) (lenOf own_pd0 rfl) rfl (by show 2 * 0 + _ ≤ _; exact Nat.le_of_eq rfl) (hb hby at_114) (fun _ _ => ⟨rfl, rfl, (Nat.le_of_ble_eq_true rfl), (Nat.le_of_ble_eq_true rfl)⟩)
  dsimp only [Pt.U, Pt.locs, Pt.cells, Pt.slots] at X59 l59 y59 z59 st59 hQ59
  subst l59 y59 z59
  obtain ⟨rfl, N59q, ea2⟩ := hQ59
  have N59 := Fr.app N56 N59q
  have Za2 : n0 ≤ T59.heap.size := by rw [ea2]; exact Za1
  have c60 : Steps p.tables e below S0 (T59.setTop (mkF m 117 #[.val (.int pp), .val (.int k), .val (.ref b), .val (.int near), .unset, .unset] [(.int (own_ex pp)), (.int (own_ic pp))])) := c58.trans (by
    refine st59 _ ?_
    exact Steps.refl _)
  by_cases hPa : own_P pp.toInt
  · rw [own_ic1 hPa, own_ex0 hPa] at c60
    have c61 : Steps p.tables e below S0 (T59.setTop (mkF m 120 #[.val (.int pp), .val (.int k), .val (.ref b), .val (.int near), .unset, .unset] [(.int (1 : Int32))])) := c60.trans (by
      refine XS.ifNo X59.here hx rfl (hb hby at_117) rfl ((if0 _ _).trans (teq (by decide)).2) ?_
      exact Steps.refl _)
    have c62 : Steps p.tables e below S0 (T59.setTop (mkF m 125 #[.val (.int pp), .val (.int k), .val (.ref b), .val (.int near), .unset, .unset] [(.int (1 : Int32)), (.int (1 : Int32))])) := c61.trans (by
      refine XS.iconst X59.here hx rfl (hb hby at_120) ?_
      show Steps p.tables e below (T59.setTop (mkF m 121 #[.val (.int pp), .val (.int k), .val (.ref b), .val (.int near), .unset, .unset] [(.int (1 : Int32)), (.int (1 : Int32))])) _
      refine XS.goto X59.here hx rfl (pc0 := 121) (pc' := 125) rfl (hb hby at_121) (by decide) (by decide) ?_
      exact Steps.refl _)
    have c63 : Steps p.tables e below S0 (T59.setTop (mkF m 128 #[.val (.int pp), .val (.int k), .val (.ref b), .val (.int near), .unset, .unset] [])) := c62.trans (by
      refine XS.icmpNo X59.here hx rfl (hb hby at_125) rfl (teq (by decide)).2 ?_
      exact Steps.refl _)
    have c64 : Steps p.tables e below S0 (T59.setTop (mkF m 136 #[.val (.int pp), .val (.int k), .val (.ref b), .val (.int near), .val (.int (1 : Int32)), .unset] [(.int near)])) := c63.trans (by
      refine XS.iconst X59.here hx rfl (hb hby at_128) ?_
      show Steps p.tables e below (T59.setTop (mkF m 129 #[.val (.int pp), .val (.int k), .val (.ref b), .val (.int near), .unset, .unset] [(.int (1 : Int32))])) _
      refine XS.goto X59.here hx rfl (pc0 := 129) (pc' := 133) rfl (hb hby at_129) (by decide) (by decide) ?_
      show Steps p.tables e below (T59.setTop (mkF m 133 #[.val (.int pp), .val (.int k), .val (.ref b), .val (.int near), .unset, .unset] [(.int (1 : Int32))])) _
      refine XS.istore X59.here hx rfl (hb hby at_133) rfl (l' := #[.val (.int pp), .val (.int k), .val (.ref b), .val (.int near), .val (.int (1 : Int32)), .unset]) rfl ?_
      show Steps p.tables e below (T59.setTop (mkF m 135 #[.val (.int pp), .val (.int k), .val (.ref b), .val (.int near), .val (.int (1 : Int32)), .unset] [])) _
      refine XS.iloadN X59.here hx rfl (hb hby at_135) rfl ?_
      exact Steps.refl _)
    obtain ⟨_, _, ⟨T65, L65, k65, n65⟩, -, X65, ⟨Lc65, hQ65, l65, y65, z65⟩, st65⟩ := Jvm.LawKit.callS X59 hx (y := (⟨"com/example/trawl/trawl/model/XmlChars", "isChar", "(I)Z"⟩ : MethodName)) hown (mvT hZ (hw _ (List.mem_of_getElem? (i := 12) rfl))) (mvT hZ (hw _ (List.mem_of_getElem? (i := 13) rfl))) (mvT hZ (hw _ (List.mem_of_getElem? (i := 14) rfl))) (mvT hZ (hw _ (List.mem_of_getElem? (i := 15) rfl))) (by decide) (backOf (W := 0) (own_isc l Z a0 hw [] near T59.heap n0 Za2) hZ (hw _ (List.mem_of_getElem? (i := 15) rfl)) (hw _ (List.mem_of_getElem? (i := 14) rfl)) (by decide) (by decide)) (g := (mkF m 136 #[.val (.int pp), .val (.int k), .val (.ref b), .val (.int near), .val (.int (1 : Int32)), .unset] [(.int near)])) rfl (by rw [hml]; rfl) (argsL := [(.int near)]) (rest := []) (lenOf own_pd0 rfl) rfl (by show 2 * 0 + _ ≤ _; exact Nat.le_of_eq rfl) (hb hby at_136) (fun _ _ => ⟨rfl, rfl, (Nat.le_of_ble_eq_true rfl), (Nat.le_of_ble_eq_true rfl)⟩)
    dsimp only [Pt.U, Pt.locs, Pt.cells, Pt.slots] at X65 l65 y65 z65 st65 hQ65
    subst l65 y65 z65
    obtain ⟨rfl, N65q, eb1⟩ := hQ65
    have N65 := Fr.app N59 N65q
    have Zb1 : n0 ≤ T65.heap.size := by rw [eb1]; exact Za2
    have c66 : Steps p.tables e below S0 (T65.setTop (mkF m 139 #[.val (.int pp), .val (.int k), .val (.ref b), .val (.int near), .val (.int (1 : Int32)), .unset] [(.int (own_ic near))])) := c64.trans (by
      refine st65 _ ?_
      exact Steps.refl _)
    have c67 : Steps p.tables e below S0 (T65.setTop (mkF m 140 #[.val (.int pp), .val (.int k), .val (.ref b), .val (.int near), .val (.int (1 : Int32)), .unset] [(.int near), (.int (own_ic near))])) := c66.trans (by
      refine XS.iloadN X65.here hx rfl (hb hby at_139) rfl ?_
      exact Steps.refl _)
    obtain ⟨_, _, ⟨T68, L68, k68, n68⟩, -, X68, ⟨Lc68, hQ68, l68, y68, z68⟩, st68⟩ := Jvm.LawKit.callS X65 hx (y := (⟨"com/example/trawl/trawl/model/XmlCharsIsCharPinLaw", "excluded", "(I)Z"⟩ : MethodName)) hown (mvT hZ (hw _ (List.mem_of_getElem? (i := 18) rfl))) (mvT hZ (hw _ (List.mem_of_getElem? (i := 19) rfl))) (mvT hZ (hw _ (List.mem_of_getElem? (i := 20) rfl))) (mvT hZ (hw _ (List.mem_of_getElem? (i := 21) rfl))) (by decide) (backOf (W := 1) (own_exc l Z a0 hw [] near T65.heap n0 Zb1) hZ (hw _ (List.mem_of_getElem? (i := 21) rfl)) (hw _ (List.mem_of_getElem? (i := 20) rfl)) (by decide) (by decide)) (g := (mkF m 140 #[.val (.int pp), .val (.int k), .val (.ref b), .val (.int near), .val (.int (1 : Int32)), .unset] [(.int near), (.int (own_ic near))])) rfl (by rw [hml]; rfl) (argsL := [(.int near)]) (rest := [(.int (own_ic near))]) (lenOf own_pd0 rfl) rfl (by show 2 * 0 + _ ≤ _; exact Nat.le_of_eq rfl) (hb hby at_140) (fun _ _ => ⟨rfl, rfl, (Nat.le_of_ble_eq_true rfl), (Nat.le_of_ble_eq_true rfl)⟩)
    dsimp only [Pt.U, Pt.locs, Pt.cells, Pt.slots] at X68 l68 y68 z68 st68 hQ68
    subst l68 y68 z68
    obtain ⟨rfl, N68q, eb2⟩ := hQ68
    have N68 := Fr.app N65 N68q
    have Zb2 : n0 ≤ T68.heap.size := by rw [eb2]; exact Zb1
    have c69 : Steps p.tables e below S0 (T68.setTop (mkF m 143 #[.val (.int pp), .val (.int k), .val (.ref b), .val (.int near), .val (.int (1 : Int32)), .unset] [(.int (own_ex near)), (.int (own_ic near))])) := c67.trans (by
      refine st68 _ ?_
      exact Steps.refl _)
    by_cases hPb : own_P near.toInt
    · rw [own_ic1 hPb, own_ex0 hPb] at c69
      have c70 : Steps p.tables e below S0 (T68.setTop (mkF m 146 #[.val (.int pp), .val (.int k), .val (.ref b), .val (.int near), .val (.int (1 : Int32)), .unset] [(.int (1 : Int32))])) := c69.trans (by
        refine XS.ifNo X68.here hx rfl (hb hby at_143) rfl ((if0 _ _).trans (teq (by decide)).2) ?_
        exact Steps.refl _)
      have c71 : Steps p.tables e below S0 (T68.setTop (mkF m 151 #[.val (.int pp), .val (.int k), .val (.ref b), .val (.int near), .val (.int (1 : Int32)), .unset] [(.int (1 : Int32)), (.int (1 : Int32))])) := c70.trans (by
        refine XS.iconst X68.here hx rfl (hb hby at_146) ?_
        show Steps p.tables e below (T68.setTop (mkF m 147 #[.val (.int pp), .val (.int k), .val (.ref b), .val (.int near), .val (.int (1 : Int32)), .unset] [(.int (1 : Int32)), (.int (1 : Int32))])) _
        refine XS.goto X68.here hx rfl (pc0 := 147) (pc' := 151) rfl (hb hby at_147) (by decide) (by decide) ?_
        exact Steps.refl _)
      have c72 : Steps p.tables e below S0 (T68.setTop (mkF m 154 #[.val (.int pp), .val (.int k), .val (.ref b), .val (.int near), .val (.int (1 : Int32)), .unset] [])) := c71.trans (by
        refine XS.icmpNo X68.here hx rfl (hb hby at_151) rfl (teq (by decide)).2 ?_
        exact Steps.refl _)
      have c73 : Steps p.tables e below S0 (T68.setTop (mkF m 163 #[.val (.int pp), .val (.int k), .val (.ref b), .val (.int near), .val (.int (1 : Int32)), .val (.int (1 : Int32))] [(.int (1 : Int32))])) := c72.trans (by
        refine XS.iconst X68.here hx rfl (hb hby at_154) ?_
        show Steps p.tables e below (T68.setTop (mkF m 155 #[.val (.int pp), .val (.int k), .val (.ref b), .val (.int near), .val (.int (1 : Int32)), .unset] [(.int (1 : Int32))])) _
        refine XS.goto X68.here hx rfl (pc0 := 155) (pc' := 159) rfl (hb hby at_155) (by decide) (by decide) ?_
        show Steps p.tables e below (T68.setTop (mkF m 159 #[.val (.int pp), .val (.int k), .val (.ref b), .val (.int near), .val (.int (1 : Int32)), .unset] [(.int (1 : Int32))])) _
        refine XS.istore X68.here hx rfl (hb hby at_159) rfl (l' := #[.val (.int pp), .val (.int k), .val (.ref b), .val (.int near), .val (.int (1 : Int32)), .val (.int (1 : Int32))]) rfl ?_
        show Steps p.tables e below (T68.setTop (mkF m 161 #[.val (.int pp), .val (.int k), .val (.ref b), .val (.int near), .val (.int (1 : Int32)), .val (.int (1 : Int32))] [])) _
        refine XS.iload X68.here hx rfl (hb hby at_161) rfl ?_
        exact Steps.refl _)
      have c74 : Steps p.tables e below S0 (T68.setTop (mkF m 166 #[.val (.int pp), .val (.int k), .val (.ref b), .val (.int near), .val (.int (1 : Int32)), .val (.int (1 : Int32))] [])) := c73.trans (by
        refine XS.ifNo X68.here hx rfl (hb hby at_163) rfl ((if0 _ _).trans (feq (by decide)).1) ?_
        exact Steps.refl _)
      have c75 : Steps p.tables e below S0 (T68.setTop (mkF m 168 #[.val (.int pp), .val (.int k), .val (.ref b), .val (.int near), .val (.int (1 : Int32)), .val (.int (1 : Int32))] [(.int (1 : Int32))])) := c74.trans (by
        refine XS.iload X68.here hx rfl (hb hby at_166) rfl ?_
        exact Steps.refl _)
      have c76 : Steps p.tables e below S0 (T68.setTop (mkF m 171 #[.val (.int pp), .val (.int k), .val (.ref b), .val (.int near), .val (.int (1 : Int32)), .val (.int (1 : Int32))] [])) := c75.trans (by
        refine XS.ifNo X68.here hx rfl (hb hby at_168) rfl ((if0 _ _).trans (feq (by decide)).1) ?_
        exact Steps.refl _)
      have c77 : Steps p.tables e below S0 (T68.setTop (mkF m 176 #[.val (.int pp), .val (.int k), .val (.ref b), .val (.int near), .val (.int (1 : Int32)), .val (.int (1 : Int32))] [(.int (1 : Int32))])) := c76.trans (by
        refine XS.iconst X68.here hx rfl (hb hby at_171) ?_
        show Steps p.tables e below (T68.setTop (mkF m 172 #[.val (.int pp), .val (.int k), .val (.ref b), .val (.int near), .val (.int (1 : Int32)), .val (.int (1 : Int32))] [(.int (1 : Int32))])) _
        refine XS.goto X68.here hx rfl (pc0 := 172) (pc' := 176) rfl (hb hby at_172) (by decide) (by decide) ?_
        exact Steps.refl _)
      obtain ⟨fs, hr, hrun, hended, hW, hsame⟩ := X68.leave (v := some (.int (1 : Int32))) (fun h => by rw [Bd.returns] at h; cases h)
      exact ⟨_, _, c77.trans (retN X68 hx (t := .boolean) Bd.returns (by simp) (hb hby at_176) hr), hrun, hended, _, _, rfl, ⟨rfl, N68⟩, ⟨_, rfl⟩, hW, hsame.mono (by decide) (by decide)⟩
    · rw [own_ic0 hPb, own_ex1 hPb] at c69
      have c78 : Steps p.tables e below S0 (T68.setTop (mkF m 150 #[.val (.int pp), .val (.int k), .val (.ref b), .val (.int near), .val (.int (1 : Int32)), .unset] [(.int (0 : Int32))])) := c69.trans (by
        refine XS.ifYes X68.here hx rfl (pc0 := 143) (pc' := 150) rfl (hb hby at_143) rfl ((if0 _ _).trans (feq (by decide)).2) (by decide) (by decide) ?_
        exact Steps.refl _)
      have c79 : Steps p.tables e below S0 (T68.setTop (mkF m 151 #[.val (.int pp), .val (.int k), .val (.ref b), .val (.int near), .val (.int (1 : Int32)), .unset] [(.int (0 : Int32)), (.int (0 : Int32))])) := c78.trans (by
        refine XS.iconst X68.here hx rfl (hb hby at_150) ?_
        exact Steps.refl _)
      have c80 : Steps p.tables e below S0 (T68.setTop (mkF m 154 #[.val (.int pp), .val (.int k), .val (.ref b), .val (.int near), .val (.int (1 : Int32)), .unset] [])) := c79.trans (by
        refine XS.icmpNo X68.here hx rfl (hb hby at_151) rfl (teq (by decide)).2 ?_
        exact Steps.refl _)
      have c81 : Steps p.tables e below S0 (T68.setTop (mkF m 163 #[.val (.int pp), .val (.int k), .val (.ref b), .val (.int near), .val (.int (1 : Int32)), .val (.int (1 : Int32))] [(.int (1 : Int32))])) := c80.trans (by
        refine XS.iconst X68.here hx rfl (hb hby at_154) ?_
        show Steps p.tables e below (T68.setTop (mkF m 155 #[.val (.int pp), .val (.int k), .val (.ref b), .val (.int near), .val (.int (1 : Int32)), .unset] [(.int (1 : Int32))])) _
        refine XS.goto X68.here hx rfl (pc0 := 155) (pc' := 159) rfl (hb hby at_155) (by decide) (by decide) ?_
        show Steps p.tables e below (T68.setTop (mkF m 159 #[.val (.int pp), .val (.int k), .val (.ref b), .val (.int near), .val (.int (1 : Int32)), .unset] [(.int (1 : Int32))])) _
        refine XS.istore X68.here hx rfl (hb hby at_159) rfl (l' := #[.val (.int pp), .val (.int k), .val (.ref b), .val (.int near), .val (.int (1 : Int32)), .val (.int (1 : Int32))]) rfl ?_
        show Steps p.tables e below (T68.setTop (mkF m 161 #[.val (.int pp), .val (.int k), .val (.ref b), .val (.int near), .val (.int (1 : Int32)), .val (.int (1 : Int32))] [])) _
        refine XS.iload X68.here hx rfl (hb hby at_161) rfl ?_
        exact Steps.refl _)
      have c82 : Steps p.tables e below S0 (T68.setTop (mkF m 166 #[.val (.int pp), .val (.int k), .val (.ref b), .val (.int near), .val (.int (1 : Int32)), .val (.int (1 : Int32))] [])) := c81.trans (by
        refine XS.ifNo X68.here hx rfl (hb hby at_163) rfl ((if0 _ _).trans (feq (by decide)).1) ?_
        exact Steps.refl _)
      have c83 : Steps p.tables e below S0 (T68.setTop (mkF m 168 #[.val (.int pp), .val (.int k), .val (.ref b), .val (.int near), .val (.int (1 : Int32)), .val (.int (1 : Int32))] [(.int (1 : Int32))])) := c82.trans (by
        refine XS.iload X68.here hx rfl (hb hby at_166) rfl ?_
        exact Steps.refl _)
      have c84 : Steps p.tables e below S0 (T68.setTop (mkF m 171 #[.val (.int pp), .val (.int k), .val (.ref b), .val (.int near), .val (.int (1 : Int32)), .val (.int (1 : Int32))] [])) := c83.trans (by
        refine XS.ifNo X68.here hx rfl (hb hby at_168) rfl ((if0 _ _).trans (feq (by decide)).1) ?_
        exact Steps.refl _)
      have c85 : Steps p.tables e below S0 (T68.setTop (mkF m 176 #[.val (.int pp), .val (.int k), .val (.ref b), .val (.int near), .val (.int (1 : Int32)), .val (.int (1 : Int32))] [(.int (1 : Int32))])) := c84.trans (by
        refine XS.iconst X68.here hx rfl (hb hby at_171) ?_
        show Steps p.tables e below (T68.setTop (mkF m 172 #[.val (.int pp), .val (.int k), .val (.ref b), .val (.int near), .val (.int (1 : Int32)), .val (.int (1 : Int32))] [(.int (1 : Int32))])) _
        refine XS.goto X68.here hx rfl (pc0 := 172) (pc' := 176) rfl (hb hby at_172) (by decide) (by decide) ?_
        exact Steps.refl _)
      obtain ⟨fs, hr, hrun, hended, hW, hsame⟩ := X68.leave (v := some (.int (1 : Int32))) (fun h => by rw [Bd.returns] at h; cases h)
      exact ⟨_, _, c85.trans (retN X68 hx (t := .boolean) Bd.returns (by simp) (hb hby at_176) hr), hrun, hended, _, _, rfl, ⟨rfl, N68⟩, ⟨_, rfl⟩, hW, hsame.mono (by decide) (by decide)⟩
  · rw [own_ic0 hPa, own_ex1 hPa] at c60
    have c86 : Steps p.tables e below S0 (T59.setTop (mkF m 124 #[.val (.int pp), .val (.int k), .val (.ref b), .val (.int near), .unset, .unset] [(.int (0 : Int32))])) := c60.trans (by
      refine XS.ifYes X59.here hx rfl (pc0 := 117) (pc' := 124) rfl (hb hby at_117) rfl ((if0 _ _).trans (feq (by decide)).2) (by decide) (by decide) ?_
      exact Steps.refl _)
    have c87 : Steps p.tables e below S0 (T59.setTop (mkF m 125 #[.val (.int pp), .val (.int k), .val (.ref b), .val (.int near), .unset, .unset] [(.int (0 : Int32)), (.int (0 : Int32))])) := c86.trans (by
      refine XS.iconst X59.here hx rfl (hb hby at_124) ?_
      exact Steps.refl _)
    have c88 : Steps p.tables e below S0 (T59.setTop (mkF m 128 #[.val (.int pp), .val (.int k), .val (.ref b), .val (.int near), .unset, .unset] [])) := c87.trans (by
      refine XS.icmpNo X59.here hx rfl (hb hby at_125) rfl (teq (by decide)).2 ?_
      exact Steps.refl _)
    have c89 : Steps p.tables e below S0 (T59.setTop (mkF m 136 #[.val (.int pp), .val (.int k), .val (.ref b), .val (.int near), .val (.int (1 : Int32)), .unset] [(.int near)])) := c88.trans (by
      refine XS.iconst X59.here hx rfl (hb hby at_128) ?_
      show Steps p.tables e below (T59.setTop (mkF m 129 #[.val (.int pp), .val (.int k), .val (.ref b), .val (.int near), .unset, .unset] [(.int (1 : Int32))])) _
      refine XS.goto X59.here hx rfl (pc0 := 129) (pc' := 133) rfl (hb hby at_129) (by decide) (by decide) ?_
      show Steps p.tables e below (T59.setTop (mkF m 133 #[.val (.int pp), .val (.int k), .val (.ref b), .val (.int near), .unset, .unset] [(.int (1 : Int32))])) _
      refine XS.istore X59.here hx rfl (hb hby at_133) rfl (l' := #[.val (.int pp), .val (.int k), .val (.ref b), .val (.int near), .val (.int (1 : Int32)), .unset]) rfl ?_
      show Steps p.tables e below (T59.setTop (mkF m 135 #[.val (.int pp), .val (.int k), .val (.ref b), .val (.int near), .val (.int (1 : Int32)), .unset] [])) _
      refine XS.iloadN X59.here hx rfl (hb hby at_135) rfl ?_
      exact Steps.refl _)
    obtain ⟨_, _, ⟨T90, L90, k90, n90⟩, -, X90, ⟨Lc90, hQ90, l90, y90, z90⟩, st90⟩ := Jvm.LawKit.callS X59 hx (y := (⟨"com/example/trawl/trawl/model/XmlChars", "isChar", "(I)Z"⟩ : MethodName)) hown (mvT hZ (hw _ (List.mem_of_getElem? (i := 12) rfl))) (mvT hZ (hw _ (List.mem_of_getElem? (i := 13) rfl))) (mvT hZ (hw _ (List.mem_of_getElem? (i := 14) rfl))) (mvT hZ (hw _ (List.mem_of_getElem? (i := 15) rfl))) (by decide) (backOf (W := 0) (own_isc l Z a0 hw [] near T59.heap n0 Za2) hZ (hw _ (List.mem_of_getElem? (i := 15) rfl)) (hw _ (List.mem_of_getElem? (i := 14) rfl)) (by decide) (by decide)) (g := (mkF m 136 #[.val (.int pp), .val (.int k), .val (.ref b), .val (.int near), .val (.int (1 : Int32)), .unset] [(.int near)])) rfl (by rw [hml]; rfl) (argsL := [(.int near)]) (rest := []) (lenOf own_pd0 rfl) rfl (by show 2 * 0 + _ ≤ _; exact Nat.le_of_eq rfl) (hb hby at_136) (fun _ _ => ⟨rfl, rfl, (Nat.le_of_ble_eq_true rfl), (Nat.le_of_ble_eq_true rfl)⟩)
    dsimp only [Pt.U, Pt.locs, Pt.cells, Pt.slots] at X90 l90 y90 z90 st90 hQ90
    subst l90 y90 z90
    obtain ⟨rfl, N90q, eb1⟩ := hQ90
    have N90 := Fr.app N59 N90q
    have Zb1 : n0 ≤ T90.heap.size := by rw [eb1]; exact Za2
    have c91 : Steps p.tables e below S0 (T90.setTop (mkF m 139 #[.val (.int pp), .val (.int k), .val (.ref b), .val (.int near), .val (.int (1 : Int32)), .unset] [(.int (own_ic near))])) := c89.trans (by
      refine st90 _ ?_
      exact Steps.refl _)
    have c92 : Steps p.tables e below S0 (T90.setTop (mkF m 140 #[.val (.int pp), .val (.int k), .val (.ref b), .val (.int near), .val (.int (1 : Int32)), .unset] [(.int near), (.int (own_ic near))])) := c91.trans (by
      refine XS.iloadN X90.here hx rfl (hb hby at_139) rfl ?_
      exact Steps.refl _)
    obtain ⟨_, _, ⟨T93, L93, k93, n93⟩, -, X93, ⟨Lc93, hQ93, l93, y93, z93⟩, st93⟩ := Jvm.LawKit.callS X90 hx (y := (⟨"com/example/trawl/trawl/model/XmlCharsIsCharPinLaw", "excluded", "(I)Z"⟩ : MethodName)) hown (mvT hZ (hw _ (List.mem_of_getElem? (i := 18) rfl))) (mvT hZ (hw _ (List.mem_of_getElem? (i := 19) rfl))) (mvT hZ (hw _ (List.mem_of_getElem? (i := 20) rfl))) (mvT hZ (hw _ (List.mem_of_getElem? (i := 21) rfl))) (by decide) (backOf (W := 1) (own_exc l Z a0 hw [] near T90.heap n0 Zb1) hZ (hw _ (List.mem_of_getElem? (i := 21) rfl)) (hw _ (List.mem_of_getElem? (i := 20) rfl)) (by decide) (by decide)) (g := (mkF m 140 #[.val (.int pp), .val (.int k), .val (.ref b), .val (.int near), .val (.int (1 : Int32)), .unset] [(.int near), (.int (own_ic near))])) rfl (by rw [hml]; rfl) (argsL := [(.int near)]) (rest := [(.int (own_ic near))]) (lenOf own_pd0 rfl) rfl (by show 2 * 0 + _ ≤ _; exact Nat.le_of_eq rfl) (hb hby at_140) (fun _ _ => ⟨rfl, rfl, (Nat.le_of_ble_eq_true rfl), (Nat.le_of_ble_eq_true rfl)⟩)
    dsimp only [Pt.U, Pt.locs, Pt.cells, Pt.slots] at X93 l93 y93 z93 st93 hQ93
    subst l93 y93 z93
    obtain ⟨rfl, N93q, eb2⟩ := hQ93
    have N93 := Fr.app N90 N93q
    have Zb2 : n0 ≤ T93.heap.size := by rw [eb2]; exact Zb1
    have c94 : Steps p.tables e below S0 (T93.setTop (mkF m 143 #[.val (.int pp), .val (.int k), .val (.ref b), .val (.int near), .val (.int (1 : Int32)), .unset] [(.int (own_ex near)), (.int (own_ic near))])) := c92.trans (by
      refine st93 _ ?_
      exact Steps.refl _)
    by_cases hPb : own_P near.toInt
    · rw [own_ic1 hPb, own_ex0 hPb] at c94
      have c95 : Steps p.tables e below S0 (T93.setTop (mkF m 146 #[.val (.int pp), .val (.int k), .val (.ref b), .val (.int near), .val (.int (1 : Int32)), .unset] [(.int (1 : Int32))])) := c94.trans (by
        refine XS.ifNo X93.here hx rfl (hb hby at_143) rfl ((if0 _ _).trans (teq (by decide)).2) ?_
        exact Steps.refl _)
      have c96 : Steps p.tables e below S0 (T93.setTop (mkF m 151 #[.val (.int pp), .val (.int k), .val (.ref b), .val (.int near), .val (.int (1 : Int32)), .unset] [(.int (1 : Int32)), (.int (1 : Int32))])) := c95.trans (by
        refine XS.iconst X93.here hx rfl (hb hby at_146) ?_
        show Steps p.tables e below (T93.setTop (mkF m 147 #[.val (.int pp), .val (.int k), .val (.ref b), .val (.int near), .val (.int (1 : Int32)), .unset] [(.int (1 : Int32)), (.int (1 : Int32))])) _
        refine XS.goto X93.here hx rfl (pc0 := 147) (pc' := 151) rfl (hb hby at_147) (by decide) (by decide) ?_
        exact Steps.refl _)
      have c97 : Steps p.tables e below S0 (T93.setTop (mkF m 154 #[.val (.int pp), .val (.int k), .val (.ref b), .val (.int near), .val (.int (1 : Int32)), .unset] [])) := c96.trans (by
        refine XS.icmpNo X93.here hx rfl (hb hby at_151) rfl (teq (by decide)).2 ?_
        exact Steps.refl _)
      have c98 : Steps p.tables e below S0 (T93.setTop (mkF m 163 #[.val (.int pp), .val (.int k), .val (.ref b), .val (.int near), .val (.int (1 : Int32)), .val (.int (1 : Int32))] [(.int (1 : Int32))])) := c97.trans (by
        refine XS.iconst X93.here hx rfl (hb hby at_154) ?_
        show Steps p.tables e below (T93.setTop (mkF m 155 #[.val (.int pp), .val (.int k), .val (.ref b), .val (.int near), .val (.int (1 : Int32)), .unset] [(.int (1 : Int32))])) _
        refine XS.goto X93.here hx rfl (pc0 := 155) (pc' := 159) rfl (hb hby at_155) (by decide) (by decide) ?_
        show Steps p.tables e below (T93.setTop (mkF m 159 #[.val (.int pp), .val (.int k), .val (.ref b), .val (.int near), .val (.int (1 : Int32)), .unset] [(.int (1 : Int32))])) _
        refine XS.istore X93.here hx rfl (hb hby at_159) rfl (l' := #[.val (.int pp), .val (.int k), .val (.ref b), .val (.int near), .val (.int (1 : Int32)), .val (.int (1 : Int32))]) rfl ?_
        show Steps p.tables e below (T93.setTop (mkF m 161 #[.val (.int pp), .val (.int k), .val (.ref b), .val (.int near), .val (.int (1 : Int32)), .val (.int (1 : Int32))] [])) _
        refine XS.iload X93.here hx rfl (hb hby at_161) rfl ?_
        exact Steps.refl _)
      have c99 : Steps p.tables e below S0 (T93.setTop (mkF m 166 #[.val (.int pp), .val (.int k), .val (.ref b), .val (.int near), .val (.int (1 : Int32)), .val (.int (1 : Int32))] [])) := c98.trans (by
        refine XS.ifNo X93.here hx rfl (hb hby at_163) rfl ((if0 _ _).trans (feq (by decide)).1) ?_
        exact Steps.refl _)
      have c100 : Steps p.tables e below S0 (T93.setTop (mkF m 168 #[.val (.int pp), .val (.int k), .val (.ref b), .val (.int near), .val (.int (1 : Int32)), .val (.int (1 : Int32))] [(.int (1 : Int32))])) := c99.trans (by
        refine XS.iload X93.here hx rfl (hb hby at_166) rfl ?_
        exact Steps.refl _)
      have c101 : Steps p.tables e below S0 (T93.setTop (mkF m 171 #[.val (.int pp), .val (.int k), .val (.ref b), .val (.int near), .val (.int (1 : Int32)), .val (.int (1 : Int32))] [])) := c100.trans (by
        refine XS.ifNo X93.here hx rfl (hb hby at_168) rfl ((if0 _ _).trans (feq (by decide)).1) ?_
        exact Steps.refl _)
      have c102 : Steps p.tables e below S0 (T93.setTop (mkF m 176 #[.val (.int pp), .val (.int k), .val (.ref b), .val (.int near), .val (.int (1 : Int32)), .val (.int (1 : Int32))] [(.int (1 : Int32))])) := c101.trans (by
        refine XS.iconst X93.here hx rfl (hb hby at_171) ?_
        show Steps p.tables e below (T93.setTop (mkF m 172 #[.val (.int pp), .val (.int k), .val (.ref b), .val (.int near), .val (.int (1 : Int32)), .val (.int (1 : Int32))] [(.int (1 : Int32))])) _
        refine XS.goto X93.here hx rfl (pc0 := 172) (pc' := 176) rfl (hb hby at_172) (by decide) (by decide) ?_
        exact Steps.refl _)
      obtain ⟨fs, hr, hrun, hended, hW, hsame⟩ := X93.leave (v := some (.int (1 : Int32))) (fun h => by rw [Bd.returns] at h; cases h)
      exact ⟨_, _, c102.trans (retN X93 hx (t := .boolean) Bd.returns (by simp) (hb hby at_176) hr), hrun, hended, _, _, rfl, ⟨rfl, N93⟩, ⟨_, rfl⟩, hW, hsame.mono (by decide) (by decide)⟩
    · rw [own_ic0 hPb, own_ex1 hPb] at c94
      have c103 : Steps p.tables e below S0 (T93.setTop (mkF m 150 #[.val (.int pp), .val (.int k), .val (.ref b), .val (.int near), .val (.int (1 : Int32)), .unset] [(.int (0 : Int32))])) := c94.trans (by
        refine XS.ifYes X93.here hx rfl (pc0 := 143) (pc' := 150) rfl (hb hby at_143) rfl ((if0 _ _).trans (feq (by decide)).2) (by decide) (by decide) ?_
        exact Steps.refl _)
      have c104 : Steps p.tables e below S0 (T93.setTop (mkF m 151 #[.val (.int pp), .val (.int k), .val (.ref b), .val (.int near), .val (.int (1 : Int32)), .unset] [(.int (0 : Int32)), (.int (0 : Int32))])) := c103.trans (by
        refine XS.iconst X93.here hx rfl (hb hby at_150) ?_
        exact Steps.refl _)
      have c105 : Steps p.tables e below S0 (T93.setTop (mkF m 154 #[.val (.int pp), .val (.int k), .val (.ref b), .val (.int near), .val (.int (1 : Int32)), .unset] [])) := c104.trans (by
        refine XS.icmpNo X93.here hx rfl (hb hby at_151) rfl (teq (by decide)).2 ?_
        exact Steps.refl _)
      have c106 : Steps p.tables e below S0 (T93.setTop (mkF m 163 #[.val (.int pp), .val (.int k), .val (.ref b), .val (.int near), .val (.int (1 : Int32)), .val (.int (1 : Int32))] [(.int (1 : Int32))])) := c105.trans (by
        refine XS.iconst X93.here hx rfl (hb hby at_154) ?_
        show Steps p.tables e below (T93.setTop (mkF m 155 #[.val (.int pp), .val (.int k), .val (.ref b), .val (.int near), .val (.int (1 : Int32)), .unset] [(.int (1 : Int32))])) _
        refine XS.goto X93.here hx rfl (pc0 := 155) (pc' := 159) rfl (hb hby at_155) (by decide) (by decide) ?_
        show Steps p.tables e below (T93.setTop (mkF m 159 #[.val (.int pp), .val (.int k), .val (.ref b), .val (.int near), .val (.int (1 : Int32)), .unset] [(.int (1 : Int32))])) _
        refine XS.istore X93.here hx rfl (hb hby at_159) rfl (l' := #[.val (.int pp), .val (.int k), .val (.ref b), .val (.int near), .val (.int (1 : Int32)), .val (.int (1 : Int32))]) rfl ?_
        show Steps p.tables e below (T93.setTop (mkF m 161 #[.val (.int pp), .val (.int k), .val (.ref b), .val (.int near), .val (.int (1 : Int32)), .val (.int (1 : Int32))] [])) _
        refine XS.iload X93.here hx rfl (hb hby at_161) rfl ?_
        exact Steps.refl _)
      have c107 : Steps p.tables e below S0 (T93.setTop (mkF m 166 #[.val (.int pp), .val (.int k), .val (.ref b), .val (.int near), .val (.int (1 : Int32)), .val (.int (1 : Int32))] [])) := c106.trans (by
        refine XS.ifNo X93.here hx rfl (hb hby at_163) rfl ((if0 _ _).trans (feq (by decide)).1) ?_
        exact Steps.refl _)
      have c108 : Steps p.tables e below S0 (T93.setTop (mkF m 168 #[.val (.int pp), .val (.int k), .val (.ref b), .val (.int near), .val (.int (1 : Int32)), .val (.int (1 : Int32))] [(.int (1 : Int32))])) := c107.trans (by
        refine XS.iload X93.here hx rfl (hb hby at_166) rfl ?_
        exact Steps.refl _)
      have c109 : Steps p.tables e below S0 (T93.setTop (mkF m 171 #[.val (.int pp), .val (.int k), .val (.ref b), .val (.int near), .val (.int (1 : Int32)), .val (.int (1 : Int32))] [])) := c108.trans (by
        refine XS.ifNo X93.here hx rfl (hb hby at_168) rfl ((if0 _ _).trans (feq (by decide)).1) ?_
        exact Steps.refl _)
      have c110 : Steps p.tables e below S0 (T93.setTop (mkF m 176 #[.val (.int pp), .val (.int k), .val (.ref b), .val (.int near), .val (.int (1 : Int32)), .val (.int (1 : Int32))] [(.int (1 : Int32))])) := c109.trans (by
        refine XS.iconst X93.here hx rfl (hb hby at_171) ?_
        show Steps p.tables e below (T93.setTop (mkF m 172 #[.val (.int pp), .val (.int k), .val (.ref b), .val (.int near), .val (.int (1 : Int32)), .val (.int (1 : Int32))] [(.int (1 : Int32))])) _
        refine XS.goto X93.here hx rfl (pc0 := 172) (pc' := 176) rfl (hb hby at_172) (by decide) (by decide) ?_
        exact Steps.refl _)
      obtain ⟨fs, hr, hrun, hended, hW, hsame⟩ := X93.leave (v := some (.int (1 : Int32))) (fun h => by rw [Bd.returns] at h; cases h)
      exact ⟨_, _, c110.trans (retN X93 hx (t := .boolean) Bd.returns (by simp) (hb hby at_176) hr), hrun, hended, _, _, rfl, ⟨rfl, N93⟩, ⟨_, rfl⟩, hW, hsame.mono (by decide) (by decide)⟩
set_option maxRecDepth 65536 in
set_option maxHeartbeats 40000000 in
theorem own_comes {Post : Tables → Env → Array Value → State → Outcome → State → Prop} (hpost : ∀ tb e args s v u, (limb_1_1.after args s (.returned v) u = true ∧ limb_1_2.after args s (.returned v) u = true) → FrameEnd s (.returned v) u (Jvm.fieldLocs frame_1_writes args s ++ Jvm.arrayLocs frame_1_arrays args s ++ Jvm.staticLocs frame_1_statics s) 16 128 → Post tb e args s (.returned v) u) :
    ArmFor flags0 classFile x code maxLocals ret World_1 tables_1 room_1 Calls_1 rest_1 Pre_1 Post := by
  intro l hfl _ _ p e ha hc hk s m args below hf hA hF happ hP
  obtain ⟨hcalls, hrest, hpre⟩ := hP
  obtain ⟨-, -, -, hnamed, -, -, -, hat⟩ := (Spec.applies_iff hf).mp happ
  obtain ⟨hg, hn⟩ := and_e (Cond.before_iff.mp (show (Jvm.Cond.and given_1 narrow_1).before args s = true from hpre))
  obtain ⟨hcount, hgs⟩ := and_e hg
  obtain ⟨hi0, hgs0⟩ := and_e hgs
  obtain ⟨w0, w1, rfl⟩ : ∃ w0 w1 : Value, args = #[w0, w1] := by
    have hs : args.size = 2 := by simpa [Cond.value, given_1] using hcount
    obtain ⟨L⟩ := args
    match L, hs with
    | [w0, w1], _ => exact ⟨w0, w1, rfl⟩
  have hw := fun d (hd : d ∈ tables_1) => atoms_spec (ws := Jvm.Cond.code x code maxLocals ret :: tables_1) hat d (List.mem_cons_of_mem _ hd)
  have hfit : Fit s := fun {y c} hc i hi => by
    obtain ⟨ha, rfl⟩ := Array.getElem?_eq_some_iff.mp hc
    have q := List.all_eq_true.mp ((Array.all_eq_true_iff_forall_mem.mp hF) _ (Array.getElem_mem ha)) i (List.mem_range.mpr hi)
    simpa [Array.getElem?_eq_getElem hi] using q
  obtain ⟨i0, ei0⟩ := is_v hi0
  obtain rfl : w0 = (.int i0) := Option.some.inj ei0
  obtain ⟨i1, ei1⟩ := is_v hgs0
  obtain rfl : w1 = (.int i1) := Option.some.inj ei1
  obtain ⟨n, o, h1, h2, h3, _, L, rfl, ⟨rfl, N⟩, hq⟩ := own_law l s _ hw tables_1 i0 i1 s.heap s.heap.size (Nat.le_refl _) p e ha hc hk s m _ below hf ((Spec.applies_iff_loose hf).mp happ).1 ⟨rfl, State.Warmed39.refl s, rfl⟩ trivial
  exact ⟨n, _, h1, h2, h3, hpost _ _ _ _ _ _ ⟨Cond.after_iff.mpr rfl, Cond.after_iff.mpr (eq_i res_at (Term.int_eval (1)) rfl)⟩ ⟨hq.1, hq.2.1, (hq.2.2.sift fun y hy => Or.inr (N y hy)).mono (by decide) (by decide)⟩⟩
theorem main_1_1 : Claimed_1_1 := own_comes fun _ _ _ _ _ _ h hF => ⟨h.1, hF⟩
theorem main_1_2 : Claimed_1_2 := own_comes fun _ _ _ _ _ _ h hF => ⟨h.2, hF⟩
end Jvm.Pilot.@@N@@
namespace Jvm.Pilot.@@N@@
open Jvm Jvm.ClassFile Sem Op Lib Jvm.Free Jvm.Stand Jvm.Pilot.@@N@@.Jvm.D
/-! MADE BY PROGRAM (witnessworld.py) out of the Statement's table words and the real class files: 9 classes; the members and pool entries that the words name. The judged class is class 1, her method 2. -/
namespace start1
open Jvm.ClassFile
def u (s : String) : CpInfo := .utf8 (stringToUtf16 s)
/-- a pool by its gaps: so many unusable entries, then the entry; so many at the end -/
def gap : Nat → List CpInfo → List CpInfo
  | 0, r => r
  | n + 1, r => .unusable :: gap n r
def poolList (es : List (Nat × CpInfo)) (last : Nat) : List CpInfo := es.foldr (fun e r => gap e.1 (e.2 :: r)) (gap last [])
def pool (es : List (Nat × CpInfo)) (last : Nat) : Array CpInfo := ⟨poolList es last⟩
def fileOf (pool : Array CpInfo) (this : Nat) (attrs : Array Attribute := #[]) (ms : Array MethodInfo := #[]) (fl : Nat := 33) (sup : Nat := 0) (ifs : Array Nat := #[]) (fds : Array FieldInfo := #[]) : ClassFile where
  minorVersion := 0
  majorVersion := 65
  constantPool := pool
  accessFlags := fl
  thisClass := this
  superClass := sup
  interfaces := ifs
  fields := fds
  methods := ms
  attributes := attrs
def plain (name : String) (sup : Option ClassId) : Class where
  name := name
  kind := .ordinary
  loader := none
  accessFlags := 33
  super := sup
  interfaces := #[]
  cf := none
  fields := #[]
  methods := #[]
  instanceTypes := #[]
  staticTypes := #[]
  resolved := #[]
  callSites := []
  init := .initialized
  statics := none
  mirror := none

def pool0 : Array CpInfo := pool [(5, u "<init>"), (0, u "()V"), (1, .class_ 10), (1, u "java/lang/Object")] 113

def k0m0 : Method := { name := "<init>", desc := "()V", sig := { parameters := [], returnType := none }, accessFlags := 1, code := none }
/-- java/lang/Object -/
def k0 : Class := { plain "java/lang/Object" none with
  accessFlags := 33
  interfaces := #[]
  cf := some (fileOf pool0 8 #[] #[{ accessFlags := 1, nameIndex := 5, descriptorIndex := 6, attributes := #[] }] 33 0 #[] #[])
  fields := #[]
  methods := #[k0m0]
  instanceTypes := #[]
  staticTypes := #[]
  resolved := Array.replicate 124 none
  statics := none }

def pool1 : Array CpInfo := pool [(2, .class_ 4), (1, u "java/lang/Object"), (0, u "<init>"), (0, u "()V"), (0, .integer 55296), (0, .integer 57343), (0, .integer 65534), (0, .integer 65535), (0, .integer 1114111), (0, .integer 55295), (0, .integer 57344), (0, .integer 65533), (0, .integer 65536), (0, .integer 1114112), (2, .integer 2147483648), (0, .integer 2147483647), (0, .methodref 22 23), (0, .class_ 24), (0, .nameAndType 25 26), (0, u "com/example/trawl/trawl/model/XmlChars"), (0, u "isChar"), (0, u "(I)Z"), (0, .methodref 28 29), (0, .class_ 30), (0, .nameAndType 31 26), (0, u "com/example/trawl/trawl/model/XmlCharsIsCharPinLaw"), (0, u "excluded"), (3, u "law"), (0, u "(II)Z")] 4

def k1m0 : Method := { name := "<init>", desc := "()V", sig := { parameters := [], returnType := none }, accessFlags := 2, code := none }
def k1c1 : Code := { maxStack := 2, maxLocals := 1, code := method_2_code, exceptionTable := #[], attributes := #[] }
def k1m1 : Method := { name := "excluded", desc := "(I)Z", sig := { parameters := [.int], returnType := some .boolean }, accessFlags := 10, code := some k1c1 }
def k1c2 : Code := { maxStack := 4, maxLocals := 6, code := code, exceptionTable := #[], attributes := #[] }
def k1m2 : Method := { name := "law", desc := "(II)Z", sig := { parameters := [.int, .int], returnType := some .boolean }, accessFlags := 9, code := some k1c2 }
/-- com/example/trawl/trawl/model/XmlCharsIsCharPinLaw -/
def k1 : Class := { plain "com/example/trawl/trawl/model/XmlCharsIsCharPinLaw" (some 0) with
  accessFlags := 49
  interfaces := #[]
  cf := some (fileOf pool1 28 #[] #[{ accessFlags := 2, nameIndex := 5, descriptorIndex := 6, attributes := #[] }, { accessFlags := 10, nameIndex := 31, descriptorIndex := 26, attributes := #[] }, { accessFlags := 9, nameIndex := 35, descriptorIndex := 36, attributes := #[] }] 49 2 #[] #[])
  fields := #[]
  methods := #[k1m0, k1m1, k1m2]
  instanceTypes := #[]
  staticTypes := #[]
  resolved := Array.replicate 41 none
  statics := none }

def pool2 : Array CpInfo := pool [(2, .class_ 4), (1, u "java/lang/Object"), (0, u "<init>"), (0, u "()V"), (0, .integer 55295), (0, .integer 57344), (0, .integer 65533), (0, .integer 65536), (0, .integer 1114111), (1, .class_ 15), (1, u "com/example/trawl/trawl/model/XmlChars"), (0, u "NAME_START_RANGES"), (0, u "[I"), (17, u "(I)Z"), (35, u "NAME_RANGES"), (6, u "isChar")] 7

def k2m0 : Method := { name := "<init>", desc := "()V", sig := { parameters := [], returnType := none }, accessFlags := 2, code := none }
def k2c1 : Code := { maxStack := 2, maxLocals := 1, code := prog_86_method_2_code, exceptionTable := #[], attributes := #[] }
def k2m1 : Method := { name := "isChar", desc := "(I)Z", sig := { parameters := [.int], returnType := some .boolean }, accessFlags := 9, code := some k2c1 }
/-- com/example/trawl/trawl/model/XmlChars -/
def k2 : Class := { plain "com/example/trawl/trawl/model/XmlChars" (some 0) with
  accessFlags := 49
  interfaces := #[]
  cf := some (fileOf pool2 13 #[] #[{ accessFlags := 2, nameIndex := 5, descriptorIndex := 6, attributes := #[] }, { accessFlags := 9, nameIndex := 78, descriptorIndex := 35, attributes := #[] }] 49 2 #[] #[{ accessFlags := 26, nameIndex := 16, descriptorIndex := 17, attributes := #[] }, { accessFlags := 26, nameIndex := 71, descriptorIndex := 17, attributes := #[] }])
  fields := #[{ name := "NAME_START_RANGES", type := (.array .int), accessFlags := 26, slot := 0, constantValue := 0 }, { name := "NAME_RANGES", type := (.array .int), accessFlags := 26, slot := 1, constantValue := 0 }]
  methods := #[k2m0, k2m1]
  instanceTypes := #[]
  staticTypes := #[(.array .int), (.array .int)]
  resolved := Array.replicate 86 none
  statics := none }

def pool3 : Array CpInfo := pool [(1, u "java/lang/Cloneable"), (0, .class_ 1), (0, u "java/lang/Object"), (0, .class_ 3)] 3

/-- java/lang/Cloneable -/
def k3 : Class := { plain "java/lang/Cloneable" (some 0) with
  accessFlags := 1537
  interfaces := #[]
  cf := some (fileOf pool3 2 #[] #[] 1537 4 #[] #[])
  fields := #[]
  methods := #[]
  instanceTypes := #[]
  staticTypes := #[]
  resolved := Array.replicate 8 none
  statics := none }

def pool4 : Array CpInfo := pool [(1, u "java/io/Serializable"), (0, .class_ 1), (0, u "java/lang/Object"), (0, .class_ 3)] 3

/-- java/io/Serializable -/
def k4 : Class := { plain "java/io/Serializable" (some 0) with
  accessFlags := 1537
  interfaces := #[]
  cf := some (fileOf pool4 2 #[] #[] 1537 4 #[] #[])
  fields := #[]
  methods := #[]
  instanceTypes := #[]
  staticTypes := #[]
  resolved := Array.replicate 8 none
  statics := none }

/-- the primitive byte -/
def k5 : Class := { plain "byte" none with kind := .primitive 'B', accessFlags := 0x411 }
/-- [B -/
def k6 : Class := { plain "[B" (some 0) with kind := .array 5 .byte, interfaces := #[3, 4], accessFlags := 1041 }

/-- the primitive int -/
def k7 : Class := { plain "int" none with kind := .primitive 'I', accessFlags := 0x411 }
/-- [I -/
def k8 : Class := { plain "[I" (some 0) with kind := .array 7 .int, interfaces := #[3, 4], accessFlags := 1041 }

def heap : Heap := #[]
def classes : Array Class := #[k0, k1, k2, k3, k4, k5, k6, k7, k8]
def interned : List (Array UInt16 × Addr) := []
def slotsUsed : Nat := 0
def theMethod : MethodId := ⟨1, 2⟩
def args0 : Array Value := #[.int 5, .int 7]
def aboutOver (below : List Frame) : State where
  vm := { classes := classes, interned := interned.toArray }
  heap := heap
  slotsUsed := slotsUsed
  threads := #[{ frames := .invoking theMethod args0 :: below }]
def below0 : List Frame := [.native { method := ⟨0, 0⟩, args := #[] }]
def about1 : State := aboutOver below0
def p0 : Program := .bare "" "" ""
def e0 : Env := launch0.env 0 0 0
theorem w_frames : about1.frames = Frame.invoking theMethod args0 :: below0 := rfl
set_option maxRecDepth 65536 in
theorem w_args : argsFit about1.vm theMethod args0 = true := by decide +kernel
set_option maxRecDepth 65536 in
theorem w_heap : heapFits about1 = true := by decide +kernel
set_option maxRecDepth 65536 in
theorem w_runnable : about1.curStatus? = some .runnable := by decide +kernel
set_option maxRecDepth 65536 in
theorem w_alone : about1.alone = true := by decide +kernel
set_option maxRecDepth 65536 in
theorem w_named : about1.methodNamed? x = some theMethod := by decide +kernel
set_option maxRecDepth 65536 in
theorem w_hears : about1.hears theMethod below0 = true := by decide +kernel
set_option maxRecDepth 65536 in
theorem w_ripe : about1.ripe theMethod args0 below0 = true := by decide +kernel
theorem w_running : about1.status = .running := rfl
set_option maxRecDepth 65536 in
theorem w_room : about1.hasRoom e0.platform room_1 = true :=
  launch0.hasRoom_least _ room_1 (by decide +kernel) (by decide +kernel) (by decide +kernel) (by decide +kernel) (by decide +kernel) (by decide +kernel)
theorem allAtoms_all (ts : List Jvm.Cond) (a : Array Jvm.Value) (st : Jvm.State) : (allAtoms ts).before a st = ts.all (fun c => c.before a st) := by
  induction ts with
  | nil => rfl
  | cons c t ih =>
    show (Jvm.Cond.and c (allAtoms t)).before a st = _
    rw [Jvm.Cond.before_and, ih, List.all_cons]
def words1 : List Jvm.Cond := Jvm.Cond.code x code maxLocals ret :: tables_1
/-- a 'code' word, met by the world's own term for the bytes: nothing is compared byte by byte -/
theorem code_word {y : MethodName} {bytes : ByteArray} {mx : Nat} {rt : Option FieldType} {a : Array Value} {s : State} {m : MethodId} {meth : Method} {c : Code} (h1 : s.methodNamed? y = some m) (h2 : s.vm.method? m = some meth) (h3 : meth.code = some c) (h4 : c.code = bytes)
    (h5 : (c.maxLocals == mx && c.exceptionTable.isEmpty && decide (c.maxStack ≤ mostOperands) && decide (meth.sig.returnType = rt) && !meth.locks && decide (parseMethodDescriptor y.desc = some meth.sig)) = true) : (Jvm.Cond.code y bytes mx rt).before a s = true := by
  simp only [Bool.and_eq_true, beq_iff_eq, Bool.not_eq_true', decide_eq_true_eq] at h5
  obtain ⟨⟨⟨⟨⟨g1, g2⟩, g3⟩, g4⟩, g5⟩, g6⟩ := h5
  simp [Cond.before, Cond.holds, Cond.value, h1, h2, h3, h4, g1, g2, g3, g4, g5, g6]
def isCode : Jvm.Cond → Bool
  | .code _ _ _ _ => true
  | _ => false
theorem all_split {L : List Jvm.Cond} {P : Jvm.Cond → Bool} (h1 : L.all (fun c => isCode c || P c) = true) (h2 : ∀ c ∈ L.filter isCode, P c = true) : L.all P = true := by
  refine List.all_eq_true.mpr fun c hc => ?_
  have h := List.all_eq_true.mp h1 c hc
  rcases Bool.eq_false_or_eq_true (isCode c) with hi | hi
  · exact h2 c (List.mem_filter.mpr ⟨hc, hi⟩)
  · simpa [hi] using h
set_option maxRecDepth 65536 in
theorem w_c0 : (Jvm.Cond.code x code maxLocals ret).before args0 about1 = true := code_word (m := ⟨1, 2⟩) (meth := k1m2) (c := k1c2) (by decide +kernel) rfl rfl rfl (by decide +kernel)
set_option maxRecDepth 65536 in
theorem w_c1 : (Jvm.Cond.code ({ cls := "com/example/trawl/trawl/model/XmlChars", name := "isChar", desc := "(I)Z" } : Jvm.MethodName) prog_86_method_2_code (1 : Nat) (Option.some Jvm.ClassFile.FieldType.boolean)).before args0 about1 = true := code_word (m := ⟨2, 1⟩) (meth := k2m1) (c := k2c1) (by decide +kernel) rfl rfl rfl (by decide +kernel)
set_option maxRecDepth 65536 in
theorem w_c2 : (Jvm.Cond.code ({ cls := "com/example/trawl/trawl/model/XmlCharsIsCharPinLaw", name := "excluded", desc := "(I)Z" } : Jvm.MethodName) method_2_code (1 : Nat) (Option.some Jvm.ClassFile.FieldType.boolean)).before args0 about1 = true := code_word (m := ⟨1, 1⟩) (meth := k1m1) (c := k1c1) (by decide +kernel) rfl rfl rfl (by decide +kernel)
def codes1 : List Jvm.Cond := [Jvm.Cond.code x code maxLocals ret, Jvm.Cond.code ({ cls := "com/example/trawl/trawl/model/XmlChars", name := "isChar", desc := "(I)Z" } : Jvm.MethodName) prog_86_method_2_code (1 : Nat) (Option.some Jvm.ClassFile.FieldType.boolean), Jvm.Cond.code ({ cls := "com/example/trawl/trawl/model/XmlCharsIsCharPinLaw", name := "excluded", desc := "(I)Z" } : Jvm.MethodName) method_2_code (1 : Nat) (Option.some Jvm.ClassFile.FieldType.boolean)]
set_option maxRecDepth 65536 in
theorem codes_eq : words1.filter isCode = codes1 := rfl
theorem w_codes : ∀ c ∈ words1.filter isCode, c.before args0 about1 = true := by
  rw [codes_eq]
  intro c hc
  simp only [codes1, List.mem_cons, List.not_mem_nil, or_false] at hc
  rcases hc with rfl | rfl | rfl
  · exact w_c0
  · exact w_c1
  · exact w_c2
set_option maxRecDepth 65536 in
theorem w_t1 : (words1.take 24).all (fun c => isCode c || c.before args0 about1) = true := by decide +kernel
set_option maxRecDepth 65536 in
theorem w_t2 : (words1.drop 24).all (fun c => isCode c || c.before args0 about1) = true := by decide +kernel
theorem w_tables : (allAtoms (Jvm.Cond.code x code maxLocals ret :: tables_1)).before args0 about1 = true := by
  rw [allAtoms_all]
  show words1.all (fun c => c.before args0 about1) = true
  refine all_split ?_ w_codes
  rw [← List.take_append_drop 24 words1, List.all_append, w_t1, w_t2]
  rfl
set_option maxRecDepth 65536 in
theorem w_case : (Jvm.Cond.and given_1 narrow_1).before args0 about1 = true := by decide +kernel
theorem w_applies : (headSpec (Jvm.Cond.code x code maxLocals ret :: tables_1) room_1).applies x e0.platform about1 = true :=
  (Spec.applies_iff w_frames).mpr ⟨w_running, w_runnable, w_alone, w_named, w_hears, w_ripe, w_room, w_tables⟩
theorem atStart : AtStart classFile x code maxLocals ret World_1 tables_1 room_1 Calls_1 rest_1 Pre_1 launch0 p0 e0 about1 theMethod args0 below0 :=
  ⟨lists_1, trivial, launch0.admits_env _ _ _, launch0.least_env, fairChoices_fair.cas, fairChoices_fair.clock, w_frames, w_args, w_heap, w_applies, trivial, trivial, w_case⟩
end start1
theorem witness_1 : WitnessClaimed_1 := ⟨start1.p0, start1.e0, start1.about1, start1.theMethod, start1.args0, start1.below0, start1.atStart⟩
end Jvm.Pilot.@@N@@
