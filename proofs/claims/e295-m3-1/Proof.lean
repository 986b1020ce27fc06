import JvmDerived
import JvmDerived.Pilot.@@N@@Statement
import JvmDerived.Pilot.@@N@@Code
set_option linter.unusedVariables false
set_option linter.unusedSimpArgs false
namespace Jvm.Pilot.@@N@@
open Jvm Jvm.ClassFile Sem Op Lib Jvm.Free Jvm.Stand Jvm.LawKit Jvm.RoadKit Bundle Jvm.Pilot.@@N@@.Jvm.D
theorem own_pd0 : parseMethodDescriptor "()B" = some ⟨[], some .byte⟩ := by decide +kernel
theorem own_pd1 : parseMethodDescriptor "(IILjava/util/function/BiFunction;)I" = some ⟨[.int, .int, (.object "java/util/function/BiFunction")], some .int⟩ := by decide +kernel
theorem own_pd2 : parseMethodDescriptor "(II)V" = some ⟨[.int, .int], none⟩ := by decide +kernel
theorem own_pd3 : parseMethodDescriptor "()Z" = some ⟨[], some .boolean⟩ := by decide +kernel
theorem own_pd4 : parseMethodDescriptor "([BI)C" = some ⟨[(.array .byte), .int], some .char⟩ := by decide +kernel
theorem own_pd5 : parseMethodDescriptor "(I)V" = some ⟨[.int], none⟩ := by decide +kernel
theorem own_pd6 : parseMethodDescriptor "(C)Z" = some ⟨[.char], some .boolean⟩ := by decide +kernel
theorem own_pd7 : parseMethodDescriptor "(C)Ljava/lang/AbstractStringBuilder;" = some ⟨[.char], some (.object "java/lang/AbstractStringBuilder")⟩ := by decide +kernel
theorem own_pd8 : parseMethodDescriptor "()I" = some ⟨[], some .int⟩ := by decide +kernel
theorem own_pd9 : parseMethodDescriptor "()[B" = some ⟨[], some (.array .byte)⟩ := by decide +kernel
theorem own_pd10 : parseMethodDescriptor "([BII)[B" = some ⟨[(.array .byte), .int, .int], some (.array .byte)⟩ := by decide +kernel
theorem own_pd11 : parseMethodDescriptor "(Ljava/lang/AbstractStringBuilder;Ljava/lang/Void;)V" = some ⟨[(.object "java/lang/AbstractStringBuilder"), (.object "java/lang/Void")], none⟩ := by decide +kernel
theorem own_pd12 : parseMethodDescriptor "(Ljava/lang/StringBuilder;)V" = some ⟨[(.object "java/lang/StringBuilder")], none⟩ := by decide +kernel
theorem own_pd13 : parseMethodDescriptor "(C)Ljava/lang/StringBuilder;" = some ⟨[.char], some (.object "java/lang/StringBuilder")⟩ := by decide +kernel
theorem own_pd14 : parseMethodDescriptor "()Ljava/lang/String;" = some ⟨[], some (.object "java/lang/String")⟩ := by decide +kernel
theorem own_pd15 : parseMethodDescriptor "(C)Lcom/example/coersa/coersa/Quote;" = some ⟨[.char], some (.object "com/example/coersa/coersa/Quote")⟩ := by decide +kernel
theorem own_pd16 : parseMethodDescriptor "(Ljava/lang/String;)Ljava/lang/String;" = some ⟨[(.object "java/lang/String")], some (.object "java/lang/String")⟩ := by decide +kernel
theorem own_pd17 : parseMethodDescriptor "(I)C" = some ⟨[.int], some .char⟩ := by decide +kernel
theorem own_nf {s : State} {args : Array Value} {y z : MethodName} (h : y.cls = z.cls) (hn : NotFace s y) (hi : (Jvm.Cond.instanceMethod y).before args s = true) : NotFace s z := fun r0 h0 => by
  obtain ⟨mk, methM, hnamed, -⟩ := Cond.instanceMethod_spec hi
  obtain ⟨kP, h1, h2⟩ := hn mk hnamed
  have e1 := findClass_of_methodNamed hnamed
  have e2 := findClass_of_methodNamed h0
  rw [h] at e1
  have e3 : mk.cls = r0.cls := Option.some.inj (e1.symm.trans e2)
  exact ⟨kP, e3 ▸ h1, h2⟩
theorem own_samem {Z : State} {a0 : Array Value} {y : MethodName} (w : (Jvm.Cond.instanceMethod y).before a0 Z = true) (hnf : NotFace Z y) (hy : y.cls ≠ "java/lang/invoke/MethodHandle" ∧ y.cls ≠ "java/lang/invoke/VarHandle") : (Jvm.Cond.sameMethod y.cls y.cls y.name y.desc).before a0 Z = true := by
  obtain ⟨mk, methM, hnamed, hmethM, -, -⟩ := Cond.instanceMethod_spec w
  have hfound : Z.methodFound? y.cls y.name y.desc = some mk := State.methodFound?_of_named hnamed hy
  obtain ⟨kP, h1, h2⟩ := hnf mk hnamed
  simp [Cond.before, Cond.holds, Cond.value, hfound, hnamed, findClass_of_methodNamed hnamed, h1, h2]
theorem own_selp {s : State} {args : Array Value} {C : String} {y : MethodName} (hsel : (Jvm.Cond.selects C y y).before args s = true) (hinst : (Jvm.Cond.instanceMethod y).before args s = true) (hpriv : s.PrivateAt y) (hy : y.cls ≠ "java/lang/invoke/MethodHandle" ∧ y.cls ≠ "java/lang/invoke/VarHandle") : (Jvm.Cond.selects y.cls y y).before args s = true := by
  obtain ⟨mk, methM, hnamed, hmethM, -, -⟩ := Cond.instanceMethod_spec hinst
  obtain ⟨kP, hkP, hkPi⟩ := notFace_of_selects hsel mk hnamed
  exact selects_self_of_private (findClass_of_methodNamed hnamed) hkP hkPi hpriv hinst hy
theorem own_shr0 {z : Int32} : (z >>> ((0 : Int32) &&& 31)) = z := by
  apply Int32.toInt_inj.mp
  rw [c_ishr z 0 0 (by decide)]; omega
def own_ch (c : Int32) : Prop := c = 34 ∨ c = 39 ∨ c = 96
theorem own_ch255 {c : Int32} (h : own_ch c) : ¬ (255 : Int32) < c := by rcases h with rfl | rfl | rfl <;> decide
theorem own_chb {c : Int32} (h : own_ch c) : (nar .byte (c.toInt8.toInt32)) = c := by rcases h with rfl | rfl | rfl <;> decide
theorem own_chb2 {c : Int32} (h : own_ch c) : c.toInt8.toInt32.toInt8.toInt32 = c := by rcases h with rfl | rfl | rfl <;> decide
theorem own_chr {c : Int32} (h : own_ch c) : nar .char ((c &&& (255 : Int32)).toUInt32.toUInt16.toUInt32.toInt32) = c := by rcases h with rfl | rfl | rfl <;> decide
theorem own_chn {c : Int32} (h : own_ch c) : nar .char c = c := by rcases h with rfl | rfl | rfl <;> decide
theorem own_ens_le {n : Int32} (h : n = 1 ∨ n = 2) : ¬ ((0 : Int32) < (n - ((2 : Int32) >>> ((0 : Int32) &&& 31)))) := by rcases h with rfl | rfl <;> decide
theorem own_miss {c : Int32} (h39 : ¬ c = 39) (h34 : ¬ c = 34) (h96 : ¬ c = 96) : (#[((34 : Int), (41 : Int)), (39, 35), (96, 47)] : Array (Int × Int)).find? (·.1 == c.toInt) = none := by
  refine find_miss fun p hp => ?_
  have a1 : c.toInt ≠ 39 := fun q => h39 (Int32.toInt_inj.mp q)
  have a2 : c.toInt ≠ 34 := fun q => h34 (Int32.toInt_inj.mp q)
  have a3 : c.toInt ≠ 96 := fun q => h96 (Int32.toInt_inj.mp q)
  simp only [List.mem_cons, List.not_mem_nil, or_false] at hp
  rcases hp with rfl | rfl | rfl
  · exact fun q => a2 q.symm
  · exact fun q => a1 q.symm
  · exact fun q => a3 q.symm
theorem own_ne {t t' : Term} {args : Array Value} {s : State} {a b : Addr} {C n d : String} {i j : Int32} (ht : t.eval args s none [] s = some (.ref a)) (ht' : t'.eval args s none [] s = some (.ref b))
    (h : (Jvm.Cond.eq (.field t C n d) (.int i)).value args s none s [] = some true) (h' : (Jvm.Cond.eq (.field t' C n d) (.int j)).value args s none s [] = some true) (hij : i ≠ j) : a ≠ b := by
  rintro rfl
  obtain ⟨x, y, ex, ey, k1, k2⟩ := cmp_v (Or.inl h)
  obtain ⟨x', y', ex', ey', k1', k2'⟩ := cmp_v (Or.inl h')
  have e1 : x = x' := by
    rw [fld_at ht] at ex; rw [fld_at ht'] at ex'
    exact Option.some.inj (ex.symm.trans ex')
  subst e1
  have u : y = .int i := Option.some.inj (ey.symm.trans (Term.int_eval i))
  have u' : y' = .int j := Option.some.inj (ey'.symm.trans (Term.int_eval j))
  subst u u'
  cases x with
  | int z =>
    have q1 := gotT (Cond.eq_ints ex (Term.int_eval i)) h
    have q2 := gotT (Cond.eq_ints ex' (Term.int_eval j)) h'
    exact hij (q1.symm.trans q2)
  | _ => simp [Kin, Value.isRef] at k1
/-- a field that is said to hold an int -/
theorem own_fldI {t : Term} {args : Array Value} {s : State} {a : Addr} {C n d : String} {i : Int32} (ht : t.eval args s none [] s = some (.ref a)) (h : (Jvm.Cond.eq (.field t C n d) (.int i)).value args s none s [] = some true) : Fld s s.heap a C n d (.int i) := by
  obtain ⟨x, y, ex, ey, k1, k2⟩ := cmp_v (Or.inl h)
  have u : y = .int i := Option.some.inj (ey.symm.trans (Term.int_eval i))
  subst u
  cases x with
  | int z =>
    have q1 : z = i := gotT (Cond.eq_ints ex (Term.int_eval i)) h
    subst q1
    rw [fld_at ht] at ex
    exact Fld.start ex
  | _ => simp [Kin, Value.isRef] at k1
theorem own_neq {t : Term} {args : Array Value} {s : State} {x : Int32} (ht : t.eval args s none [] s = some (.int x)) (h : (Jvm.Cond.not (.eq t (.int 0))).value args s none s [] = some true) : ¬ x = 0 := by
  have q := not_v h
  exact gotF (Cond.eq_ints ht (Term.int_eval 0)) q

theorem own_d1_0 : decode jdk_42_method_152_code 0 = .ok (.getstatic 38, 3) := by decide +kernel
theorem own_d1_3 : decode jdk_42_method_152_code 3 = .ok (.ifCond .eq 10, 3) := by decide +kernel
theorem own_d1_6 : decode jdk_42_method_152_code 6 = .ok (.aload_n 0, 1) := by decide +kernel
theorem own_d1_7 : decode jdk_42_method_152_code 7 = .ok (.getfield 15, 3) := by decide +kernel
theorem own_d1_10 : decode jdk_42_method_152_code 10 = .ok (.goto 4, 3) := by decide +kernel
theorem own_d1_13 : decode jdk_42_method_152_code 13 = .ok (.iconst 1, 1) := by decide +kernel
theorem own_d1_14 : decode jdk_42_method_152_code 14 = .ok (.ireturn, 1) := by decide +kernel
theorem own_coder_pn : plainName "java/lang/String" = true := by first | (simp [plainName, overriddenIn]; done) | decide +kernel
theorem own_coder_ef (m : MethodId) (a : Addr) : entryFrame m #[(.ref a)] 1 = mkF m 0 #[.val (.ref a)] [] := by first | (simp [entryFrame, mkF, argsToLocals, Value.category]; done) | rfl
def own_coder_Q (Z : State) (a : Addr) (cs : Int32) (h0 : Heap) (n0 : Nat) (v : Option Value) (h : Heap) (L : List Loc) : Prop := v = some (.int (0 : Int32)) ∧ Fr n0 L ∧ h = h0
set_option maxRecDepth 65536 in
set_option maxHeartbeats 40000000 in
theorem own_coder (l : Launch) (Z : State) (a0 : Array Value) (hw : ∀ d ∈ tables_1, d.before a0 Z = true) (ws : List Jvm.Cond) (a : Addr) (cs : Int32) (h0 : Heap) (n0 : Nat) (Z0 : n0 ≤ h0.size) (SC : Sta Z Z.heap "java/lang/String" "COMPACT_STRINGS" "Z" (.int cs)) (hcs : ¬ cs = 0) (O : Old Z n0 h0) (Cf : Fld Z h0 a "java/lang/String" "coder" "B" (.int (0 : Int32))) :
    MetFree l (⟨"java/lang/String", "coder", "()B"⟩ : MethodName) (head1 (Jvm.Cond.code (⟨"java/lang/String", "coder", "()B"⟩ : MethodName) jdk_42_method_152_code 1 (some .byte) :: ws) ({ frames := 0, cells := 0, slots := 0, locals := 0 } : Room)) (fun ars U => ars = #[(.ref a)] ∧ Z.Warmed39 U.vm ∧ U.heap = h0) (fun _ _ _ _ _ => True) (fun _ U o U' => ∃ v L, o = .returned v ∧ own_coder_Q Z a cs h0 n0 v U'.heap L ∧ FrameEnd U o U' L ({ frames := 0, cells := 0, slots := 0, locals := 0 } : Room).cells ({ frames := 0, cells := 0, slots := 0, locals := 0 } : Room).slots) := by
  refine MetFree.of_bodySF (plainFor_of_name own_coder_pn) hisR ?_
  intro p e s m args below meth c s₁ Bd hml0 hP hK
  obtain ⟨rfl, hZ, hh⟩ := hP
  have hx := Bd.exec
  have hby := Bd.bytes
  have hml : c.maxLocals = 1 := hml0
  have hown : s.vm.findClass "java/lang/String" = some m.cls := findClass_of_methodNamed Bd.named
  have hnm := (name_of_methodNamed Bd.named Bd.method).1
  have X0 : Stand p l e ({ frames := 0, cells := 0, slots := 0, locals := 0 } : Room) s m #[(.ref a)] below meth c s₁ [] 0 0 := Stand.of_body Bd
  have e0 : s₁.heap = h0 := by rw [← hh, Bd.state]; rfl
  have N0 := Fr.nil n0
  generalize hS0 : s₁.setTop (entryFrame m #[(.ref a)] 1) = S0
  have c0 : Steps p.tables e below S0 (s₁.setTop (mkF m 0 #[.val (.ref a)] [])) := by rw [← hS0]; exact castTop (own_coder_ef m a) (Steps.refl _)
  have K0 : Keep h0 h0 [] := Keep.refl _ _
  obtain ⟨T1, X1, e1, st1⟩ := getS2 X0 hx hZ hown (host := "") (Or.inl (hw _ (List.mem_of_getElem? (i := 33) rfl))) Via.refl e0 (SC.ext O.2) (g := (mkF m 0 #[.val (.ref a)] [])) rfl (hb hby own_d1_0)
  have c2 : Steps p.tables e below S0 (T1.setTop (mkF m 3 #[.val (.ref a)] [(.int cs)])) := c0.trans (by
    refine st1 _ ?_
    exact Steps.refl _)
  have c3 : Steps p.tables e below S0 (T1.setTop (mkF m 6 #[.val (.ref a)] [])) := c2.trans (by
    refine XS.ifNo X1.here hx rfl (hb hby own_d1_3) rfl ((if0 _ _).trans (feq hcs).1) ?_
    exact Steps.refl _)
  have c4 : Steps p.tables e below S0 (T1.setTop (mkF m 7 #[.val (.ref a)] [(.ref a)])) := c3.trans (by
    refine XS.aloadN X1.here hx rfl (hb hby own_d1_6) rfl rfl ?_
    exact Steps.refl _)
  obtain ⟨T5, X5, e5, st5⟩ := getF X1 hx hZ hown (host := "") (Or.inl (hw _ (List.mem_of_getElem? (i := 34) rfl))) Via.refl e1 Cf (g := (mkF m 7 #[.val (.ref a)] [(.ref a)])) rfl rfl (hb hby own_d1_7)
  have c6 : Steps p.tables e below S0 (T5.setTop (mkF m 10 #[.val (.ref a)] [(.int (0 : Int32))])) := c4.trans (by
    refine st5 _ ?_
    exact Steps.refl _)
  have c7 : Steps p.tables e below S0 (T5.setTop (mkF m 14 #[.val (.ref a)] [(.int (0 : Int32))])) := c6.trans (by
    refine XS.goto X5.here hx rfl (pc0 := 10) (pc' := 14) rfl (hb hby own_d1_10) (by decide) (by decide) ?_
    exact Steps.refl _)
  obtain ⟨fs, hr, hrun, hended, hW, hsame⟩ := X5.leave (v := some (.int (0 : Int32))) (fun h => by rw [Bd.returns] at h; cases h)
  exact ⟨_, _, c7.trans (retN X5 hx (t := .byte) Bd.returns (by simp) (hb hby own_d1_14) hr), hrun, hended, _, _, rfl, ⟨rfl, N0, e5⟩, ⟨_, rfl⟩, hW, hsame.mono (by decide) (by decide)⟩
theorem own_d2_0 : decode jdk_42_method_54_code 0 = .ok (.aload_n 0, 1) := by decide +kernel
theorem own_d2_1 : decode jdk_42_method_54_code 1 = .ok (.getfield 9, 3) := by decide +kernel
theorem own_d2_4 : decode jdk_42_method_54_code 4 = .ok (.arraylength, 1) := by decide +kernel
theorem own_d2_5 : decode jdk_42_method_54_code 5 = .ok (.aload_n 0, 1) := by decide +kernel
theorem own_d2_6 : decode jdk_42_method_54_code 6 = .ok (.invokevirtual 335, 3) := by decide +kernel
theorem own_d2_9 : decode jdk_42_method_54_code 9 = .ok (.ishr, 1) := by decide +kernel
theorem own_d2_10 : decode jdk_42_method_54_code 10 = .ok (.ireturn, 1) := by decide +kernel
theorem own_len_pn : plainName "java/lang/String" = true := by first | (simp [plainName, overriddenIn]; done) | decide +kernel
theorem own_len_ef (m : MethodId) (a : Addr) : entryFrame m #[(.ref a)] 1 = mkF m 0 #[.val (.ref a)] [] := by first | (simp [entryFrame, mkF, argsToLocals, Value.category]; done) | rfl
def own_len_Q (Z : State) (a : Addr) (cs : Int32) (b : Addr) (k : ClassId) (z : Int32) (vs : List Value) (h0 : Heap) (n0 : Nat) (v : Option Value) (h : Heap) (L : List Loc) : Prop := v = some (.int z) ∧ Fr n0 L ∧ h = h0
set_option maxRecDepth 65536 in
set_option maxHeartbeats 40000000 in
theorem own_len (l : Launch) (Z : State) (a0 : Array Value) (hw : ∀ d ∈ tables_1, d.before a0 Z = true) (ws : List Jvm.Cond) (a : Addr) (cs : Int32) (b : Addr) (k : ClassId) (z : Int32) (vs : List Value) (h0 : Heap) (n0 : Nat) (Z0 : n0 ≤ h0.size) (SC : Sta Z Z.heap "java/lang/String" "COMPACT_STRINGS" "Z" (.int cs)) (hcs : ¬ cs = 0) (O : Old Z n0 h0) (Ee : Exa Z h0 a "java/lang/String") (Cf : Fld Z h0 a "java/lang/String" "coder" "B" (.int (0 : Int32))) (Vf : Fld Z h0 a "java/lang/String" "value" "[B" (.ref b)) (Av : Arv Z h0 b k .byte z vs (.int (0 : Int32))) :
    MetFree l (⟨"java/lang/String", "length", "()I"⟩ : MethodName) (head1 (Jvm.Cond.code (⟨"java/lang/String", "length", "()I"⟩ : MethodName) jdk_42_method_54_code 1 (some .int) :: ws) ({ frames := 1, cells := 0, slots := 0, locals := 13 } : Room)) (fun ars U => ars = #[(.ref a)] ∧ Z.Warmed39 U.vm ∧ U.heap = h0) (fun _ _ _ _ _ => True) (fun _ U o U' => ∃ v L, o = .returned v ∧ own_len_Q Z a cs b k z vs h0 n0 v U'.heap L ∧ FrameEnd U o U' L ({ frames := 1, cells := 0, slots := 0, locals := 13 } : Room).cells ({ frames := 1, cells := 0, slots := 0, locals := 13 } : Room).slots) := by
  refine MetFree.of_bodySF (plainFor_of_name own_len_pn) hisR ?_
  intro p e s m args below meth c s₁ Bd hml0 hP hK
  obtain ⟨rfl, hZ, hh⟩ := hP
  have hx := Bd.exec
  have hby := Bd.bytes
  have hml : c.maxLocals = 1 := hml0
  have hown : s.vm.findClass "java/lang/String" = some m.cls := findClass_of_methodNamed Bd.named
  have hnm := (name_of_methodNamed Bd.named Bd.method).1
  have X0 : Stand p l e ({ frames := 1, cells := 0, slots := 0, locals := 13 } : Room) s m #[(.ref a)] below meth c s₁ [] 0 0 := Stand.of_body Bd
  have e0 : s₁.heap = h0 := by rw [← hh, Bd.state]; rfl
  have N0 := Fr.nil n0
  generalize hS0 : s₁.setTop (entryFrame m #[(.ref a)] 1) = S0
  have c0 : Steps p.tables e below S0 (s₁.setTop (mkF m 0 #[.val (.ref a)] [])) := by rw [← hS0]; exact castTop (own_len_ef m a) (Steps.refl _)
  have K0 : Keep h0 h0 [] := Keep.refl _ _
  obtain ⟨cl, Ar, q1, S, q3, H, G⟩ := Av
  have c1 : Steps p.tables e below S0 (s₁.setTop (mkF m 1 #[.val (.ref a)] [(.ref a)])) := c0.trans (by
    refine XS.aloadN X0.here hx rfl (hb hby own_d2_0) rfl rfl ?_
    exact Steps.refl _)
  obtain ⟨T2, X2, e2, st2⟩ := getF X0 hx hZ hown (host := "") (Or.inl (hw _ (List.mem_of_getElem? (i := 27) rfl))) Via.refl e0 Vf (g := (mkF m 1 #[.val (.ref a)] [(.ref a)])) rfl rfl (hb hby own_d2_1)
  have c3 : Steps p.tables e below S0 (T2.setTop (mkF m 4 #[.val (.ref a)] [(.ref b)])) := c1.trans (by
    refine st2 _ ?_
    exact Steps.refl _)
  have c4 : Steps p.tables e below S0 (T2.setTop (mkF m 5 #[.val (.ref a)] [(.int z)])) := c3.trans (by
    refine X2.arraylength hx (by rw [e2]; exact Ar.1) (State.isArrayOf_alike hZ.alike Ar.2.1) (g := (mkF m 4 #[.val (.ref a)] [(.ref b)])) rfl rfl (hb hby own_d2_4) _ ?_
    rw [len_of S q3]
    exact Steps.refl _)
  have c5 : Steps p.tables e below S0 (T2.setTop (mkF m 6 #[.val (.ref a)] [(.ref a), (.int z)])) := c4.trans (by
    refine XS.aloadN X2.here hx rfl (hb hby own_d2_5) rfl rfl ?_
    exact Steps.refl _)
  obtain ⟨cq6, kq6, q6a, q6b, q6c⟩ := isOf hZ e2 Ee
  obtain ⟨_, _, ⟨T6, L6, k6, n6⟩, -, X6, ⟨Lc6, hQ6, l6, y6, z6⟩, st6⟩ := X2.virtualBack hx (y := (⟨"java/lang/String", "coder", "()B"⟩ : MethodName)) (z := (⟨"java/lang/String", "coder", "()B"⟩ : MethodName)) hown (mvT hZ (hw _ (List.mem_of_getElem? (i := 28) rfl))) (mvT hZ (hw _ (List.mem_of_getElem? (i := 29) rfl))) (notFace_of_selects (args := #[]) (mvT hZ (hw _ (List.mem_of_getElem? (i := 31) rfl)))) (mvT hZ (hw _ (List.mem_of_getElem? (i := 31) rfl))) (mvT hZ (hw _ (List.mem_of_getElem? (i := 30) rfl))) (by decide) (backOf (W := 1) (own_coder l Z a0 hw [] a cs h0 n0 Z0 SC hcs O Cf) hZ (hw _ (List.mem_of_getElem? (i := 32) rfl)) (hw _ (List.mem_of_getElem? (i := 7) rfl)) (by decide) (by decide)) q6a q6c (g := (mkF m 6 #[.val (.ref a)] [(.ref a), (.int z)])) rfl (by rw [hml]; rfl) (Steps.refl _) (argsL := []) (rest := [(.int z)]) (lenOf own_pd0 rfl) rfl (by show 2 * 0 + _ ≤ _; exact Nat.le_of_eq rfl) (hb hby own_d2_6) (fun _ _ => ⟨rfl, e2, (Nat.le_of_ble_eq_true rfl), (Nat.le_of_ble_eq_true rfl)⟩)
  dsimp only [Pt.U, Pt.locs, Pt.cells, Pt.slots] at X6 l6 y6 z6 st6 hQ6
  subst l6 y6 z6
  obtain ⟨rfl, N6q, ec⟩ := hQ6
  have N6 := Fr.app N0 N6q
  have c7 : Steps p.tables e below S0 (T6.setTop (mkF m 9 #[.val (.ref a)] [(.int (0 : Int32)), (.int z)])) := c5.trans (by
    refine st6.trans ?_
    exact Steps.refl _)
  have c8 : Steps p.tables e below S0 (T6.setTop (mkF m 10 #[.val (.ref a)] [(.int (z >>> ((0 : Int32) &&& 31)))])) := c7.trans (by
    refine XS.ishr X6.here hx rfl (hb hby own_d2_9) rfl ?_
    exact Steps.refl _)
  rw [own_shr0] at c8
  obtain ⟨fs, hr, hrun, hended, hW, hsame⟩ := X6.leave (v := some (.int z)) (fun h => by rw [Bd.returns] at h; cases h)
  exact ⟨_, _, c8.trans (retOut X6 hx (t := .int) (i := .ireturn) Bd.returns rfl (Or.inl ⟨rfl, Or.inl rfl, _, rfl⟩) (hb hby own_d2_10) hr), hrun, hended, _, _, rfl, ⟨rfl, N6, ec⟩, ⟨_, rfl⟩, hW, hsame.mono (by decide) (by decide)⟩
theorem own_d3_0 : decode jdk_42_method_154_code 0 = .ok (.getstatic 38, 3) := by decide +kernel
theorem own_d3_3 : decode jdk_42_method_154_code 3 = .ok (.ifCond .eq 14, 3) := by decide +kernel
theorem own_d3_6 : decode jdk_42_method_154_code 6 = .ok (.aload_n 0, 1) := by decide +kernel
theorem own_d3_7 : decode jdk_42_method_154_code 7 = .ok (.getfield 15, 3) := by decide +kernel
theorem own_d3_10 : decode jdk_42_method_154_code 10 = .ok (.ifCond .ne 7, 3) := by decide +kernel
theorem own_d3_13 : decode jdk_42_method_154_code 13 = .ok (.iconst 1, 1) := by decide +kernel
theorem own_d3_14 : decode jdk_42_method_154_code 14 = .ok (.goto 4, 3) := by decide +kernel
theorem own_d3_17 : decode jdk_42_method_154_code 17 = .ok (.iconst 0, 1) := by decide +kernel
theorem own_d3_18 : decode jdk_42_method_154_code 18 = .ok (.ireturn, 1) := by decide +kernel
theorem own_sil_pn : plainName "java/lang/String" = true := by first | (simp [plainName, overriddenIn]; done) | decide +kernel
theorem own_sil_ef (m : MethodId) (a : Addr) : entryFrame m #[(.ref a)] 1 = mkF m 0 #[.val (.ref a)] [] := by first | (simp [entryFrame, mkF, argsToLocals, Value.category]; done) | rfl
def own_sil_Q (Z : State) (a : Addr) (cs : Int32) (h0 : Heap) (n0 : Nat) (v : Option Value) (h : Heap) (L : List Loc) : Prop := v = some (.int (1 : Int32)) ∧ Fr n0 L ∧ h = h0
set_option maxRecDepth 65536 in
set_option maxHeartbeats 40000000 in
theorem own_sil (l : Launch) (Z : State) (a0 : Array Value) (hw : ∀ d ∈ tables_1, d.before a0 Z = true) (ws : List Jvm.Cond) (a : Addr) (cs : Int32) (h0 : Heap) (n0 : Nat) (Z0 : n0 ≤ h0.size) (SC : Sta Z Z.heap "java/lang/String" "COMPACT_STRINGS" "Z" (.int cs)) (hcs : ¬ cs = 0) (O : Old Z n0 h0) (Cf : Fld Z h0 a "java/lang/String" "coder" "B" (.int (0 : Int32))) :
    MetFree l (⟨"java/lang/String", "isLatin1", "()Z"⟩ : MethodName) (head1 (Jvm.Cond.code (⟨"java/lang/String", "isLatin1", "()Z"⟩ : MethodName) jdk_42_method_154_code 1 (some .boolean) :: ws) ({ frames := 0, cells := 0, slots := 0, locals := 0 } : Room)) (fun ars U => ars = #[(.ref a)] ∧ Z.Warmed39 U.vm ∧ U.heap = h0) (fun _ _ _ _ _ => True) (fun _ U o U' => ∃ v L, o = .returned v ∧ own_sil_Q Z a cs h0 n0 v U'.heap L ∧ FrameEnd U o U' L ({ frames := 0, cells := 0, slots := 0, locals := 0 } : Room).cells ({ frames := 0, cells := 0, slots := 0, locals := 0 } : Room).slots) := by
  refine MetFree.of_bodySF (plainFor_of_name own_sil_pn) hisR ?_
  intro p e s m args below meth c s₁ Bd hml0 hP hK
  obtain ⟨rfl, hZ, hh⟩ := hP
  have hx := Bd.exec
  have hby := Bd.bytes
  have hml : c.maxLocals = 1 := hml0
  have hown : s.vm.findClass "java/lang/String" = some m.cls := findClass_of_methodNamed Bd.named
  have hnm := (name_of_methodNamed Bd.named Bd.method).1
  have X0 : Stand p l e ({ frames := 0, cells := 0, slots := 0, locals := 0 } : Room) s m #[(.ref a)] below meth c s₁ [] 0 0 := Stand.of_body Bd
  have e0 : s₁.heap = h0 := by rw [← hh, Bd.state]; rfl
  have N0 := Fr.nil n0
  generalize hS0 : s₁.setTop (entryFrame m #[(.ref a)] 1) = S0
  have c0 : Steps p.tables e below S0 (s₁.setTop (mkF m 0 #[.val (.ref a)] [])) := by rw [← hS0]; exact castTop (own_sil_ef m a) (Steps.refl _)
  have K0 : Keep h0 h0 [] := Keep.refl _ _
  obtain ⟨T1, X1, e1, st1⟩ := getS2 X0 hx hZ hown (host := "") (Or.inl (hw _ (List.mem_of_getElem? (i := 33) rfl))) Via.refl e0 (SC.ext O.2) (g := (mkF m 0 #[.val (.ref a)] [])) rfl (hb hby own_d3_0)
  have c2 : Steps p.tables e below S0 (T1.setTop (mkF m 3 #[.val (.ref a)] [(.int cs)])) := c0.trans (by
    refine st1 _ ?_
    exact Steps.refl _)
  have c3 : Steps p.tables e below S0 (T1.setTop (mkF m 6 #[.val (.ref a)] [])) := c2.trans (by
    refine XS.ifNo X1.here hx rfl (hb hby own_d3_3) rfl ((if0 _ _).trans (feq hcs).1) ?_
    exact Steps.refl _)
  have c4 : Steps p.tables e below S0 (T1.setTop (mkF m 7 #[.val (.ref a)] [(.ref a)])) := c3.trans (by
    refine XS.aloadN X1.here hx rfl (hb hby own_d3_6) rfl rfl ?_
    exact Steps.refl _)
  obtain ⟨T5, X5, e5, st5⟩ := getF X1 hx hZ hown (host := "") (Or.inl (hw _ (List.mem_of_getElem? (i := 34) rfl))) Via.refl e1 Cf (g := (mkF m 7 #[.val (.ref a)] [(.ref a)])) rfl rfl (hb hby own_d3_7)
  have c6 : Steps p.tables e below S0 (T5.setTop (mkF m 10 #[.val (.ref a)] [(.int (0 : Int32))])) := c4.trans (by
    refine st5 _ ?_
    exact Steps.refl _)
  have c7 : Steps p.tables e below S0 (T5.setTop (mkF m 13 #[.val (.ref a)] [])) := c6.trans (by
    refine XS.ifNo X5.here hx rfl (hb hby own_d3_10) rfl ((if0 _ _).trans (teq rfl).2) ?_
    exact Steps.refl _)
  have c8 : Steps p.tables e below S0 (T5.setTop (mkF m 18 #[.val (.ref a)] [(.int (1 : Int32))])) := c7.trans (by
    refine XS.iconst X5.here hx rfl (hb hby own_d3_13) ?_
    show Steps p.tables e below (T5.setTop (mkF m 14 #[.val (.ref a)] [(.int (1 : Int32))])) _
    refine XS.goto X5.here hx rfl (pc0 := 14) (pc' := 18) rfl (hb hby own_d3_14) (by decide) (by decide) ?_
    exact Steps.refl _)
  obtain ⟨fs, hr, hrun, hended, hW, hsame⟩ := X5.leave (v := some (.int (1 : Int32))) (fun h => by rw [Bd.returns] at h; cases h)
  exact ⟨_, _, c8.trans (retN X5 hx (t := .boolean) Bd.returns (by simp) (hb hby own_d3_18) hr), hrun, hended, _, _, rfl, ⟨rfl, N0, e5⟩, ⟨_, rfl⟩, hW, hsame.mono (by decide) (by decide)⟩
theorem own_d4_0 : decode jdk_41_method_11_code 0 = .ok (.iload_n 0, 1) := by decide +kernel
theorem own_d4_1 : decode jdk_41_method_11_code 1 = .ok (.ifCond .lt 8, 3) := by decide +kernel
theorem own_d4_4 : decode jdk_41_method_11_code 4 = .ok (.iload_n 0, 1) := by decide +kernel
theorem own_d4_5 : decode jdk_41_method_11_code 5 = .ok (.iload_n 1, 1) := by decide +kernel
theorem own_d4_6 : decode jdk_41_method_11_code 6 = .ok (.if_icmp .lt 10, 3) := by decide +kernel
theorem own_d4_9 : decode jdk_41_method_11_code 9 = .ok (.aload_n 2, 1) := by decide +kernel
theorem own_d4_10 : decode jdk_41_method_11_code 10 = .ok (.iload_n 0, 1) := by decide +kernel
theorem own_d4_11 : decode jdk_41_method_11_code 11 = .ok (.iload_n 1, 1) := by decide +kernel
theorem own_d4_12 : decode jdk_41_method_11_code 12 = .ok (.invokestatic 95, 3) := by decide +kernel
theorem own_d4_15 : decode jdk_41_method_11_code 15 = .ok (.athrow, 1) := by decide +kernel
theorem own_d4_16 : decode jdk_41_method_11_code 16 = .ok (.iload_n 0, 1) := by decide +kernel
theorem own_d4_17 : decode jdk_41_method_11_code 17 = .ok (.ireturn, 1) := by decide +kernel
theorem own_pci_pn : plainName "jdk/internal/util/Preconditions" = true := by first | (simp [plainName, overriddenIn]; done) | decide +kernel
theorem own_pci_ef (m : MethodId) (i : Int32) (n : Int32) (f : Value) (hgv : f.isRef = true) : entryFrame m #[(.int i), (.int n), f] 3 = mkF m 0 #[.val (.int i), .val (.int n), .val f] [] := by rcases ref_cases hgv with rfl | ⟨a, rfl⟩ <;> rfl
def own_pci_Q (Z : State) (i : Int32) (n : Int32) (f : Value) (h0 : Heap) (n0 : Nat) (v : Option Value) (h : Heap) (L : List Loc) : Prop := v = some (.int i) ∧ Fr n0 L ∧ h = h0
set_option maxRecDepth 65536 in
set_option maxHeartbeats 40000000 in
theorem own_pci (l : Launch) (Z : State) (a0 : Array Value) (hw : ∀ d ∈ tables_1, d.before a0 Z = true) (ws : List Jvm.Cond) (i : Int32) (n : Int32) (f : Value) (h0 : Heap) (n0 : Nat) (Z0 : n0 ≤ h0.size) (hgv : f.isRef = true) (h1 : ¬ i < 0) (h2 : i < n) :
    MetFree l (⟨"jdk/internal/util/Preconditions", "checkIndex", "(IILjava/util/function/BiFunction;)I"⟩ : MethodName) (head1 (Jvm.Cond.code (⟨"jdk/internal/util/Preconditions", "checkIndex", "(IILjava/util/function/BiFunction;)I"⟩ : MethodName) jdk_41_method_11_code 3 (some .int) :: ws) ({ frames := 0, cells := 0, slots := 0, locals := 0 } : Room)) (fun ars U => ars = #[(.int i), (.int n), f] ∧ Z.Warmed39 U.vm ∧ U.heap = h0) (fun _ _ _ _ _ => True) (fun _ U o U' => ∃ v L, o = .returned v ∧ own_pci_Q Z i n f  h0 n0 v U'.heap L ∧ FrameEnd U o U' L ({ frames := 0, cells := 0, slots := 0, locals := 0 } : Room).cells ({ frames := 0, cells := 0, slots := 0, locals := 0 } : Room).slots) := by
  refine MetFree.of_bodySF (plainFor_of_name own_pci_pn) hisR ?_
  intro p e s m args below meth c s₁ Bd hml0 hP hK
  obtain ⟨rfl, hZ, hh⟩ := hP
  have hx := Bd.exec
  have hby := Bd.bytes
  have hml : c.maxLocals = 3 := hml0
  have hown : s.vm.findClass "jdk/internal/util/Preconditions" = some m.cls := findClass_of_methodNamed Bd.named
  have hnm := (name_of_methodNamed Bd.named Bd.method).1
  have X0 : Stand p l e ({ frames := 0, cells := 0, slots := 0, locals := 0 } : Room) s m #[(.int i), (.int n), f] below meth c s₁ [] 0 0 := Stand.of_body Bd
  have e0 : s₁.heap = h0 := by rw [← hh, Bd.state]; rfl
  have N0 := Fr.nil n0
  generalize hS0 : s₁.setTop (entryFrame m #[(.int i), (.int n), f] 3) = S0
  have c0 : Steps p.tables e below S0 (s₁.setTop (mkF m 0 #[.val (.int i), .val (.int n), .val f] [])) := by rw [← hS0]; exact castTop (own_pci_ef m i n f hgv) (Steps.refl _)
  have K0 : Keep h0 h0 [] := Keep.refl _ _
  have c1 : Steps p.tables e below S0 (s₁.setTop (mkF m 1 #[.val (.int i), .val (.int n), .val f] [(.int i)])) := c0.trans (by
    refine XS.iloadN X0.here hx rfl (hb hby own_d4_0) rfl ?_
    exact Steps.refl _)
  have c2 : Steps p.tables e below S0 (s₁.setTop (mkF m 4 #[.val (.int i), .val (.int n), .val f] [])) := c1.trans (by
    refine XS.ifNo X0.here hx rfl (hb hby own_d4_1) rfl ((if0 _ _).trans (flt h1).1) ?_
    exact Steps.refl _)
  have c3 : Steps p.tables e below S0 (s₁.setTop (mkF m 6 #[.val (.int i), .val (.int n), .val f] [(.int n), (.int i)])) := c2.trans (by
    refine XS.iloadN X0.here hx rfl (hb hby own_d4_4) rfl ?_
    show Steps p.tables e below (s₁.setTop (mkF m 5 #[.val (.int i), .val (.int n), .val f] [(.int i)])) _
    refine XS.iloadN X0.here hx rfl (hb hby own_d4_5) rfl ?_
    exact Steps.refl _)
  have c4 : Steps p.tables e below S0 (s₁.setTop (mkF m 16 #[.val (.int i), .val (.int n), .val f] [])) := c3.trans (by
    refine XS.icmpYes X0.here hx rfl (pc0 := 6) (pc' := 16) rfl (hb hby own_d4_6) rfl (tlt h2).1 (by decide) (by decide) ?_
    exact Steps.refl _)
  have c5 : Steps p.tables e below S0 (s₁.setTop (mkF m 17 #[.val (.int i), .val (.int n), .val f] [(.int i)])) := c4.trans (by
    refine XS.iloadN X0.here hx rfl (hb hby own_d4_16) rfl ?_
    exact Steps.refl _)
  obtain ⟨fs, hr, hrun, hended, hW, hsame⟩ := X0.leave (v := some (.int i)) (fun h => by rw [Bd.returns] at h; cases h)
  exact ⟨_, _, c5.trans (retOut X0 hx (t := .int) (i := .ireturn) Bd.returns rfl (Or.inl ⟨rfl, Or.inl rfl, _, rfl⟩) (hb hby own_d4_17) hr), hrun, hended, _, _, rfl, ⟨rfl, N0, e0⟩, ⟨_, rfl⟩, hW, hsame.mono (by decide) (by decide)⟩
theorem own_d5_0 : decode jdk_42_method_155_code 0 = .ok (.iload_n 0, 1) := by decide +kernel
theorem own_d5_1 : decode jdk_42_method_155_code 1 = .ok (.iload_n 1, 1) := by decide +kernel
theorem own_d5_2 : decode jdk_42_method_155_code 2 = .ok (.getstatic 1053, 3) := by decide +kernel
theorem own_d5_5 : decode jdk_42_method_155_code 5 = .ok (.invokestatic 1059, 3) := by decide +kernel
theorem own_d5_8 : decode jdk_42_method_155_code 8 = .ok (.pop, 1) := by decide +kernel
theorem own_d5_9 : decode jdk_42_method_155_code 9 = .ok (.return_, 1) := by decide +kernel
theorem own_cki_pn : plainName "java/lang/String" = true := by first | (simp [plainName, overriddenIn]; done) | decide +kernel
theorem own_cki_ef (m : MethodId) (i : Int32) (n : Int32) : entryFrame m #[(.int i), (.int n)] 2 = mkF m 0 #[.val (.int i), .val (.int n)] [] := by first | (simp [entryFrame, mkF, argsToLocals, Value.category]; done) | rfl
def own_cki_Q (Z : State) (i : Int32) (n : Int32) (f : Value) (h0 : Heap) (n0 : Nat) (v : Option Value) (h : Heap) (L : List Loc) : Prop := v = none ∧ Fr n0 L ∧ h = h0
set_option maxRecDepth 65536 in
set_option maxHeartbeats 40000000 in
theorem own_cki (l : Launch) (Z : State) (a0 : Array Value) (hw : ∀ d ∈ tables_1, d.before a0 Z = true) (ws : List Jvm.Cond) (i : Int32) (n : Int32) (f : Value) (h0 : Heap) (n0 : Nat) (Z0 : n0 ≤ h0.size) (SF : Sta Z Z.heap "jdk/internal/util/Preconditions" "SIOOBE_FORMATTER" "Ljava/util/function/BiFunction;" f) (hgv : f.isRef = true) (O : Old Z n0 h0) (h1 : ¬ i < 0) (h2 : i < n) :
    MetFree l (⟨"java/lang/String", "checkIndex", "(II)V"⟩ : MethodName) (head1 (Jvm.Cond.code (⟨"java/lang/String", "checkIndex", "(II)V"⟩ : MethodName) jdk_42_method_155_code 2 none :: ws) ({ frames := 1, cells := 0, slots := 0, locals := 14 } : Room)) (fun ars U => ars = #[(.int i), (.int n)] ∧ Z.Warmed39 U.vm ∧ U.heap = h0) (fun _ _ _ _ _ => True) (fun _ U o U' => ∃ v L, o = .returned v ∧ own_cki_Q Z i n f h0 n0 v U'.heap L ∧ FrameEnd U o U' L ({ frames := 1, cells := 0, slots := 0, locals := 14 } : Room).cells ({ frames := 1, cells := 0, slots := 0, locals := 14 } : Room).slots) := by
  refine MetFree.of_bodySF (plainFor_of_name own_cki_pn) hisR ?_
  intro p e s m args below meth c s₁ Bd hml0 hP hK
  obtain ⟨rfl, hZ, hh⟩ := hP
  have hx := Bd.exec
  have hby := Bd.bytes
  have hml : c.maxLocals = 2 := hml0
  have hown : s.vm.findClass "java/lang/String" = some m.cls := findClass_of_methodNamed Bd.named
  have hnm := (name_of_methodNamed Bd.named Bd.method).1
  have X0 : Stand p l e ({ frames := 1, cells := 0, slots := 0, locals := 14 } : Room) s m #[(.int i), (.int n)] below meth c s₁ [] 0 0 := Stand.of_body Bd
  have e0 : s₁.heap = h0 := by rw [← hh, Bd.state]; rfl
  have N0 := Fr.nil n0
  generalize hS0 : s₁.setTop (entryFrame m #[(.int i), (.int n)] 2) = S0
  have c0 : Steps p.tables e below S0 (s₁.setTop (mkF m 0 #[.val (.int i), .val (.int n)] [])) := by rw [← hS0]; exact castTop (own_cki_ef m i n) (Steps.refl _)
  have K0 : Keep h0 h0 [] := Keep.refl _ _
  have c1 : Steps p.tables e below S0 (s₁.setTop (mkF m 2 #[.val (.int i), .val (.int n)] [(.int n), (.int i)])) := c0.trans (by
    refine XS.iloadN X0.here hx rfl (hb hby own_d5_0) rfl ?_
    show Steps p.tables e below (s₁.setTop (mkF m 1 #[.val (.int i), .val (.int n)] [(.int i)])) _
    refine XS.iloadN X0.here hx rfl (hb hby own_d5_1) rfl ?_
    exact Steps.refl _)
  obtain ⟨T2, X2, e2, st2⟩ := getS2 X0 hx hZ hown (host := "") (Or.inl (hw _ (List.mem_of_getElem? (i := 138) rfl))) Via.refl e0 (SF.ext O.2) (g := (mkF m 2 #[.val (.int i), .val (.int n)] [(.int n), (.int i)])) rfl (hb hby own_d5_2)
  have c3 : Steps p.tables e below S0 (T2.setTop (mkF m 5 #[.val (.int i), .val (.int n)] [f, (.int n), (.int i)])) := c1.trans (by
    refine st2 _ ?_
    exact Steps.refl _)
  obtain ⟨_, _, ⟨T4, L4, k4, n4⟩, -, X4, ⟨Lc4, hQ4, l4, y4, z4⟩, st4⟩ := Jvm.LawKit.callS X2 hx (y := (⟨"jdk/internal/util/Preconditions", "checkIndex", "(IILjava/util/function/BiFunction;)I"⟩ : MethodName)) hown (mvT hZ (hw _ (List.mem_of_getElem? (i := 140) rfl))) (mvT hZ (hw _ (List.mem_of_getElem? (i := 141) rfl))) (mvT hZ (hw _ (List.mem_of_getElem? (i := 139) rfl))) (mvT hZ (hw _ (List.mem_of_getElem? (i := 142) rfl))) (by decide) (backOf (W := 0) (own_pci l Z a0 hw [] i n f h0 n0 Z0 hgv h1 h2) hZ (hw _ (List.mem_of_getElem? (i := 142) rfl)) (hw _ (List.mem_of_getElem? (i := 139) rfl)) (by decide) (by decide)) (g := (mkF m 5 #[.val (.int i), .val (.int n)] [f, (.int n), (.int i)])) rfl (by rw [hml]; rfl) (argsL := [(.int i), (.int n), f]) (rest := []) (lenOf own_pd1 rfl) rfl (by show 2 * 0 + _ ≤ _; exact Nat.le_of_eq rfl) (hb hby own_d5_5) (fun _ _ => ⟨rfl, e2, (Nat.le_of_ble_eq_true rfl), (Nat.le_of_ble_eq_true rfl)⟩)
  dsimp only [Pt.U, Pt.locs, Pt.cells, Pt.slots] at X4 l4 y4 z4 st4 hQ4
  subst l4 y4 z4
  obtain ⟨rfl, N4q, ec⟩ := hQ4
  have N4 := Fr.app N0 N4q
  have c5 : Steps p.tables e below S0 (T4.setTop (mkF m 8 #[.val (.int i), .val (.int n)] [(.int i)])) := c3.trans (by
    refine st4 _ ?_
    exact Steps.refl _)
  have c6 : Steps p.tables e below S0 (T4.setTop (mkF m 9 #[.val (.int i), .val (.int n)] [])) := c5.trans (by
    refine XS.pop X4.here hx rfl (hb hby own_d5_8) rfl rfl ?_
    exact Steps.refl _)
  obtain ⟨fs, hr, hrun, hended, hW, hsame⟩ := X4.leave (v := none) (fun _ => rfl)
  exact ⟨_, _, c6.trans (X4.returnOut hx Bd.returns (hb hby own_d5_9) hr), hrun, hended, _, _, rfl, ⟨rfl, N4, ec⟩, ⟨_, rfl⟩, hW, hsame.mono (by decide) (by decide)⟩
theorem own_d6_0 : decode jdk_43_method_2_code 0 = .ok (.iload_n 1, 1) := by decide +kernel
theorem own_d6_1 : decode jdk_43_method_2_code 1 = .ok (.aload_n 0, 1) := by decide +kernel
theorem own_d6_2 : decode jdk_43_method_2_code 2 = .ok (.arraylength, 1) := by decide +kernel
theorem own_d6_3 : decode jdk_43_method_2_code 3 = .ok (.invokestatic 9, 3) := by decide +kernel
theorem own_d6_6 : decode jdk_43_method_2_code 6 = .ok (.aload_n 0, 1) := by decide +kernel
theorem own_d6_7 : decode jdk_43_method_2_code 7 = .ok (.iload_n 1, 1) := by decide +kernel
theorem own_d6_8 : decode jdk_43_method_2_code 8 = .ok (.baload, 1) := by decide +kernel
theorem own_d6_9 : decode jdk_43_method_2_code 9 = .ok (.sipush 255, 3) := by decide +kernel
theorem own_d6_12 : decode jdk_43_method_2_code 12 = .ok (.iand, 1) := by decide +kernel
theorem own_d6_13 : decode jdk_43_method_2_code 13 = .ok (.i2c, 1) := by decide +kernel
theorem own_d6_14 : decode jdk_43_method_2_code 14 = .ok (.ireturn, 1) := by decide +kernel
theorem own_lca_pn : plainName "java/lang/StringLatin1" = true := by first | (simp [plainName, overriddenIn]; done) | decide +kernel
theorem own_lca_ef (m : MethodId) (b : Addr) (i : Int32) : entryFrame m #[(.ref b), (.int i)] 2 = mkF m 0 #[.val (.ref b), .val (.int i)] [] := by first | (simp [entryFrame, mkF, argsToLocals, Value.category]; done) | rfl
def own_lca_Q (Z : State) (b : Addr) (i : Int32) (f : Value) (k : ClassId) (z : Int32) (vs : List Value) (u r : Int32) (h0 : Heap) (n0 : Nat) (v : Option Value) (h : Heap) (L : List Loc) : Prop := v = some (.int r) ∧ Fr n0 L ∧ h = h0
set_option maxRecDepth 65536 in
set_option maxHeartbeats 40000000 in
theorem own_lca (l : Launch) (Z : State) (a0 : Array Value) (hw : ∀ d ∈ tables_1, d.before a0 Z = true) (ws : List Jvm.Cond) (b : Addr) (i : Int32) (f : Value) (k : ClassId) (z : Int32) (vs : List Value) (u r : Int32) (h0 : Heap) (n0 : Nat) (Z0 : n0 ≤ h0.size) (SF : Sta Z Z.heap "jdk/internal/util/Preconditions" "SIOOBE_FORMATTER" "Ljava/util/function/BiFunction;" f) (hgv : f.isRef = true) (O : Old Z n0 h0) (Av : Arv Z h0 b k .byte z vs (.int (0 : Int32))) (h1 : ¬ i < 0) (h2 : i < z) (hu : vs.getD i.toNatClampNeg (.int (0 : Int32)) = .int u) (hrv : nar .char ((u &&& (255 : Int32)).toUInt32.toUInt16.toUInt32.toInt32) = r) :
    MetFree l (⟨"java/lang/StringLatin1", "charAt", "([BI)C"⟩ : MethodName) (head1 (Jvm.Cond.code (⟨"java/lang/StringLatin1", "charAt", "([BI)C"⟩ : MethodName) jdk_43_method_2_code 2 (some .char) :: ws) ({ frames := 2, cells := 0, slots := 0, locals := 27 } : Room)) (fun ars U => ars = #[(.ref b), (.int i)] ∧ Z.Warmed39 U.vm ∧ U.heap = h0) (fun _ _ _ _ _ => True) (fun _ U o U' => ∃ v L, o = .returned v ∧ own_lca_Q Z b i f k z vs u r h0 n0 v U'.heap L ∧ FrameEnd U o U' L ({ frames := 2, cells := 0, slots := 0, locals := 27 } : Room).cells ({ frames := 2, cells := 0, slots := 0, locals := 27 } : Room).slots) := by
  refine MetFree.of_bodySF (plainFor_of_name own_lca_pn) hisR ?_
  intro p e s m args below meth c s₁ Bd hml0 hP hK
  obtain ⟨rfl, hZ, hh⟩ := hP
  have hx := Bd.exec
  have hby := Bd.bytes
  have hml : c.maxLocals = 2 := hml0
  have hown : s.vm.findClass "java/lang/StringLatin1" = some m.cls := findClass_of_methodNamed Bd.named
  have hnm := (name_of_methodNamed Bd.named Bd.method).1
  have X0 : Stand p l e ({ frames := 2, cells := 0, slots := 0, locals := 27 } : Room) s m #[(.ref b), (.int i)] below meth c s₁ [] 0 0 := Stand.of_body Bd
  have e0 : s₁.heap = h0 := by rw [← hh, Bd.state]; rfl
  have N0 := Fr.nil n0
  generalize hS0 : s₁.setTop (entryFrame m #[(.ref b), (.int i)] 2) = S0
  have c0 : Steps p.tables e below S0 (s₁.setTop (mkF m 0 #[.val (.ref b), .val (.int i)] [])) := by rw [← hS0]; exact castTop (own_lca_ef m b i) (Steps.refl _)
  have K0 : Keep h0 h0 [] := Keep.refl _ _
  obtain ⟨cl, Ar, q1, S, q3, H, G⟩ := Av
  have c1 : Steps p.tables e below S0 (s₁.setTop (mkF m 2 #[.val (.ref b), .val (.int i)] [(.ref b), (.int i)])) := c0.trans (by
    refine XS.iloadN X0.here hx rfl (hb hby own_d6_0) rfl ?_
    show Steps p.tables e below (s₁.setTop (mkF m 1 #[.val (.ref b), .val (.int i)] [(.int i)])) _
    refine XS.aloadN X0.here hx rfl (hb hby own_d6_1) rfl rfl ?_
    exact Steps.refl _)
  have c2 : Steps p.tables e below S0 (s₁.setTop (mkF m 3 #[.val (.ref b), .val (.int i)] [(.int z), (.int i)])) := c1.trans (by
    refine X0.arraylength hx (by rw [e0]; exact Ar.1) (State.isArrayOf_alike hZ.alike Ar.2.1) (g := (mkF m 2 #[.val (.ref b), .val (.int i)] [(.ref b), (.int i)])) rfl rfl (hb hby own_d6_2) _ ?_
    rw [len_of S q3]
    exact Steps.refl _)
  obtain ⟨_, _, ⟨T3, L3, k3, n3⟩, -, X3, ⟨Lc3, hQ3, l3, y3, z3⟩, st3⟩ := Jvm.LawKit.callS X0 hx (y := (⟨"java/lang/String", "checkIndex", "(II)V"⟩ : MethodName)) hown (mvT hZ (hw _ (List.mem_of_getElem? (i := 135) rfl))) (mvT hZ (hw _ (List.mem_of_getElem? (i := 136) rfl))) (mvT hZ (hw _ (List.mem_of_getElem? (i := 7) rfl))) (mvT hZ (hw _ (List.mem_of_getElem? (i := 137) rfl))) (by decide) (backOf (W := 0) (own_cki l Z a0 hw [] i z f h0 n0 Z0 SF hgv O h1 h2) hZ (hw _ (List.mem_of_getElem? (i := 137) rfl)) (hw _ (List.mem_of_getElem? (i := 7) rfl)) (by decide) (by decide)) (g := (mkF m 3 #[.val (.ref b), .val (.int i)] [(.int z), (.int i)])) rfl (by rw [hml]; rfl) (argsL := [(.int i), (.int z)]) (rest := []) (lenOf own_pd2 rfl) rfl (by show 2 * 0 + _ ≤ _; exact Nat.le_of_eq rfl) (hb hby own_d6_3) (fun _ _ => ⟨rfl, e0, (Nat.le_of_ble_eq_true rfl), (Nat.le_of_ble_eq_true rfl)⟩)
  dsimp only [Pt.U, Pt.locs, Pt.cells, Pt.slots] at X3 l3 y3 z3 st3 hQ3
  subst l3 y3 z3
  obtain ⟨rfl, N3q, ec⟩ := hQ3
  have N3 := Fr.app N0 N3q
  have c4 : Steps p.tables e below S0 (T3.setTop (mkF m 6 #[.val (.ref b), .val (.int i)] [])) := c2.trans (by
    refine st3 _ ?_
    exact Steps.refl _)
  have c5 : Steps p.tables e below S0 (T3.setTop (mkF m 8 #[.val (.ref b), .val (.int i)] [(.int i), (.ref b)])) := c4.trans (by
    refine XS.aloadN X3.here hx rfl (hb hby own_d6_6) rfl rfl ?_
    show Steps p.tables e below (T3.setTop (mkF m 7 #[.val (.ref b), .val (.int i)] [(.ref b)])) _
    refine XS.iloadN X3.here hx rfl (hb hby own_d6_7) rfl ?_
    exact Steps.refl _)
  have hin := inb_of S ⟨h1, h2⟩
  have c6 : Steps p.tables e below S0 (T3.setTop (mkF m 9 #[.val (.ref b), .val (.int i)] [(.int u)])) := c5.trans (by
    refine X3.baloadBytes hx (j := i) (v := (.int u)) (by rw [ec]; exact Ar.1) (State.isArrayOf_alike hZ.alike Ar.2.1) Ar.2.2 hin (H.at hin hu) (g := (mkF m 8 #[.val (.ref b), .val (.int i)] [(.int i), (.ref b)])) rfl rfl (hb hby own_d6_8) _ ?_
    exact Steps.refl _)
  have c7 : Steps p.tables e below S0 (T3.setTop (mkF m 14 #[.val (.ref b), .val (.int i)] [(.int ((u &&& (255 : Int32)).toUInt32.toUInt16.toUInt32.toInt32))])) := c6.trans (by
    refine XS.sipush X3.here hx rfl (hb hby own_d6_9) ?_
    show Steps p.tables e below (T3.setTop (mkF m 12 #[.val (.ref b), .val (.int i)] [(.int (255 : Int32)), (.int u)])) _
    refine XS.iand X3.here hx rfl (hb hby own_d6_12) rfl ?_
    show Steps p.tables e below (T3.setTop (mkF m 13 #[.val (.ref b), .val (.int i)] [(.int (u &&& (255 : Int32)))])) _
    refine XS.i2c X3.here hx rfl (hb hby own_d6_13) rfl ?_
    exact Steps.refl _)
  obtain ⟨fs, hr, hrun, hended, hW, hsame⟩ := X3.leave (v := some (.int (nar .char ((u &&& (255 : Int32)).toUInt32.toUInt16.toUInt32.toInt32)))) (fun h => by rw [Bd.returns] at h; cases h)
  exact ⟨_, _, c7.trans (retN X3 hx (t := .char) Bd.returns (by simp) (hb hby own_d6_14) hr), hrun, hended, _, _, rfl, ⟨by rw [hrv], N3, ec⟩, ⟨_, rfl⟩, hW, hsame.mono (by decide) (by decide)⟩
theorem own_d7_0 : decode jdk_42_method_56_code 0 = .ok (.aload_n 0, 1) := by decide +kernel
theorem own_d7_1 : decode jdk_42_method_56_code 1 = .ok (.invokevirtual 492, 3) := by decide +kernel
theorem own_d7_4 : decode jdk_42_method_56_code 4 = .ok (.ifCond .eq 12, 3) := by decide +kernel
theorem own_d7_7 : decode jdk_42_method_56_code 7 = .ok (.aload_n 0, 1) := by decide +kernel
theorem own_d7_8 : decode jdk_42_method_56_code 8 = .ok (.getfield 9, 3) := by decide +kernel
theorem own_d7_11 : decode jdk_42_method_56_code 11 = .ok (.iload_n 1, 1) := by decide +kernel
theorem own_d7_12 : decode jdk_42_method_56_code 12 = .ok (.invokestatic 495, 3) := by decide +kernel
theorem own_d7_15 : decode jdk_42_method_56_code 15 = .ok (.ireturn, 1) := by decide +kernel
theorem own_d7_16 : decode jdk_42_method_56_code 16 = .ok (.aload_n 0, 1) := by decide +kernel
theorem own_d7_17 : decode jdk_42_method_56_code 17 = .ok (.getfield 9, 3) := by decide +kernel
theorem own_d7_20 : decode jdk_42_method_56_code 20 = .ok (.iload_n 1, 1) := by decide +kernel
theorem own_d7_21 : decode jdk_42_method_56_code 21 = .ok (.invokestatic 498, 3) := by decide +kernel
theorem own_d7_24 : decode jdk_42_method_56_code 24 = .ok (.ireturn, 1) := by decide +kernel
theorem own_cha_pn : plainName "java/lang/String" = true := by first | (simp [plainName, overriddenIn]; done) | decide +kernel
theorem own_cha_ef (m : MethodId) (a : Addr) (i : Int32) : entryFrame m #[(.ref a), (.int i)] 2 = mkF m 0 #[.val (.ref a), .val (.int i)] [] := by first | (simp [entryFrame, mkF, argsToLocals, Value.category]; done) | rfl
def own_cha_Q (Z : State) (a : Addr) (i : Int32) (cs : Int32) (f : Value) (b : Addr) (k : ClassId) (z : Int32) (vs : List Value) (u r : Int32) (h0 : Heap) (n0 : Nat) (v : Option Value) (h : Heap) (L : List Loc) : Prop := v = some (.int r) ∧ Fr n0 L ∧ h = h0
set_option maxRecDepth 65536 in
set_option maxHeartbeats 40000000 in
theorem own_cha (l : Launch) (Z : State) (a0 : Array Value) (hw : ∀ d ∈ tables_1, d.before a0 Z = true) (ws : List Jvm.Cond) (a : Addr) (i : Int32) (cs : Int32) (f : Value) (b : Addr) (k : ClassId) (z : Int32) (vs : List Value) (u r : Int32) (h0 : Heap) (n0 : Nat) (Z0 : n0 ≤ h0.size) (SC : Sta Z Z.heap "java/lang/String" "COMPACT_STRINGS" "Z" (.int cs)) (hcs : ¬ cs = 0) (O : Old Z n0 h0) (SF : Sta Z Z.heap "jdk/internal/util/Preconditions" "SIOOBE_FORMATTER" "Ljava/util/function/BiFunction;" f) (hgv : f.isRef = true) (Ee : Exa Z h0 a "java/lang/String") (Cf : Fld Z h0 a "java/lang/String" "coder" "B" (.int (0 : Int32))) (Vf : Fld Z h0 a "java/lang/String" "value" "[B" (.ref b)) (Av : Arv Z h0 b k .byte z vs (.int (0 : Int32))) (h1 : ¬ i < 0) (h2 : i < z) (hu : vs.getD i.toNatClampNeg (.int (0 : Int32)) = .int u) (hrv : nar .char ((u &&& (255 : Int32)).toUInt32.toUInt16.toUInt32.toInt32) = r) (hrr : nar .char r = r) :
    MetFree l (⟨"java/lang/String", "charAt", "(I)C"⟩ : MethodName) (head1 (Jvm.Cond.code (⟨"java/lang/String", "charAt", "(I)C"⟩ : MethodName) jdk_42_method_56_code 2 (some .char) :: ws) ({ frames := 3, cells := 0, slots := 0, locals := 40 } : Room)) (fun ars U => ars = #[(.ref a), (.int i)] ∧ Z.Warmed39 U.vm ∧ U.heap = h0) (fun _ _ _ _ _ => True) (fun _ U o U' => ∃ v L, o = .returned v ∧ own_cha_Q Z a i cs f b k z vs u r h0 n0 v U'.heap L ∧ FrameEnd U o U' L ({ frames := 3, cells := 0, slots := 0, locals := 40 } : Room).cells ({ frames := 3, cells := 0, slots := 0, locals := 40 } : Room).slots) := by
  refine MetFree.of_bodySF (plainFor_of_name own_cha_pn) hisR ?_
  intro p e s m args below meth c s₁ Bd hml0 hP hK
  obtain ⟨rfl, hZ, hh⟩ := hP
  have hx := Bd.exec
  have hby := Bd.bytes
  have hml : c.maxLocals = 2 := hml0
  have hown : s.vm.findClass "java/lang/String" = some m.cls := findClass_of_methodNamed Bd.named
  have hnm := (name_of_methodNamed Bd.named Bd.method).1
  have X0 : Stand p l e ({ frames := 3, cells := 0, slots := 0, locals := 40 } : Room) s m #[(.ref a), (.int i)] below meth c s₁ [] 0 0 := Stand.of_body Bd
  have e0 : s₁.heap = h0 := by rw [← hh, Bd.state]; rfl
  have N0 := Fr.nil n0
  generalize hS0 : s₁.setTop (entryFrame m #[(.ref a), (.int i)] 2) = S0
  have c0 : Steps p.tables e below S0 (s₁.setTop (mkF m 0 #[.val (.ref a), .val (.int i)] [])) := by rw [← hS0]; exact castTop (own_cha_ef m a i) (Steps.refl _)
  have K0 : Keep h0 h0 [] := Keep.refl _ _
  have c1 : Steps p.tables e below S0 (s₁.setTop (mkF m 1 #[.val (.ref a), .val (.int i)] [(.ref a)])) := c0.trans (by
    refine XS.aloadN X0.here hx rfl (hb hby own_d7_0) rfl rfl ?_
    exact Steps.refl _)
  obtain ⟨cq2, kq2, q2a, q2b, q2c⟩ := isOf hZ e0 Ee
  obtain ⟨_, _, ⟨T2, L2, k2, n2⟩, -, X2, ⟨Lc2, hQ2, l2, y2, z2⟩, st2⟩ := X0.virtualBack hx (y := (⟨"java/lang/String", "isLatin1", "()Z"⟩ : MethodName)) (z := (⟨"java/lang/String", "isLatin1", "()Z"⟩ : MethodName)) hown (mvT hZ (hw _ (List.mem_of_getElem? (i := 127) rfl))) (mvT hZ (hw _ (List.mem_of_getElem? (i := 128) rfl))) (notFace_of_selects (args := #[]) (mvT hZ (hw _ (List.mem_of_getElem? (i := 130) rfl)))) (mvT hZ (hw _ (List.mem_of_getElem? (i := 130) rfl))) (mvT hZ (hw _ (List.mem_of_getElem? (i := 129) rfl))) (by decide) (backOf (W := 0) (own_sil l Z a0 hw [] a cs h0 n0 Z0 SC hcs O Cf) hZ (hw _ (List.mem_of_getElem? (i := 131) rfl)) (hw _ (List.mem_of_getElem? (i := 7) rfl)) (by decide) (by decide)) q2a q2c (g := (mkF m 1 #[.val (.ref a), .val (.int i)] [(.ref a)])) rfl (by rw [hml]; rfl) (Steps.refl _) (argsL := []) (rest := []) (lenOf own_pd3 rfl) rfl (by show 2 * 0 + _ ≤ _; exact Nat.le_of_eq rfl) (hb hby own_d7_1) (fun _ _ => ⟨rfl, e0, (Nat.le_of_ble_eq_true rfl), (Nat.le_of_ble_eq_true rfl)⟩)
  dsimp only [Pt.U, Pt.locs, Pt.cells, Pt.slots] at X2 l2 y2 z2 st2 hQ2
  subst l2 y2 z2
  obtain ⟨rfl, N2q, ea⟩ := hQ2
  have N2 := Fr.app N0 N2q
  have c3 : Steps p.tables e below S0 (T2.setTop (mkF m 4 #[.val (.ref a), .val (.int i)] [(.int (1 : Int32))])) := c1.trans (by
    refine st2.trans ?_
    exact Steps.refl _)
  have c4 : Steps p.tables e below S0 (T2.setTop (mkF m 7 #[.val (.ref a), .val (.int i)] [])) := c3.trans (by
    refine XS.ifNo X2.here hx rfl (hb hby own_d7_4) rfl ((if0 _ _).trans (feq (by decide)).1) ?_
    exact Steps.refl _)
  have c5 : Steps p.tables e below S0 (T2.setTop (mkF m 8 #[.val (.ref a), .val (.int i)] [(.ref a)])) := c4.trans (by
    refine XS.aloadN X2.here hx rfl (hb hby own_d7_7) rfl rfl ?_
    exact Steps.refl _)
  obtain ⟨T6, X6, e6, st6⟩ := getF X2 hx hZ hown (host := "") (Or.inl (hw _ (List.mem_of_getElem? (i := 27) rfl))) Via.refl ea Vf (g := (mkF m 8 #[.val (.ref a), .val (.int i)] [(.ref a)])) rfl rfl (hb hby own_d7_8)
  have c7 : Steps p.tables e below S0 (T6.setTop (mkF m 11 #[.val (.ref a), .val (.int i)] [(.ref b)])) := c5.trans (by
    refine st6 _ ?_
    exact Steps.refl _)
  have c8 : Steps p.tables e below S0 (T6.setTop (mkF m 12 #[.val (.ref a), .val (.int i)] [(.int i), (.ref b)])) := c7.trans (by
    refine XS.iloadN X6.here hx rfl (hb hby own_d7_11) rfl ?_
    exact Steps.refl _)
  obtain ⟨_, _, ⟨T9, L9, k9, n9⟩, -, X9, ⟨Lc9, hQ9, l9, y9, z9⟩, st9⟩ := Jvm.LawKit.callS X6 hx (y := (⟨"java/lang/StringLatin1", "charAt", "([BI)C"⟩ : MethodName)) hown (mvT hZ (hw _ (List.mem_of_getElem? (i := 132) rfl))) (mvT hZ (hw _ (List.mem_of_getElem? (i := 133) rfl))) (mvT hZ (hw _ (List.mem_of_getElem? (i := 78) rfl))) (mvT hZ (hw _ (List.mem_of_getElem? (i := 134) rfl))) (by decide) (backOf (W := 0) (own_lca l Z a0 hw [] b i f k z vs u r h0 n0 Z0 SF hgv O Av h1 h2 hu hrv) hZ (hw _ (List.mem_of_getElem? (i := 134) rfl)) (hw _ (List.mem_of_getElem? (i := 78) rfl)) (by decide) (by decide)) (g := (mkF m 12 #[.val (.ref a), .val (.int i)] [(.int i), (.ref b)])) rfl (by rw [hml]; rfl) (argsL := [(.ref b), (.int i)]) (rest := []) (lenOf own_pd4 rfl) rfl (by show 2 * 0 + _ ≤ _; exact Nat.le_of_eq rfl) (hb hby own_d7_12) (fun _ _ => ⟨rfl, e6, (Nat.le_of_ble_eq_true rfl), (Nat.le_of_ble_eq_true rfl)⟩)
  dsimp only [Pt.U, Pt.locs, Pt.cells, Pt.slots] at X9 l9 y9 z9 st9 hQ9
  subst l9 y9 z9
  obtain ⟨rfl, N9q, eb⟩ := hQ9
  have N9 := Fr.app N2 N9q
  have c10 : Steps p.tables e below S0 (T9.setTop (mkF m 15 #[.val (.ref a), .val (.int i)] [(.int r)])) := c8.trans (by
    refine st9 _ ?_
    exact Steps.refl _)
  obtain ⟨fs, hr, hrun, hended, hW, hsame⟩ := X9.leave (v := some (.int (nar .char r))) (fun h => by rw [Bd.returns] at h; cases h)
  exact ⟨_, _, c10.trans (retN X9 hx (t := .char) Bd.returns (by simp) (hb hby own_d7_15) hr), hrun, hended, _, _, rfl, ⟨by rw [hrr], N9, eb⟩, ⟨_, rfl⟩, hW, hsame.mono (by decide) (by decide)⟩
theorem own_d8_0 : decode jdk_68_method_68_code 0 = .ok (.getstatic 18, 3) := by decide +kernel
theorem own_d8_3 : decode jdk_68_method_68_code 3 = .ok (.ifCond .eq 14, 3) := by decide +kernel
theorem own_d8_6 : decode jdk_68_method_68_code 6 = .ok (.aload_n 0, 1) := by decide +kernel
theorem own_d8_7 : decode jdk_68_method_68_code 7 = .ok (.getfield 22, 3) := by decide +kernel
theorem own_d8_10 : decode jdk_68_method_68_code 10 = .ok (.ifCond .ne 7, 3) := by decide +kernel
theorem own_d8_13 : decode jdk_68_method_68_code 13 = .ok (.iconst 1, 1) := by decide +kernel
theorem own_d8_14 : decode jdk_68_method_68_code 14 = .ok (.goto 4, 3) := by decide +kernel
theorem own_d8_17 : decode jdk_68_method_68_code 17 = .ok (.iconst 0, 1) := by decide +kernel
theorem own_d8_18 : decode jdk_68_method_68_code 18 = .ok (.ireturn, 1) := by decide +kernel
theorem own_abl_pn : plainName "java/lang/AbstractStringBuilder" = true := by first | (simp [plainName, overriddenIn]; done) | decide +kernel
theorem own_abl_ef (m : MethodId) (a : Addr) : entryFrame m #[(.ref a)] 1 = mkF m 0 #[.val (.ref a)] [] := by first | (simp [entryFrame, mkF, argsToLocals, Value.category]; done) | rfl
def own_abl_Q (Z : State) (a : Addr) (cs : Int32) (h0 : Heap) (n0 : Nat) (v : Option Value) (h : Heap) (L : List Loc) : Prop := v = some (.int (1 : Int32)) ∧ Fr n0 L ∧ h = h0
set_option maxRecDepth 65536 in
set_option maxHeartbeats 40000000 in
theorem own_abl (l : Launch) (Z : State) (a0 : Array Value) (hw : ∀ d ∈ tables_1, d.before a0 Z = true) (ws : List Jvm.Cond) (a : Addr) (cs : Int32) (h0 : Heap) (n0 : Nat) (Z0 : n0 ≤ h0.size) (SC : Sta Z Z.heap "java/lang/String" "COMPACT_STRINGS" "Z" (.int cs)) (hcs : ¬ cs = 0) (O : Old Z n0 h0) (Cf : Fld Z h0 a "java/lang/AbstractStringBuilder" "coder" "B" (.int (0 : Int32))) :
    MetFree l (⟨"java/lang/AbstractStringBuilder", "isLatin1", "()Z"⟩ : MethodName) (head1 (Jvm.Cond.code (⟨"java/lang/AbstractStringBuilder", "isLatin1", "()Z"⟩ : MethodName) jdk_68_method_68_code 1 (some .boolean) :: ws) ({ frames := 0, cells := 0, slots := 0, locals := 0 } : Room)) (fun ars U => ars = #[(.ref a)] ∧ Z.Warmed39 U.vm ∧ U.heap = h0) (fun _ _ _ _ _ => True) (fun _ U o U' => ∃ v L, o = .returned v ∧ own_abl_Q Z a cs h0 n0 v U'.heap L ∧ FrameEnd U o U' L ({ frames := 0, cells := 0, slots := 0, locals := 0 } : Room).cells ({ frames := 0, cells := 0, slots := 0, locals := 0 } : Room).slots) := by
  refine MetFree.of_bodySF (plainFor_of_name own_abl_pn) hisR ?_
  intro p e s m args below meth c s₁ Bd hml0 hP hK
  obtain ⟨rfl, hZ, hh⟩ := hP
  have hx := Bd.exec
  have hby := Bd.bytes
  have hml : c.maxLocals = 1 := hml0
  have hown : s.vm.findClass "java/lang/AbstractStringBuilder" = some m.cls := findClass_of_methodNamed Bd.named
  have hnm := (name_of_methodNamed Bd.named Bd.method).1
  have X0 : Stand p l e ({ frames := 0, cells := 0, slots := 0, locals := 0 } : Room) s m #[(.ref a)] below meth c s₁ [] 0 0 := Stand.of_body Bd
  have e0 : s₁.heap = h0 := by rw [← hh, Bd.state]; rfl
  have N0 := Fr.nil n0
  generalize hS0 : s₁.setTop (entryFrame m #[(.ref a)] 1) = S0
  have c0 : Steps p.tables e below S0 (s₁.setTop (mkF m 0 #[.val (.ref a)] [])) := by rw [← hS0]; exact castTop (own_abl_ef m a) (Steps.refl _)
  have K0 : Keep h0 h0 [] := Keep.refl _ _
  obtain ⟨T1, X1, e1, st1⟩ := getS2 X0 hx hZ hown (host := "") (Or.inl (hw _ (List.mem_of_getElem? (i := 47) rfl))) Via.refl e0 (SC.ext O.2) (g := (mkF m 0 #[.val (.ref a)] [])) rfl (hb hby own_d8_0)
  have c2 : Steps p.tables e below S0 (T1.setTop (mkF m 3 #[.val (.ref a)] [(.int cs)])) := c0.trans (by
    refine st1 _ ?_
    exact Steps.refl _)
  have c3 : Steps p.tables e below S0 (T1.setTop (mkF m 6 #[.val (.ref a)] [])) := c2.trans (by
    refine XS.ifNo X1.here hx rfl (hb hby own_d8_3) rfl ((if0 _ _).trans (feq hcs).1) ?_
    exact Steps.refl _)
  have c4 : Steps p.tables e below S0 (T1.setTop (mkF m 7 #[.val (.ref a)] [(.ref a)])) := c3.trans (by
    refine XS.aloadN X1.here hx rfl (hb hby own_d8_6) rfl rfl ?_
    exact Steps.refl _)
  obtain ⟨T5, X5, e5, st5⟩ := getF X1 hx hZ hown (host := "") (Or.inl (hw _ (List.mem_of_getElem? (i := 50) rfl))) Via.refl e1 Cf (g := (mkF m 7 #[.val (.ref a)] [(.ref a)])) rfl rfl (hb hby own_d8_7)
  have c6 : Steps p.tables e below S0 (T5.setTop (mkF m 10 #[.val (.ref a)] [(.int (0 : Int32))])) := c4.trans (by
    refine st5 _ ?_
    exact Steps.refl _)
  have c7 : Steps p.tables e below S0 (T5.setTop (mkF m 13 #[.val (.ref a)] [])) := c6.trans (by
    refine XS.ifNo X5.here hx rfl (hb hby own_d8_10) rfl ((if0 _ _).trans (teq rfl).2) ?_
    exact Steps.refl _)
  have c8 : Steps p.tables e below S0 (T5.setTop (mkF m 18 #[.val (.ref a)] [(.int (1 : Int32))])) := c7.trans (by
    refine XS.iconst X5.here hx rfl (hb hby own_d8_13) ?_
    show Steps p.tables e below (T5.setTop (mkF m 14 #[.val (.ref a)] [(.int (1 : Int32))])) _
    refine XS.goto X5.here hx rfl (pc0 := 14) (pc' := 18) rfl (hb hby own_d8_14) (by decide) (by decide) ?_
    exact Steps.refl _)
  obtain ⟨fs, hr, hrun, hended, hW, hsame⟩ := X5.leave (v := some (.int (1 : Int32))) (fun h => by rw [Bd.returns] at h; cases h)
  exact ⟨_, _, c8.trans (retN X5 hx (t := .boolean) Bd.returns (by simp) (hb hby own_d8_18) hr), hrun, hended, _, _, rfl, ⟨rfl, N0, e5⟩, ⟨_, rfl⟩, hW, hsame.mono (by decide) (by decide)⟩
theorem own_d9_0 : decode jdk_43_method_3_code 0 = .ok (.iload_n 0, 1) := by decide +kernel
theorem own_d9_1 : decode jdk_43_method_3_code 1 = .ok (.sipush 255, 3) := by decide +kernel
theorem own_d9_4 : decode jdk_43_method_3_code 4 = .ok (.if_icmp .gt 7, 3) := by decide +kernel
theorem own_d9_7 : decode jdk_43_method_3_code 7 = .ok (.iconst 1, 1) := by decide +kernel
theorem own_d9_8 : decode jdk_43_method_3_code 8 = .ok (.goto 4, 3) := by decide +kernel
theorem own_d9_11 : decode jdk_43_method_3_code 11 = .ok (.iconst 0, 1) := by decide +kernel
theorem own_d9_12 : decode jdk_43_method_3_code 12 = .ok (.ireturn, 1) := by decide +kernel
theorem own_can_pn : plainName "java/lang/StringLatin1" = true := by first | (simp [plainName, overriddenIn]; done) | decide +kernel
theorem own_can_ef (m : MethodId) (pp : Int32) : entryFrame m #[(.int pp)] 1 = mkF m 0 #[.val (.int pp)] [] := by first | (simp [entryFrame, mkF, argsToLocals, Value.category]; done) | rfl
def own_can_Q (Z : State) (pp : Int32) (h0 : Heap) (n0 : Nat) (v : Option Value) (h : Heap) (L : List Loc) : Prop := v = some (.int (1 : Int32)) ∧ Fr n0 L ∧ h = h0
set_option maxRecDepth 65536 in
set_option maxHeartbeats 40000000 in
theorem own_can (l : Launch) (Z : State) (a0 : Array Value) (hw : ∀ d ∈ tables_1, d.before a0 Z = true) (ws : List Jvm.Cond) (pp : Int32) (h0 : Heap) (n0 : Nat) (Z0 : n0 ≤ h0.size) (hp : ¬ (255 : Int32) < pp) :
    MetFree l (⟨"java/lang/StringLatin1", "canEncode", "(C)Z"⟩ : MethodName) (head1 (Jvm.Cond.code (⟨"java/lang/StringLatin1", "canEncode", "(C)Z"⟩ : MethodName) jdk_43_method_3_code 1 (some .boolean) :: ws) ({ frames := 0, cells := 0, slots := 0, locals := 0 } : Room)) (fun ars U => ars = #[(.int pp)] ∧ Z.Warmed39 U.vm ∧ U.heap = h0) (fun _ _ _ _ _ => True) (fun _ U o U' => ∃ v L, o = .returned v ∧ own_can_Q Z pp  h0 n0 v U'.heap L ∧ FrameEnd U o U' L ({ frames := 0, cells := 0, slots := 0, locals := 0 } : Room).cells ({ frames := 0, cells := 0, slots := 0, locals := 0 } : Room).slots) := by
  refine MetFree.of_bodySF (plainFor_of_name own_can_pn) hisR ?_
  intro p e s m args below meth c s₁ Bd hml0 hP hK
  obtain ⟨rfl, hZ, hh⟩ := hP
  have hx := Bd.exec
  have hby := Bd.bytes
  have hml : c.maxLocals = 1 := hml0
  have hown : s.vm.findClass "java/lang/StringLatin1" = some m.cls := findClass_of_methodNamed Bd.named
  have hnm := (name_of_methodNamed Bd.named Bd.method).1
  have X0 : Stand p l e ({ frames := 0, cells := 0, slots := 0, locals := 0 } : Room) s m #[(.int pp)] below meth c s₁ [] 0 0 := Stand.of_body Bd
  have e0 : s₁.heap = h0 := by rw [← hh, Bd.state]; rfl
  have N0 := Fr.nil n0
  generalize hS0 : s₁.setTop (entryFrame m #[(.int pp)] 1) = S0
  have c0 : Steps p.tables e below S0 (s₁.setTop (mkF m 0 #[.val (.int pp)] [])) := by rw [← hS0]; exact castTop (own_can_ef m pp) (Steps.refl _)
  have K0 : Keep h0 h0 [] := Keep.refl _ _
  have c1 : Steps p.tables e below S0 (s₁.setTop (mkF m 4 #[.val (.int pp)] [(.int (255 : Int32)), (.int pp)])) := c0.trans (by
    refine XS.iloadN X0.here hx rfl (hb hby own_d9_0) rfl ?_
    show Steps p.tables e below (s₁.setTop (mkF m 1 #[.val (.int pp)] [(.int pp)])) _
    refine XS.sipush X0.here hx rfl (hb hby own_d9_1) ?_
    exact Steps.refl _)
  have c2 : Steps p.tables e below S0 (s₁.setTop (mkF m 7 #[.val (.int pp)] [])) := c1.trans (by
    refine XS.icmpNo X0.here hx rfl (hb hby own_d9_4) rfl (flt hp).2.2.1 ?_
    exact Steps.refl _)
  have c3 : Steps p.tables e below S0 (s₁.setTop (mkF m 12 #[.val (.int pp)] [(.int (1 : Int32))])) := c2.trans (by
    refine XS.iconst X0.here hx rfl (hb hby own_d9_7) ?_
    show Steps p.tables e below (s₁.setTop (mkF m 8 #[.val (.int pp)] [(.int (1 : Int32))])) _
    refine XS.goto X0.here hx rfl (pc0 := 8) (pc' := 12) rfl (hb hby own_d9_8) (by decide) (by decide) ?_
    exact Steps.refl _)
  obtain ⟨fs, hr, hrun, hended, hW, hsame⟩ := X0.leave (v := some (.int (1 : Int32))) (fun h => by rw [Bd.returns] at h; cases h)
  exact ⟨_, _, c3.trans (retN X0 hx (t := .boolean) Bd.returns (by simp) (hb hby own_d9_12) hr), hrun, hended, _, _, rfl, ⟨rfl, N0, e0⟩, ⟨_, rfl⟩, hW, hsame.mono (by decide) (by decide)⟩
theorem own_d10_0 : decode jdk_68_method_9_code 0 = .ok (.aload_n 0, 1) := by decide +kernel
theorem own_d10_1 : decode jdk_68_method_9_code 1 = .ok (.getfield 15, 3) := by decide +kernel
theorem own_d10_4 : decode jdk_68_method_9_code 4 = .ok (.arraylength, 1) := by decide +kernel
theorem own_d10_5 : decode jdk_68_method_9_code 5 = .ok (.aload_n 0, 1) := by decide +kernel
theorem own_d10_6 : decode jdk_68_method_9_code 6 = .ok (.getfield 22, 3) := by decide +kernel
theorem own_d10_9 : decode jdk_68_method_9_code 9 = .ok (.ishr, 1) := by decide +kernel
theorem own_d10_10 : decode jdk_68_method_9_code 10 = .ok (.istore_n 2, 1) := by decide +kernel
theorem own_d10_11 : decode jdk_68_method_9_code 11 = .ok (.iload_n 1, 1) := by decide +kernel
theorem own_d10_12 : decode jdk_68_method_9_code 12 = .ok (.iload_n 2, 1) := by decide +kernel
theorem own_d10_13 : decode jdk_68_method_9_code 13 = .ok (.isub, 1) := by decide +kernel
theorem own_d10_14 : decode jdk_68_method_9_code 14 = .ok (.ifCond .le 24, 3) := by decide +kernel
theorem own_d10_17 : decode jdk_68_method_9_code 17 = .ok (.aload_n 0, 1) := by decide +kernel
theorem own_d10_18 : decode jdk_68_method_9_code 18 = .ok (.aload_n 0, 1) := by decide +kernel
theorem own_d10_19 : decode jdk_68_method_9_code 19 = .ok (.getfield 15, 3) := by decide +kernel
theorem own_d10_22 : decode jdk_68_method_9_code 22 = .ok (.aload_n 0, 1) := by decide +kernel
theorem own_d10_23 : decode jdk_68_method_9_code 23 = .ok (.iload_n 1, 1) := by decide +kernel
theorem own_d10_24 : decode jdk_68_method_9_code 24 = .ok (.invokevirtual 104, 3) := by decide +kernel
theorem own_d10_27 : decode jdk_68_method_9_code 27 = .ok (.aload_n 0, 1) := by decide +kernel
theorem own_d10_28 : decode jdk_68_method_9_code 28 = .ok (.getfield 22, 3) := by decide +kernel
theorem own_d10_31 : decode jdk_68_method_9_code 31 = .ok (.ishl, 1) := by decide +kernel
theorem own_d10_32 : decode jdk_68_method_9_code 32 = .ok (.invokestatic 108, 3) := by decide +kernel
theorem own_d10_35 : decode jdk_68_method_9_code 35 = .ok (.putfield 15, 3) := by decide +kernel
theorem own_d10_38 : decode jdk_68_method_9_code 38 = .ok (.return_, 1) := by decide +kernel
theorem own_ens_pn : plainName "java/lang/AbstractStringBuilder" = true := by first | (simp [plainName, overriddenIn]; done) | decide +kernel
theorem own_ens_ef (m : MethodId) (a : Addr) (n : Int32) : entryFrame m #[(.ref a), (.int n)] 3 = mkF m 0 #[.val (.ref a), .val (.int n), .unset] [] := by first | (simp [entryFrame, mkF, argsToLocals, Value.category]; done) | rfl
def own_ens_Q (Z : State) (a : Addr) (n : Int32) (b : Addr) (k : ClassId) (vs : List Value) (h0 : Heap) (n0 : Nat) (v : Option Value) (h : Heap) (L : List Loc) : Prop := v = none ∧ Fr n0 L ∧ h = h0
set_option maxRecDepth 65536 in
set_option maxHeartbeats 40000000 in
theorem own_ens (l : Launch) (Z : State) (a0 : Array Value) (hw : ∀ d ∈ tables_1, d.before a0 Z = true) (ws : List Jvm.Cond) (a : Addr) (n : Int32) (b : Addr) (k : ClassId) (vs : List Value) (h0 : Heap) (n0 : Nat) (Z0 : n0 ≤ h0.size) (Cf : Fld Z h0 a "java/lang/AbstractStringBuilder" "coder" "B" (.int (0 : Int32))) (Vf : Fld Z h0 a "java/lang/AbstractStringBuilder" "value" "[B" (.ref b)) (Av : Arv Z h0 b k .byte (2 : Int32) vs (.int (0 : Int32))) (hn : n = 1 ∨ n = 2) :
    MetFree l (⟨"java/lang/AbstractStringBuilder", "ensureCapacityInternal", "(I)V"⟩ : MethodName) (head1 (Jvm.Cond.code (⟨"java/lang/AbstractStringBuilder", "ensureCapacityInternal", "(I)V"⟩ : MethodName) jdk_68_method_9_code 3 none :: ws) ({ frames := 0, cells := 0, slots := 0, locals := 0 } : Room)) (fun ars U => ars = #[(.ref a), (.int n)] ∧ Z.Warmed39 U.vm ∧ U.heap = h0) (fun _ _ _ _ _ => True) (fun _ U o U' => ∃ v L, o = .returned v ∧ own_ens_Q Z a n b k vs h0 n0 v U'.heap L ∧ FrameEnd U o U' L ({ frames := 0, cells := 0, slots := 0, locals := 0 } : Room).cells ({ frames := 0, cells := 0, slots := 0, locals := 0 } : Room).slots) := by
  refine MetFree.of_bodySF (plainFor_of_name own_ens_pn) hisR ?_
  intro p e s m args below meth c s₁ Bd hml0 hP hK
  obtain ⟨rfl, hZ, hh⟩ := hP
  have hx := Bd.exec
  have hby := Bd.bytes
  have hml : c.maxLocals = 3 := hml0
  have hown : s.vm.findClass "java/lang/AbstractStringBuilder" = some m.cls := findClass_of_methodNamed Bd.named
  have hnm := (name_of_methodNamed Bd.named Bd.method).1
  have X0 : Stand p l e ({ frames := 0, cells := 0, slots := 0, locals := 0 } : Room) s m #[(.ref a), (.int n)] below meth c s₁ [] 0 0 := Stand.of_body Bd
  have e0 : s₁.heap = h0 := by rw [← hh, Bd.state]; rfl
  have N0 := Fr.nil n0
  generalize hS0 : s₁.setTop (entryFrame m #[(.ref a), (.int n)] 3) = S0
  have c0 : Steps p.tables e below S0 (s₁.setTop (mkF m 0 #[.val (.ref a), .val (.int n), .unset] [])) := by rw [← hS0]; exact castTop (own_ens_ef m a n) (Steps.refl _)
  have K0 : Keep h0 h0 [] := Keep.refl _ _
  obtain ⟨cl, Ar, q1, S, q3, H, G⟩ := Av
  have c1 : Steps p.tables e below S0 (s₁.setTop (mkF m 1 #[.val (.ref a), .val (.int n), .unset] [(.ref a)])) := c0.trans (by
    refine XS.aloadN X0.here hx rfl (hb hby own_d10_0) rfl rfl ?_
    exact Steps.refl _)
  obtain ⟨T2, X2, e2, st2⟩ := getF X0 hx hZ hown (host := "") (Or.inl (hw _ (List.mem_of_getElem? (i := 48) rfl))) Via.refl e0 Vf (g := (mkF m 1 #[.val (.ref a), .val (.int n), .unset] [(.ref a)])) rfl rfl (hb hby own_d10_1)
  have c3 : Steps p.tables e below S0 (T2.setTop (mkF m 4 #[.val (.ref a), .val (.int n), .unset] [(.ref b)])) := c1.trans (by
    refine st2 _ ?_
    exact Steps.refl _)
  have c4 : Steps p.tables e below S0 (T2.setTop (mkF m 5 #[.val (.ref a), .val (.int n), .unset] [(.int (2 : Int32))])) := c3.trans (by
    refine X2.arraylength hx (by rw [e2]; exact Ar.1) (State.isArrayOf_alike hZ.alike Ar.2.1) (g := (mkF m 4 #[.val (.ref a), .val (.int n), .unset] [(.ref b)])) rfl rfl (hb hby own_d10_4) _ ?_
    rw [len_of S q3]
    exact Steps.refl _)
  have c5 : Steps p.tables e below S0 (T2.setTop (mkF m 6 #[.val (.ref a), .val (.int n), .unset] [(.ref a), (.int (2 : Int32))])) := c4.trans (by
    refine XS.aloadN X2.here hx rfl (hb hby own_d10_5) rfl rfl ?_
    exact Steps.refl _)
  obtain ⟨T6, X6, e6, st6⟩ := getF X2 hx hZ hown (host := "") (Or.inl (hw _ (List.mem_of_getElem? (i := 50) rfl))) Via.refl e2 Cf (g := (mkF m 6 #[.val (.ref a), .val (.int n), .unset] [(.ref a), (.int (2 : Int32))])) rfl rfl (hb hby own_d10_6)
  have c7 : Steps p.tables e below S0 (T6.setTop (mkF m 9 #[.val (.ref a), .val (.int n), .unset] [(.int (0 : Int32)), (.int (2 : Int32))])) := c5.trans (by
    refine st6 _ ?_
    exact Steps.refl _)
  have c8 : Steps p.tables e below S0 (T6.setTop (mkF m 14 #[.val (.ref a), .val (.int n), .val (.int ((2 : Int32) >>> ((0 : Int32) &&& 31)))] [(.int (n - ((2 : Int32) >>> ((0 : Int32) &&& 31))))])) := c7.trans (by
    refine XS.ishr X6.here hx rfl (hb hby own_d10_9) rfl ?_
    show Steps p.tables e below (T6.setTop (mkF m 10 #[.val (.ref a), .val (.int n), .unset] [(.int ((2 : Int32) >>> ((0 : Int32) &&& 31)))])) _
    refine XS.istoreN X6.here hx rfl (hb hby own_d10_10) rfl (l' := #[.val (.ref a), .val (.int n), .val (.int ((2 : Int32) >>> ((0 : Int32) &&& 31)))]) rfl ?_
    show Steps p.tables e below (T6.setTop (mkF m 11 #[.val (.ref a), .val (.int n), .val (.int ((2 : Int32) >>> ((0 : Int32) &&& 31)))] [])) _
    refine XS.iloadN X6.here hx rfl (hb hby own_d10_11) rfl ?_
    show Steps p.tables e below (T6.setTop (mkF m 12 #[.val (.ref a), .val (.int n), .val (.int ((2 : Int32) >>> ((0 : Int32) &&& 31)))] [(.int n)])) _
    refine XS.iloadN X6.here hx rfl (hb hby own_d10_12) rfl ?_
    show Steps p.tables e below (T6.setTop (mkF m 13 #[.val (.ref a), .val (.int n), .val (.int ((2 : Int32) >>> ((0 : Int32) &&& 31)))] [(.int ((2 : Int32) >>> ((0 : Int32) &&& 31))), (.int n)])) _
    refine XS.isub X6.here hx rfl (hb hby own_d10_13) rfl ?_
    exact Steps.refl _)
  have c9 : Steps p.tables e below S0 (T6.setTop (mkF m 38 #[.val (.ref a), .val (.int n), .val (.int ((2 : Int32) >>> ((0 : Int32) &&& 31)))] [])) := c8.trans (by
    refine XS.ifYes X6.here hx rfl (pc0 := 14) (pc' := 38) rfl (hb hby own_d10_14) rfl ((if0 _ _).trans (flt (own_ens_le hn)).2.2.2) (by decide) (by decide) ?_
    exact Steps.refl _)
  obtain ⟨fs, hr, hrun, hended, hW, hsame⟩ := X6.leave (v := none) (fun _ => rfl)
  exact ⟨_, _, c9.trans (X6.returnOut hx Bd.returns (hb hby own_d10_38) hr), hrun, hended, _, _, rfl, ⟨rfl, N0, e6⟩, ⟨_, rfl⟩, hW, hsame.mono (by decide) (by decide)⟩
theorem own_d11_0 : decode jdk_68_method_31_code 0 = .ok (.aload_n 0, 1) := by decide +kernel
theorem own_d11_1 : decode jdk_68_method_31_code 1 = .ok (.aload_n 0, 1) := by decide +kernel
theorem own_d11_2 : decode jdk_68_method_31_code 2 = .ok (.getfield 79, 3) := by decide +kernel
theorem own_d11_5 : decode jdk_68_method_31_code 5 = .ok (.iconst 1, 1) := by decide +kernel
theorem own_d11_6 : decode jdk_68_method_31_code 6 = .ok (.iadd, 1) := by decide +kernel
theorem own_d11_7 : decode jdk_68_method_31_code 7 = .ok (.invokevirtual 100, 3) := by decide +kernel
theorem own_d11_10 : decode jdk_68_method_31_code 10 = .ok (.aload_n 0, 1) := by decide +kernel
theorem own_d11_11 : decode jdk_68_method_31_code 11 = .ok (.invokevirtual 83, 3) := by decide +kernel
theorem own_d11_14 : decode jdk_68_method_31_code 14 = .ok (.ifCond .eq 31, 3) := by decide +kernel
theorem own_d11_17 : decode jdk_68_method_31_code 17 = .ok (.iload_n 1, 1) := by decide +kernel
theorem own_d11_18 : decode jdk_68_method_31_code 18 = .ok (.invokestatic 191, 3) := by decide +kernel
theorem own_d11_21 : decode jdk_68_method_31_code 21 = .ok (.ifCond .eq 24, 3) := by decide +kernel
theorem own_d11_24 : decode jdk_68_method_31_code 24 = .ok (.aload_n 0, 1) := by decide +kernel
theorem own_d11_25 : decode jdk_68_method_31_code 25 = .ok (.getfield 15, 3) := by decide +kernel
theorem own_d11_28 : decode jdk_68_method_31_code 28 = .ok (.aload_n 0, 1) := by decide +kernel
theorem own_d11_29 : decode jdk_68_method_31_code 29 = .ok (.dup, 1) := by decide +kernel
theorem own_d11_30 : decode jdk_68_method_31_code 30 = .ok (.getfield 79, 3) := by decide +kernel
theorem own_d11_33 : decode jdk_68_method_31_code 33 = .ok (.dup_x1, 1) := by decide +kernel
theorem own_d11_34 : decode jdk_68_method_31_code 34 = .ok (.iconst 1, 1) := by decide +kernel
theorem own_d11_35 : decode jdk_68_method_31_code 35 = .ok (.iadd, 1) := by decide +kernel
theorem own_d11_36 : decode jdk_68_method_31_code 36 = .ok (.putfield 79, 3) := by decide +kernel
theorem own_d11_39 : decode jdk_68_method_31_code 39 = .ok (.iload_n 1, 1) := by decide +kernel
theorem own_d11_40 : decode jdk_68_method_31_code 40 = .ok (.i2b, 1) := by decide +kernel
theorem own_d11_41 : decode jdk_68_method_31_code 41 = .ok (.bastore, 1) := by decide +kernel
theorem own_d11_42 : decode jdk_68_method_31_code 42 = .ok (.goto 33, 3) := by decide +kernel
theorem own_d11_45 : decode jdk_68_method_31_code 45 = .ok (.aload_n 0, 1) := by decide +kernel
theorem own_d11_46 : decode jdk_68_method_31_code 46 = .ok (.invokevirtual 83, 3) := by decide +kernel
theorem own_d11_49 : decode jdk_68_method_31_code 49 = .ok (.ifCond .eq 7, 3) := by decide +kernel
theorem own_d11_52 : decode jdk_68_method_31_code 52 = .ok (.aload_n 0, 1) := by decide +kernel
theorem own_d11_53 : decode jdk_68_method_31_code 53 = .ok (.invokevirtual 195, 3) := by decide +kernel
theorem own_d11_56 : decode jdk_68_method_31_code 56 = .ok (.aload_n 0, 1) := by decide +kernel
theorem own_d11_57 : decode jdk_68_method_31_code 57 = .ok (.getfield 15, 3) := by decide +kernel
theorem own_d11_60 : decode jdk_68_method_31_code 60 = .ok (.aload_n 0, 1) := by decide +kernel
theorem own_d11_61 : decode jdk_68_method_31_code 61 = .ok (.dup, 1) := by decide +kernel
theorem own_d11_62 : decode jdk_68_method_31_code 62 = .ok (.getfield 79, 3) := by decide +kernel
theorem own_d11_65 : decode jdk_68_method_31_code 65 = .ok (.dup_x1, 1) := by decide +kernel
theorem own_d11_66 : decode jdk_68_method_31_code 66 = .ok (.iconst 1, 1) := by decide +kernel
theorem own_d11_67 : decode jdk_68_method_31_code 67 = .ok (.iadd, 1) := by decide +kernel
theorem own_d11_68 : decode jdk_68_method_31_code 68 = .ok (.putfield 79, 3) := by decide +kernel
theorem own_d11_71 : decode jdk_68_method_31_code 71 = .ok (.iload_n 1, 1) := by decide +kernel
theorem own_d11_72 : decode jdk_68_method_31_code 72 = .ok (.invokestatic 197, 3) := by decide +kernel
theorem own_d11_75 : decode jdk_68_method_31_code 75 = .ok (.aload_n 0, 1) := by decide +kernel
theorem own_d11_76 : decode jdk_68_method_31_code 76 = .ok (.areturn, 1) := by decide +kernel
theorem own_apa0_pn : plainName "java/lang/AbstractStringBuilder" = true := by first | (simp [plainName, overriddenIn]; done) | decide +kernel
theorem own_apa0_ef (m : MethodId) (a : Addr) (ch : Int32) : entryFrame m #[(.ref a), (.int ch)] 2 = mkF m 0 #[.val (.ref a), .val (.int ch)] [] := by first | (simp [entryFrame, mkF, argsToLocals, Value.category]; done) | rfl
def own_apa0_Q (Z : State) (a : Addr) (ch : Int32) (cs : Int32) (b : Addr) (k : ClassId) (h0 : Heap) (n0 : Nat) (v : Option Value) (h : Heap) (L : List Loc) : Prop := v = some (.ref a) ∧ Fr n0 L ∧ Keep h0 h [a, b] ∧ Exa Z h a "java/lang/StringBuilder" ∧ Fld Z h a "java/lang/AbstractStringBuilder" "value" "[B" (.ref b) ∧ Fld Z h a "java/lang/AbstractStringBuilder" "coder" "B" (.int (0 : Int32)) ∧ Fld Z h a "java/lang/AbstractStringBuilder" "count" "I" (.int (1 : Int32)) ∧ Arv Z h b k .byte (2 : Int32) [.int ch, .int (0 : Int32)] (.int (0 : Int32)) ∧ Exa Z h b "[B"
set_option maxRecDepth 65536 in
set_option maxHeartbeats 40000000 in
theorem own_apa0 (l : Launch) (Z : State) (a0 : Array Value) (hw : ∀ d ∈ tables_1, d.before a0 Z = true) (ws : List Jvm.Cond) (a : Addr) (ch : Int32) (cs : Int32) (b : Addr) (k : ClassId) (h0 : Heap) (n0 : Nat) (Z0 : n0 ≤ h0.size) (SC : Sta Z Z.heap "java/lang/String" "COMPACT_STRINGS" "Z" (.int cs)) (hcs : ¬ cs = 0) (O : Old Z n0 h0) (Ee : Exa Z h0 a "java/lang/StringBuilder") (Vf : Fld Z h0 a "java/lang/AbstractStringBuilder" "value" "[B" (.ref b)) (Cf : Fld Z h0 a "java/lang/AbstractStringBuilder" "coder" "B" (.int (0 : Int32))) (Nf : Fld Z h0 a "java/lang/AbstractStringBuilder" "count" "I" (.int (0 : Int32))) (Av : Arv Z h0 b k .byte (2 : Int32) [.int (0 : Int32), .int (0 : Int32)] (.int (0 : Int32))) (Eb : Exa Z h0 b "[B") (hab : a ≠ b) (ga : n0 ≤ a) (gb : n0 ≤ b) (hc : own_ch ch) :
    MetFree l (⟨"java/lang/AbstractStringBuilder", "append", "(C)Ljava/lang/AbstractStringBuilder;"⟩ : MethodName) (head1 (Jvm.Cond.code (⟨"java/lang/AbstractStringBuilder", "append", "(C)Ljava/lang/AbstractStringBuilder;"⟩ : MethodName) jdk_68_method_31_code 2 (some (.object "java/lang/AbstractStringBuilder")) :: ws) ({ frames := 1, cells := 0, slots := 0, locals := 16 } : Room)) (fun ars U => ars = #[(.ref a), (.int ch)] ∧ Z.Warmed39 U.vm ∧ U.heap = h0) (fun _ _ _ _ _ => True) (fun _ U o U' => ∃ v L, o = .returned v ∧ own_apa0_Q Z a ch cs b k h0 n0 v U'.heap L ∧ FrameEnd U o U' L ({ frames := 1, cells := 0, slots := 0, locals := 16 } : Room).cells ({ frames := 1, cells := 0, slots := 0, locals := 16 } : Room).slots) := by
  refine MetFree.of_bodySF (plainFor_of_name own_apa0_pn) hisR ?_
  intro p e s m args below meth c s₁ Bd hml0 hP hK
  obtain ⟨rfl, hZ, hh⟩ := hP
  have hx := Bd.exec
  have hby := Bd.bytes
  have hml : c.maxLocals = 2 := hml0
  have hown : s.vm.findClass "java/lang/AbstractStringBuilder" = some m.cls := findClass_of_methodNamed Bd.named
  have hnm := (name_of_methodNamed Bd.named Bd.method).1
  have X0 : Stand p l e ({ frames := 1, cells := 0, slots := 0, locals := 16 } : Room) s m #[(.ref a), (.int ch)] below meth c s₁ [] 0 0 := Stand.of_body Bd
  have e0 : s₁.heap = h0 := by rw [← hh, Bd.state]; rfl
  have N0 := Fr.nil n0
  generalize hS0 : s₁.setTop (entryFrame m #[(.ref a), (.int ch)] 2) = S0
  have c0 : Steps p.tables e below S0 (s₁.setTop (mkF m 0 #[.val (.ref a), .val (.int ch)] [])) := by rw [← hS0]; exact castTop (own_apa0_ef m a ch) (Steps.refl _)
  have K0 : Keep h0 h0 [a, b] := Keep.refl _ _
  have c1 : Steps p.tables e below S0 (s₁.setTop (mkF m 2 #[.val (.ref a), .val (.int ch)] [(.ref a), (.ref a)])) := c0.trans (by
    refine XS.aloadN X0.here hx rfl (hb hby own_d11_0) rfl rfl ?_
    show Steps p.tables e below (s₁.setTop (mkF m 1 #[.val (.ref a), .val (.int ch)] [(.ref a)])) _
    refine XS.aloadN X0.here hx rfl (hb hby own_d11_1) rfl rfl ?_
    exact Steps.refl _)
  obtain ⟨T2, X2, e2, st2⟩ := getF X0 hx hZ hown (host := "") (Or.inl (hw _ (List.mem_of_getElem? (i := 64) rfl))) Via.refl e0 Nf (g := (mkF m 2 #[.val (.ref a), .val (.int ch)] [(.ref a), (.ref a)])) rfl rfl (hb hby own_d11_2)
  have c3 : Steps p.tables e below S0 (T2.setTop (mkF m 5 #[.val (.ref a), .val (.int ch)] [(.int (0 : Int32)), (.ref a)])) := c1.trans (by
    refine st2 _ ?_
    exact Steps.refl _)
  have c4 : Steps p.tables e below S0 (T2.setTop (mkF m 7 #[.val (.ref a), .val (.int ch)] [(.int ((0 : Int32) + (1 : Int32))), (.ref a)])) := c3.trans (by
    refine XS.iconst X2.here hx rfl (hb hby own_d11_5) ?_
    show Steps p.tables e below (T2.setTop (mkF m 6 #[.val (.ref a), .val (.int ch)] [(.int (1 : Int32)), (.int (0 : Int32)), (.ref a)])) _
    refine XS.iadd X2.here hx rfl (hb hby own_d11_6) rfl ?_
    exact Steps.refl _)
  obtain ⟨cq5, q5, q5'⟩ := Ee.cell
  obtain ⟨_, _, ⟨T5, L5, k5, n5⟩, -, X5, ⟨Lc5, hQ5, l5, y5, z5⟩, st5⟩ := X2.privateBack hx (y := (⟨"java/lang/AbstractStringBuilder", "ensureCapacityInternal", "(I)V"⟩ : MethodName)) hown (mvT hZ (hw _ (List.mem_of_getElem? (i := 66) rfl))) (mvT hZ (hw _ (List.mem_of_getElem? (i := 67) rfl))) (own_selp (mvT hZ (hw _ (List.mem_of_getElem? (i := 69) rfl))) (mvT hZ (hw _ (List.mem_of_getElem? (i := 67) rfl))) (Cond.privateMethod_at (mvP hZ (hw _ (List.mem_of_getElem? (i := 68) rfl)) (args := #[]))) (by decide)) (Cond.privateMethod_at (mvP hZ (hw _ (List.mem_of_getElem? (i := 68) rfl)) (args := #[]))) (mvT hZ (hw _ (List.mem_of_getElem? (i := 70) rfl))) (by decide) (backOf (W := 0) (own_ens l Z a0 hw [] a ((0 : Int32) + 1) b k _ h0 n0 Z0 Cf Vf Av (by decide)) hZ (hw _ (List.mem_of_getElem? (i := 70) rfl)) (hw _ (List.mem_of_getElem? (i := 42) rfl)) (by decide) (by decide)) (g := (mkF m 7 #[.val (.ref a), .val (.int ch)] [(.int ((0 : Int32) + (1 : Int32))), (.ref a)])) rfl (by rw [hml]; rfl) (Steps.refl _) (a := a) (by rw [e2]; exact q5) q5' (argsL := [(.int ((0 : Int32) + (1 : Int32)))]) (rest := []) (lenOf own_pd5 rfl) rfl (by show 2 * 0 + _ ≤ _; exact Nat.le_of_eq rfl) (hb hby own_d11_7) (fun _ _ => ⟨rfl, e2, (Nat.le_of_ble_eq_true rfl), (Nat.le_of_ble_eq_true rfl)⟩)
  dsimp only [Pt.U, Pt.locs, Pt.cells, Pt.slots] at X5 l5 y5 z5 st5 hQ5
  subst l5 y5 z5
  obtain ⟨rfl, N5q, ee⟩ := hQ5
  have N5 := Fr.app N0 N5q
  have c6 : Steps p.tables e below S0 (T5.setTop (mkF m 10 #[.val (.ref a), .val (.int ch)] [])) := c4.trans (by
    refine st5.trans ?_
    exact Steps.refl _)
  have c7 : Steps p.tables e below S0 (T5.setTop (mkF m 11 #[.val (.ref a), .val (.int ch)] [(.ref a)])) := c6.trans (by
    refine XS.aloadN X5.here hx rfl (hb hby own_d11_10) rfl rfl ?_
    exact Steps.refl _)
  obtain ⟨cq8, kq8, q8a, q8b, q8c⟩ := isOf hZ ee Ee
  obtain ⟨_, _, ⟨T8, L8, k8, n8⟩, -, X8, ⟨Lc8, hQ8, l8, y8, z8⟩, st8⟩ := X5.virtualBack hx (y := (⟨"java/lang/AbstractStringBuilder", "isLatin1", "()Z"⟩ : MethodName)) (z := (⟨"java/lang/AbstractStringBuilder", "isLatin1", "()Z"⟩ : MethodName)) hown (mvT hZ (hw _ (List.mem_of_getElem? (i := 71) rfl))) (mvT hZ (hw _ (List.mem_of_getElem? (i := 72) rfl))) (notFace_of_selects (args := #[]) (mvT hZ (hw _ (List.mem_of_getElem? (i := 74) rfl)))) (mvT hZ (hw _ (List.mem_of_getElem? (i := 74) rfl))) (mvT hZ (hw _ (List.mem_of_getElem? (i := 73) rfl))) (by decide) (backOf (W := 0) (own_abl l Z a0 hw [] a cs h0 n0 Z0 SC hcs O Cf) hZ (hw _ (List.mem_of_getElem? (i := 75) rfl)) (hw _ (List.mem_of_getElem? (i := 42) rfl)) (by decide) (by decide)) q8a q8c (g := (mkF m 11 #[.val (.ref a), .val (.int ch)] [(.ref a)])) rfl (by rw [hml]; rfl) (Steps.refl _) (argsL := []) (rest := []) (lenOf own_pd3 rfl) rfl (by show 2 * 0 + _ ≤ _; exact Nat.le_of_eq rfl) (hb hby own_d11_11) (fun _ _ => ⟨rfl, ee, (Nat.le_of_ble_eq_true rfl), (Nat.le_of_ble_eq_true rfl)⟩)
  dsimp only [Pt.U, Pt.locs, Pt.cells, Pt.slots] at X8 l8 y8 z8 st8 hQ8
  subst l8 y8 z8
  obtain ⟨rfl, N8q, ea⟩ := hQ8
  have N8 := Fr.app N5 N8q
  have c9 : Steps p.tables e below S0 (T8.setTop (mkF m 14 #[.val (.ref a), .val (.int ch)] [(.int (1 : Int32))])) := c7.trans (by
    refine st8.trans ?_
    exact Steps.refl _)
  have c10 : Steps p.tables e below S0 (T8.setTop (mkF m 17 #[.val (.ref a), .val (.int ch)] [])) := c9.trans (by
    refine XS.ifNo X8.here hx rfl (hb hby own_d11_14) rfl ((if0 _ _).trans (feq (by decide)).1) ?_
    exact Steps.refl _)
  have c11 : Steps p.tables e below S0 (T8.setTop (mkF m 18 #[.val (.ref a), .val (.int ch)] [(.int ch)])) := c10.trans (by
    refine XS.iloadN X8.here hx rfl (hb hby own_d11_17) rfl ?_
    exact Steps.refl _)
  obtain ⟨_, _, ⟨T12, L12, k12, n12⟩, -, X12, ⟨Lc12, hQ12, l12, y12, z12⟩, st12⟩ := Jvm.LawKit.callS X8 hx (y := (⟨"java/lang/StringLatin1", "canEncode", "(C)Z"⟩ : MethodName)) hown (mvT hZ (hw _ (List.mem_of_getElem? (i := 76) rfl))) (mvT hZ (hw _ (List.mem_of_getElem? (i := 77) rfl))) (mvT hZ (hw _ (List.mem_of_getElem? (i := 78) rfl))) (mvT hZ (hw _ (List.mem_of_getElem? (i := 79) rfl))) (by decide) (backOf (W := 0) (own_can l Z a0 hw [] ch h0 n0 Z0 (own_ch255 hc)) hZ (hw _ (List.mem_of_getElem? (i := 79) rfl)) (hw _ (List.mem_of_getElem? (i := 78) rfl)) (by decide) (by decide)) (g := (mkF m 18 #[.val (.ref a), .val (.int ch)] [(.int ch)])) rfl (by rw [hml]; rfl) (argsL := [(.int ch)]) (rest := []) (lenOf own_pd6 rfl) rfl (by show 2 * 0 + _ ≤ _; exact Nat.le_of_eq rfl) (hb hby own_d11_18) (fun _ _ => ⟨rfl, ea, (Nat.le_of_ble_eq_true rfl), (Nat.le_of_ble_eq_true rfl)⟩)
  dsimp only [Pt.U, Pt.locs, Pt.cells, Pt.slots] at X12 l12 y12 z12 st12 hQ12
  subst l12 y12 z12
  obtain ⟨rfl, N12q, ec⟩ := hQ12
  have N12 := Fr.app N8 N12q
  have c13 : Steps p.tables e below S0 (T12.setTop (mkF m 21 #[.val (.ref a), .val (.int ch)] [(.int (1 : Int32))])) := c11.trans (by
    refine st12 _ ?_
    exact Steps.refl _)
  have c14 : Steps p.tables e below S0 (T12.setTop (mkF m 24 #[.val (.ref a), .val (.int ch)] [])) := c13.trans (by
    refine XS.ifNo X12.here hx rfl (hb hby own_d11_21) rfl ((if0 _ _).trans (feq (by decide)).1) ?_
    exact Steps.refl _)
  have c15 : Steps p.tables e below S0 (T12.setTop (mkF m 25 #[.val (.ref a), .val (.int ch)] [(.ref a)])) := c14.trans (by
    refine XS.aloadN X12.here hx rfl (hb hby own_d11_24) rfl rfl ?_
    exact Steps.refl _)
  obtain ⟨T16, X16, e16, st16⟩ := getF X12 hx hZ hown (host := "") (Or.inl (hw _ (List.mem_of_getElem? (i := 48) rfl))) Via.refl ec Vf (g := (mkF m 25 #[.val (.ref a), .val (.int ch)] [(.ref a)])) rfl rfl (hb hby own_d11_25)
  have c17 : Steps p.tables e below S0 (T16.setTop (mkF m 28 #[.val (.ref a), .val (.int ch)] [(.ref b)])) := c15.trans (by
    refine st16 _ ?_
    exact Steps.refl _)
  have c18 : Steps p.tables e below S0 (T16.setTop (mkF m 30 #[.val (.ref a), .val (.int ch)] [(.ref a), (.ref a), (.ref b)])) := c17.trans (by
    refine XS.aloadN X16.here hx rfl (hb hby own_d11_28) rfl rfl ?_
    show Steps p.tables e below (T16.setTop (mkF m 29 #[.val (.ref a), .val (.int ch)] [(.ref a), (.ref b)])) _
    refine XS.dup X16.here hx rfl (hb hby own_d11_29) rfl rfl ?_
    exact Steps.refl _)
  obtain ⟨T19, X19, e19, st19⟩ := getF X16 hx hZ hown (host := "") (Or.inl (hw _ (List.mem_of_getElem? (i := 64) rfl))) Via.refl e16 Nf (g := (mkF m 30 #[.val (.ref a), .val (.int ch)] [(.ref a), (.ref a), (.ref b)])) rfl rfl (hb hby own_d11_30)
  have c20 : Steps p.tables e below S0 (T19.setTop (mkF m 33 #[.val (.ref a), .val (.int ch)] [(.int (0 : Int32)), (.ref a), (.ref b)])) := c18.trans (by
    refine st19 _ ?_
    exact Steps.refl _)
  have c21 : Steps p.tables e below S0 (T19.setTop (mkF m 36 #[.val (.ref a), .val (.int ch)] [(.int ((0 : Int32) + (1 : Int32))), (.ref a), (.int (0 : Int32)), (.ref b)])) := c20.trans (by
    refine XS.dupX1 X19.here hx rfl (hb hby own_d11_33) rfl rfl rfl ?_
    show Steps p.tables e below (T19.setTop (mkF m 34 #[.val (.ref a), .val (.int ch)] [(.int (0 : Int32)), (.ref a), (.int (0 : Int32)), (.ref b)])) _
    refine XS.iconst X19.here hx rfl (hb hby own_d11_34) ?_
    show Steps p.tables e below (T19.setTop (mkF m 35 #[.val (.ref a), .val (.int ch)] [(.int (1 : Int32)), (.int (0 : Int32)), (.ref a), (.int (0 : Int32)), (.ref b)])) _
    refine XS.iadd X19.here hx rfl (hb hby own_d11_35) rfl ?_
    exact Steps.refl _)
  obtain ⟨T22, h22, X22, e22, W22, st22⟩ := putF X19 hx hZ hown (host := "") (Or.inl (hw _ (List.mem_of_getElem? (i := 64) rfl))) Via.refl e19 Nf Ee (Or.inl (hw _ (List.mem_of_getElem? (i := 65) rfl))) (hw _ (List.mem_of_getElem? (i := 20) rfl)) (ty := .int) (by decide) rfl rfl (g := (mkF m 36 #[.val (.ref a), .val (.int ch)] [(.int ((0 : Int32) + (1 : Int32))), (.ref a), (.int (0 : Int32)), (.ref b)])) rfl rfl (hb hby own_d11_36)
  have c23 : Steps p.tables e below S0 (T22.setTop (mkF m 39 #[.val (.ref a), .val (.int ch)] [(.int (0 : Int32)), (.ref b)])) := c21.trans (by
    refine st22 _ ?_
    exact Steps.refl _)
  have f22_Ee := Ee.wr W22
  have f22_Vf := Vf.other W22 (Or.inr (slot_ne (Or.inl (hw _ (List.mem_of_getElem? (i := 49) rfl))) (Or.inl (hw _ (List.mem_of_getElem? (i := 65) rfl))) (by decide) (t := (.array .byte)) (t' := .int) (by decide) (by decide)))
  have f22_Cf := Cf.other W22 (Or.inr (slot_ne (Or.inl (hw _ (List.mem_of_getElem? (i := 51) rfl))) (Or.inl (hw _ (List.mem_of_getElem? (i := 65) rfl))) (by decide) (t := .byte) (t' := .int) (by decide) (by decide)))
  have f22_Av := Av.other W22 (Ne.symm hab)
  have f22_Eb := Eb.wr W22
  have K22 := K0.wr W22 (Or.inl (List.mem_of_getElem? (i := 0) rfl))
  have O22 := O.wr W22 ga
  have N22 := Fr.snoc X22 N12 ga
  have f22_Nf := Nf.same W22
  have c24 : Steps p.tables e below S0 (T22.setTop (mkF m 41 #[.val (.ref a), .val (.int ch)] [(.int (ch.toInt8.toInt32)), (.int (0 : Int32)), (.ref b)])) := c23.trans (by
    refine XS.iloadN X22.here hx rfl (hb hby own_d11_39) rfl ?_
    show Steps p.tables e below (T22.setTop (mkF m 40 #[.val (.ref a), .val (.int ch)] [(.int ch), (.int (0 : Int32)), (.ref b)])) _
    refine XS.i2b X22.here hx rfl (hb hby own_d11_40) rfl ?_
    exact Steps.refl _)
  obtain ⟨clx, Arx, q1x, Sx, q3x, Hx, Gx⟩ := f22_Av
  obtain ⟨T25, h25, X25, e25, W25, st25⟩ := stB X22 hx hZ e22 Arx (j := (0 : Int32)) (inb_of Sx (by decide)) (g := (mkF m 41 #[.val (.ref a), .val (.int ch)] [(.int (ch.toInt8.toInt32)), (.int (0 : Int32)), (.ref b)])) rfl rfl (hb hby own_d11_41)
  have c26 : Steps p.tables e below S0 (T25.setTop (mkF m 42 #[.val (.ref a), .val (.int ch)] [])) := c24.trans (by
    refine st25 _ ?_
    exact Steps.refl _)
  have f25_Ee := f22_Ee.wr W25
  have f25_Vf := f22_Vf.other W25 (Or.inl hab)
  have f25_Cf := f22_Cf.other W25 (Or.inl hab)
  have f25_Nf := f22_Nf.other W25 (Or.inl hab)
  have f25_Eb := f22_Eb.wr W25
  have K25 := K22.wr W25 (Or.inl (List.mem_of_getElem? (i := 1) rfl))
  have O25 := O22.wr W25 gb
  have N25 := Fr.snoc X25 N22 gb
  have av25 := Arv.set Arx q1x Sx q3x Hx Gx (fits_nar_byte _) W25 0 rfl (Nat.le_of_ble_eq_true rfl)
  have avx25 : Arv Z h25 b k .byte (2 : Int32) [.int ch, .int (0 : Int32)] (.int (0 : Int32)) := by
    have q := av25
    rw [own_chb2 hc] at q
    exact q
  have c27 : Steps p.tables e below S0 (T25.setTop (mkF m 76 #[.val (.ref a), .val (.int ch)] [(.ref a)])) := c26.trans (by
    refine XS.goto X25.here hx rfl (pc0 := 42) (pc' := 75) rfl (hb hby own_d11_42) (by decide) (by decide) ?_
    show Steps p.tables e below (T25.setTop (mkF m 75 #[.val (.ref a), .val (.int ch)] [])) _
    refine XS.aloadN X25.here hx rfl (hb hby own_d11_75) rfl rfl ?_
    exact Steps.refl _)
  obtain ⟨fs, hr, hrun, hended, hW, hsame⟩ := X25.leave (v := some (.ref a)) (fun h => by rw [Bd.returns] at h; cases h)
  exact ⟨_, _, c27.trans (retOut X25 hx (t := (.object "java/lang/AbstractStringBuilder")) (i := .areturn) Bd.returns rfl (Or.inr (Or.inr (Or.inr (Or.inr ⟨rfl, rfl, rfl⟩)))) (hb hby own_d11_76) hr), hrun, hended, _, _, rfl, (by rw [show (T25.setFrames fs).heap = h25 from e25]; exact ⟨rfl, N25, K25, f25_Ee, f25_Vf, f25_Cf, f25_Nf, avx25, f25_Eb⟩), ⟨_, rfl⟩, hW, hsame.mono (by decide) (by decide)⟩
theorem own_d12_0 : decode jdk_67_method_14_code 0 = .ok (.aload_n 0, 1) := by decide +kernel
theorem own_d12_1 : decode jdk_67_method_14_code 1 = .ok (.iload_n 1, 1) := by decide +kernel
theorem own_d12_2 : decode jdk_67_method_14_code 2 = .ok (.invokespecial 50, 3) := by decide +kernel
theorem own_d12_5 : decode jdk_67_method_14_code 5 = .ok (.pop, 1) := by decide +kernel
theorem own_d12_6 : decode jdk_67_method_14_code 6 = .ok (.aload_n 0, 1) := by decide +kernel
theorem own_d12_7 : decode jdk_67_method_14_code 7 = .ok (.areturn, 1) := by decide +kernel
theorem own_aps0_pn : plainName "java/lang/StringBuilder" = true := by first | (simp [plainName, overriddenIn]; done) | decide +kernel
theorem own_aps0_ef (m : MethodId) (a : Addr) (ch : Int32) : entryFrame m #[(.ref a), (.int ch)] 2 = mkF m 0 #[.val (.ref a), .val (.int ch)] [] := by first | (simp [entryFrame, mkF, argsToLocals, Value.category]; done) | rfl
def own_aps0_Q (Z : State) (a : Addr) (ch : Int32) (cs : Int32) (b : Addr) (k : ClassId) (h0 : Heap) (n0 : Nat) (v : Option Value) (h : Heap) (L : List Loc) : Prop := v = some (.ref a) ∧ Fr n0 L ∧ Keep h0 h [a, b] ∧ Exa Z h a "java/lang/StringBuilder" ∧ Fld Z h a "java/lang/AbstractStringBuilder" "value" "[B" (.ref b) ∧ Fld Z h a "java/lang/AbstractStringBuilder" "coder" "B" (.int (0 : Int32)) ∧ Fld Z h a "java/lang/AbstractStringBuilder" "count" "I" (.int (1 : Int32)) ∧ Arv Z h b k .byte (2 : Int32) [.int ch, .int (0 : Int32)] (.int (0 : Int32)) ∧ Exa Z h b "[B"
set_option maxRecDepth 65536 in
set_option maxHeartbeats 40000000 in
theorem own_aps0 (l : Launch) (Z : State) (a0 : Array Value) (hw : ∀ d ∈ tables_1, d.before a0 Z = true) (ws : List Jvm.Cond) (a : Addr) (ch : Int32) (cs : Int32) (b : Addr) (k : ClassId) (h0 : Heap) (n0 : Nat) (Z0 : n0 ≤ h0.size) (SC : Sta Z Z.heap "java/lang/String" "COMPACT_STRINGS" "Z" (.int cs)) (hcs : ¬ cs = 0) (O : Old Z n0 h0) (Ee : Exa Z h0 a "java/lang/StringBuilder") (Vf : Fld Z h0 a "java/lang/AbstractStringBuilder" "value" "[B" (.ref b)) (Cf : Fld Z h0 a "java/lang/AbstractStringBuilder" "coder" "B" (.int (0 : Int32))) (Nf : Fld Z h0 a "java/lang/AbstractStringBuilder" "count" "I" (.int (0 : Int32))) (Av : Arv Z h0 b k .byte (2 : Int32) [.int (0 : Int32), .int (0 : Int32)] (.int (0 : Int32))) (Eb : Exa Z h0 b "[B") (hab : a ≠ b) (ga : n0 ≤ a) (gb : n0 ≤ b) (hc : own_ch ch) :
    MetFree l (⟨"java/lang/StringBuilder", "append", "(C)Ljava/lang/StringBuilder;"⟩ : MethodName) (head1 (Jvm.Cond.code (⟨"java/lang/StringBuilder", "append", "(C)Ljava/lang/StringBuilder;"⟩ : MethodName) jdk_67_method_14_code 2 (some (.object "java/lang/StringBuilder")) :: ws) ({ frames := 2, cells := 0, slots := 0, locals := 30 } : Room)) (fun ars U => ars = #[(.ref a), (.int ch)] ∧ Z.Warmed39 U.vm ∧ U.heap = h0) (fun _ _ _ _ _ => True) (fun _ U o U' => ∃ v L, o = .returned v ∧ own_aps0_Q Z a ch cs b k h0 n0 v U'.heap L ∧ FrameEnd U o U' L ({ frames := 2, cells := 0, slots := 0, locals := 30 } : Room).cells ({ frames := 2, cells := 0, slots := 0, locals := 30 } : Room).slots) := by
  refine MetFree.of_bodySF (plainFor_of_name own_aps0_pn) hisR ?_
  intro p e s m args below meth c s₁ Bd hml0 hP hK
  obtain ⟨rfl, hZ, hh⟩ := hP
  have hx := Bd.exec
  have hby := Bd.bytes
  have hml : c.maxLocals = 2 := hml0
  have hown : s.vm.findClass "java/lang/StringBuilder" = some m.cls := findClass_of_methodNamed Bd.named
  have hnm := (name_of_methodNamed Bd.named Bd.method).1
  have X0 : Stand p l e ({ frames := 2, cells := 0, slots := 0, locals := 30 } : Room) s m #[(.ref a), (.int ch)] below meth c s₁ [] 0 0 := Stand.of_body Bd
  have e0 : s₁.heap = h0 := by rw [← hh, Bd.state]; rfl
  have N0 := Fr.nil n0
  generalize hS0 : s₁.setTop (entryFrame m #[(.ref a), (.int ch)] 2) = S0
  have c0 : Steps p.tables e below S0 (s₁.setTop (mkF m 0 #[.val (.ref a), .val (.int ch)] [])) := by rw [← hS0]; exact castTop (own_aps0_ef m a ch) (Steps.refl _)
  have K0 : Keep h0 h0 [a, b] := Keep.refl _ _
  have c1 : Steps p.tables e below S0 (s₁.setTop (mkF m 2 #[.val (.ref a), .val (.int ch)] [(.int ch), (.ref a)])) := c0.trans (by
    refine XS.aloadN X0.here hx rfl (hb hby own_d12_0) rfl rfl ?_
    show Steps p.tables e below (s₁.setTop (mkF m 1 #[.val (.ref a), .val (.int ch)] [(.ref a)])) _
    refine XS.iloadN X0.here hx rfl (hb hby own_d12_1) rfl ?_
    exact Steps.refl _)
  obtain ⟨_, _, ⟨T2, L2, k2, n2⟩, -, X2, ⟨Lc2, hQ2, l2, y2, z2⟩, st2⟩ := superBack X0 hx hZ (y := (⟨"java/lang/AbstractStringBuilder", "append", "(C)Ljava/lang/AbstractStringBuilder;"⟩ : MethodName)) hown (hw _ (List.mem_of_getElem? (i := 59) rfl)) (own_samem (hw _ (List.mem_of_getElem? (i := 60) rfl)) (own_nf (y := (⟨"java/lang/AbstractStringBuilder", "isLatin1", "()Z"⟩ : MethodName)) rfl (notFace_of_selects (hw _ (List.mem_of_getElem? (i := 74) rfl))) (hw _ (List.mem_of_getElem? (i := 73) rfl))) (by decide)) (hw _ (List.mem_of_getElem? (i := 60) rfl)) (hw _ (List.mem_of_getElem? (i := 61) rfl)) (by decide) (backOf (W := 0) (own_apa0 l Z a0 hw [] a ch cs b k h0 n0 Z0 SC hcs O Ee Vf Cf Nf Av Eb hab ga gb hc) hZ (hw _ (List.mem_of_getElem? (i := 63) rfl)) (hw _ (List.mem_of_getElem? (i := 42) rfl)) (by decide) (by decide)) e0 (Ins.self Ee) (g := (mkF m 2 #[.val (.ref a), .val (.int ch)] [(.int ch), (.ref a)])) rfl (by rw [hml]; rfl) (hw _ (List.mem_of_getElem? (i := 63) rfl)) (argsL := [(.int ch)]) (rest := []) (lenOf own_pd7 rfl) rfl (by show 2 * 0 + _ ≤ _; exact Nat.le_of_eq rfl) (hb hby own_d12_2) (fun _ _ => ⟨rfl, e0, (Nat.le_of_ble_eq_true rfl), (Nat.le_of_ble_eq_true rfl)⟩)
  dsimp only [Pt.U, Pt.locs, Pt.cells, Pt.slots] at X2 l2 y2 z2 st2 hQ2
  subst l2 y2 z2
  obtain ⟨rfl, N2q, Kq, Ee, Vf, Cf, Nf, Av, Eb⟩ := hQ2
  have N2 := Fr.app N0 N2q
  have c3 : Steps p.tables e below S0 (T2.setTop (mkF m 5 #[.val (.ref a), .val (.int ch)] [(.ref a)])) := c1.trans (by
    refine st2.trans ?_
    exact Steps.refl _)
  have c4 : Steps p.tables e below S0 (T2.setTop (mkF m 7 #[.val (.ref a), .val (.int ch)] [(.ref a)])) := c3.trans (by
    refine XS.pop X2.here hx rfl (hb hby own_d12_5) rfl rfl ?_
    show Steps p.tables e below (T2.setTop (mkF m 6 #[.val (.ref a), .val (.int ch)] [])) _
    refine XS.aloadN X2.here hx rfl (hb hby own_d12_6) rfl rfl ?_
    exact Steps.refl _)
  obtain ⟨fs, hr, hrun, hended, hW, hsame⟩ := X2.leave (v := some (.ref a)) (fun h => by rw [Bd.returns] at h; cases h)
  exact ⟨_, _, c4.trans (retOut X2 hx (t := (.object "java/lang/StringBuilder")) (i := .areturn) Bd.returns rfl (Or.inr (Or.inr (Or.inr (Or.inr ⟨rfl, rfl, rfl⟩)))) (hb hby own_d12_7) hr), hrun, hended, _, _, rfl, ⟨rfl, N2, Kq, Ee, Vf, Cf, Nf, Av, Eb⟩, ⟨_, rfl⟩, hW, hsame.mono (by decide) (by decide)⟩
theorem own_apa1_pn : plainName "java/lang/AbstractStringBuilder" = true := by first | (simp [plainName, overriddenIn]; done) | decide +kernel
theorem own_apa1_ef (m : MethodId) (a : Addr) (ch : Int32) : entryFrame m #[(.ref a), (.int ch)] 2 = mkF m 0 #[.val (.ref a), .val (.int ch)] [] := by first | (simp [entryFrame, mkF, argsToLocals, Value.category]; done) | rfl
def own_apa1_Q (Z : State) (a : Addr) (ch : Int32) (cs : Int32) (b : Addr) (k : ClassId) (h0 : Heap) (n0 : Nat) (v : Option Value) (h : Heap) (L : List Loc) : Prop := v = some (.ref a) ∧ Fr n0 L ∧ Keep h0 h [a, b] ∧ Exa Z h a "java/lang/StringBuilder" ∧ Fld Z h a "java/lang/AbstractStringBuilder" "value" "[B" (.ref b) ∧ Fld Z h a "java/lang/AbstractStringBuilder" "coder" "B" (.int (0 : Int32)) ∧ Fld Z h a "java/lang/AbstractStringBuilder" "count" "I" (.int (2 : Int32)) ∧ Arv Z h b k .byte (2 : Int32) [.int ch, .int ch] (.int (0 : Int32)) ∧ Exa Z h b "[B"
set_option maxRecDepth 65536 in
set_option maxHeartbeats 40000000 in
theorem own_apa1 (l : Launch) (Z : State) (a0 : Array Value) (hw : ∀ d ∈ tables_1, d.before a0 Z = true) (ws : List Jvm.Cond) (a : Addr) (ch : Int32) (cs : Int32) (b : Addr) (k : ClassId) (h0 : Heap) (n0 : Nat) (Z0 : n0 ≤ h0.size) (SC : Sta Z Z.heap "java/lang/String" "COMPACT_STRINGS" "Z" (.int cs)) (hcs : ¬ cs = 0) (O : Old Z n0 h0) (Ee : Exa Z h0 a "java/lang/StringBuilder") (Vf : Fld Z h0 a "java/lang/AbstractStringBuilder" "value" "[B" (.ref b)) (Cf : Fld Z h0 a "java/lang/AbstractStringBuilder" "coder" "B" (.int (0 : Int32))) (Nf : Fld Z h0 a "java/lang/AbstractStringBuilder" "count" "I" (.int (1 : Int32))) (Av : Arv Z h0 b k .byte (2 : Int32) [.int ch, .int (0 : Int32)] (.int (0 : Int32))) (Eb : Exa Z h0 b "[B") (hab : a ≠ b) (ga : n0 ≤ a) (gb : n0 ≤ b) (hc : own_ch ch) :
    MetFree l (⟨"java/lang/AbstractStringBuilder", "append", "(C)Ljava/lang/AbstractStringBuilder;"⟩ : MethodName) (head1 (Jvm.Cond.code (⟨"java/lang/AbstractStringBuilder", "append", "(C)Ljava/lang/AbstractStringBuilder;"⟩ : MethodName) jdk_68_method_31_code 2 (some (.object "java/lang/AbstractStringBuilder")) :: ws) ({ frames := 1, cells := 0, slots := 0, locals := 16 } : Room)) (fun ars U => ars = #[(.ref a), (.int ch)] ∧ Z.Warmed39 U.vm ∧ U.heap = h0) (fun _ _ _ _ _ => True) (fun _ U o U' => ∃ v L, o = .returned v ∧ own_apa1_Q Z a ch cs b k h0 n0 v U'.heap L ∧ FrameEnd U o U' L ({ frames := 1, cells := 0, slots := 0, locals := 16 } : Room).cells ({ frames := 1, cells := 0, slots := 0, locals := 16 } : Room).slots) := by
  refine MetFree.of_bodySF (plainFor_of_name own_apa1_pn) hisR ?_
  intro p e s m args below meth c s₁ Bd hml0 hP hK
  obtain ⟨rfl, hZ, hh⟩ := hP
  have hx := Bd.exec
  have hby := Bd.bytes
  have hml : c.maxLocals = 2 := hml0
  have hown : s.vm.findClass "java/lang/AbstractStringBuilder" = some m.cls := findClass_of_methodNamed Bd.named
  have hnm := (name_of_methodNamed Bd.named Bd.method).1
  have X0 : Stand p l e ({ frames := 1, cells := 0, slots := 0, locals := 16 } : Room) s m #[(.ref a), (.int ch)] below meth c s₁ [] 0 0 := Stand.of_body Bd
  have e0 : s₁.heap = h0 := by rw [← hh, Bd.state]; rfl
  have N0 := Fr.nil n0
  generalize hS0 : s₁.setTop (entryFrame m #[(.ref a), (.int ch)] 2) = S0
  have c0 : Steps p.tables e below S0 (s₁.setTop (mkF m 0 #[.val (.ref a), .val (.int ch)] [])) := by rw [← hS0]; exact castTop (own_apa1_ef m a ch) (Steps.refl _)
  have K0 : Keep h0 h0 [a, b] := Keep.refl _ _
  have c1 : Steps p.tables e below S0 (s₁.setTop (mkF m 2 #[.val (.ref a), .val (.int ch)] [(.ref a), (.ref a)])) := c0.trans (by
    refine XS.aloadN X0.here hx rfl (hb hby own_d11_0) rfl rfl ?_
    show Steps p.tables e below (s₁.setTop (mkF m 1 #[.val (.ref a), .val (.int ch)] [(.ref a)])) _
    refine XS.aloadN X0.here hx rfl (hb hby own_d11_1) rfl rfl ?_
    exact Steps.refl _)
  obtain ⟨T2, X2, e2, st2⟩ := getF X0 hx hZ hown (host := "") (Or.inl (hw _ (List.mem_of_getElem? (i := 64) rfl))) Via.refl e0 Nf (g := (mkF m 2 #[.val (.ref a), .val (.int ch)] [(.ref a), (.ref a)])) rfl rfl (hb hby own_d11_2)
  have c3 : Steps p.tables e below S0 (T2.setTop (mkF m 5 #[.val (.ref a), .val (.int ch)] [(.int (1 : Int32)), (.ref a)])) := c1.trans (by
    refine st2 _ ?_
    exact Steps.refl _)
  have c4 : Steps p.tables e below S0 (T2.setTop (mkF m 7 #[.val (.ref a), .val (.int ch)] [(.int ((1 : Int32) + (1 : Int32))), (.ref a)])) := c3.trans (by
    refine XS.iconst X2.here hx rfl (hb hby own_d11_5) ?_
    show Steps p.tables e below (T2.setTop (mkF m 6 #[.val (.ref a), .val (.int ch)] [(.int (1 : Int32)), (.int (1 : Int32)), (.ref a)])) _
    refine XS.iadd X2.here hx rfl (hb hby own_d11_6) rfl ?_
    exact Steps.refl _)
  obtain ⟨cq5, q5, q5'⟩ := Ee.cell
  obtain ⟨_, _, ⟨T5, L5, k5, n5⟩, -, X5, ⟨Lc5, hQ5, l5, y5, z5⟩, st5⟩ := X2.privateBack hx (y := (⟨"java/lang/AbstractStringBuilder", "ensureCapacityInternal", "(I)V"⟩ : MethodName)) hown (mvT hZ (hw _ (List.mem_of_getElem? (i := 66) rfl))) (mvT hZ (hw _ (List.mem_of_getElem? (i := 67) rfl))) (own_selp (mvT hZ (hw _ (List.mem_of_getElem? (i := 69) rfl))) (mvT hZ (hw _ (List.mem_of_getElem? (i := 67) rfl))) (Cond.privateMethod_at (mvP hZ (hw _ (List.mem_of_getElem? (i := 68) rfl)) (args := #[]))) (by decide)) (Cond.privateMethod_at (mvP hZ (hw _ (List.mem_of_getElem? (i := 68) rfl)) (args := #[]))) (mvT hZ (hw _ (List.mem_of_getElem? (i := 70) rfl))) (by decide) (backOf (W := 0) (own_ens l Z a0 hw [] a ((1 : Int32) + 1) b k _ h0 n0 Z0 Cf Vf Av (by decide)) hZ (hw _ (List.mem_of_getElem? (i := 70) rfl)) (hw _ (List.mem_of_getElem? (i := 42) rfl)) (by decide) (by decide)) (g := (mkF m 7 #[.val (.ref a), .val (.int ch)] [(.int ((1 : Int32) + (1 : Int32))), (.ref a)])) rfl (by rw [hml]; rfl) (Steps.refl _) (a := a) (by rw [e2]; exact q5) q5' (argsL := [(.int ((1 : Int32) + (1 : Int32)))]) (rest := []) (lenOf own_pd5 rfl) rfl (by show 2 * 0 + _ ≤ _; exact Nat.le_of_eq rfl) (hb hby own_d11_7) (fun _ _ => ⟨rfl, e2, (Nat.le_of_ble_eq_true rfl), (Nat.le_of_ble_eq_true rfl)⟩)
  dsimp only [Pt.U, Pt.locs, Pt.cells, Pt.slots] at X5 l5 y5 z5 st5 hQ5
  subst l5 y5 z5
  obtain ⟨rfl, N5q, ee⟩ := hQ5
  have N5 := Fr.app N0 N5q
  have c6 : Steps p.tables e below S0 (T5.setTop (mkF m 10 #[.val (.ref a), .val (.int ch)] [])) := c4.trans (by
    refine st5.trans ?_
    exact Steps.refl _)
  have c7 : Steps p.tables e below S0 (T5.setTop (mkF m 11 #[.val (.ref a), .val (.int ch)] [(.ref a)])) := c6.trans (by
    refine XS.aloadN X5.here hx rfl (hb hby own_d11_10) rfl rfl ?_
    exact Steps.refl _)
  obtain ⟨cq8, kq8, q8a, q8b, q8c⟩ := isOf hZ ee Ee
  obtain ⟨_, _, ⟨T8, L8, k8, n8⟩, -, X8, ⟨Lc8, hQ8, l8, y8, z8⟩, st8⟩ := X5.virtualBack hx (y := (⟨"java/lang/AbstractStringBuilder", "isLatin1", "()Z"⟩ : MethodName)) (z := (⟨"java/lang/AbstractStringBuilder", "isLatin1", "()Z"⟩ : MethodName)) hown (mvT hZ (hw _ (List.mem_of_getElem? (i := 71) rfl))) (mvT hZ (hw _ (List.mem_of_getElem? (i := 72) rfl))) (notFace_of_selects (args := #[]) (mvT hZ (hw _ (List.mem_of_getElem? (i := 74) rfl)))) (mvT hZ (hw _ (List.mem_of_getElem? (i := 74) rfl))) (mvT hZ (hw _ (List.mem_of_getElem? (i := 73) rfl))) (by decide) (backOf (W := 0) (own_abl l Z a0 hw [] a cs h0 n0 Z0 SC hcs O Cf) hZ (hw _ (List.mem_of_getElem? (i := 75) rfl)) (hw _ (List.mem_of_getElem? (i := 42) rfl)) (by decide) (by decide)) q8a q8c (g := (mkF m 11 #[.val (.ref a), .val (.int ch)] [(.ref a)])) rfl (by rw [hml]; rfl) (Steps.refl _) (argsL := []) (rest := []) (lenOf own_pd3 rfl) rfl (by show 2 * 0 + _ ≤ _; exact Nat.le_of_eq rfl) (hb hby own_d11_11) (fun _ _ => ⟨rfl, ee, (Nat.le_of_ble_eq_true rfl), (Nat.le_of_ble_eq_true rfl)⟩)
  dsimp only [Pt.U, Pt.locs, Pt.cells, Pt.slots] at X8 l8 y8 z8 st8 hQ8
  subst l8 y8 z8
  obtain ⟨rfl, N8q, ea⟩ := hQ8
  have N8 := Fr.app N5 N8q
  have c9 : Steps p.tables e below S0 (T8.setTop (mkF m 14 #[.val (.ref a), .val (.int ch)] [(.int (1 : Int32))])) := c7.trans (by
    refine st8.trans ?_
    exact Steps.refl _)
  have c10 : Steps p.tables e below S0 (T8.setTop (mkF m 17 #[.val (.ref a), .val (.int ch)] [])) := c9.trans (by
    refine XS.ifNo X8.here hx rfl (hb hby own_d11_14) rfl ((if0 _ _).trans (feq (by decide)).1) ?_
    exact Steps.refl _)
  have c11 : Steps p.tables e below S0 (T8.setTop (mkF m 18 #[.val (.ref a), .val (.int ch)] [(.int ch)])) := c10.trans (by
    refine XS.iloadN X8.here hx rfl (hb hby own_d11_17) rfl ?_
    exact Steps.refl _)
  obtain ⟨_, _, ⟨T12, L12, k12, n12⟩, -, X12, ⟨Lc12, hQ12, l12, y12, z12⟩, st12⟩ := Jvm.LawKit.callS X8 hx (y := (⟨"java/lang/StringLatin1", "canEncode", "(C)Z"⟩ : MethodName)) hown (mvT hZ (hw _ (List.mem_of_getElem? (i := 76) rfl))) (mvT hZ (hw _ (List.mem_of_getElem? (i := 77) rfl))) (mvT hZ (hw _ (List.mem_of_getElem? (i := 78) rfl))) (mvT hZ (hw _ (List.mem_of_getElem? (i := 79) rfl))) (by decide) (backOf (W := 0) (own_can l Z a0 hw [] ch h0 n0 Z0 (own_ch255 hc)) hZ (hw _ (List.mem_of_getElem? (i := 79) rfl)) (hw _ (List.mem_of_getElem? (i := 78) rfl)) (by decide) (by decide)) (g := (mkF m 18 #[.val (.ref a), .val (.int ch)] [(.int ch)])) rfl (by rw [hml]; rfl) (argsL := [(.int ch)]) (rest := []) (lenOf own_pd6 rfl) rfl (by show 2 * 0 + _ ≤ _; exact Nat.le_of_eq rfl) (hb hby own_d11_18) (fun _ _ => ⟨rfl, ea, (Nat.le_of_ble_eq_true rfl), (Nat.le_of_ble_eq_true rfl)⟩)
  dsimp only [Pt.U, Pt.locs, Pt.cells, Pt.slots] at X12 l12 y12 z12 st12 hQ12
  subst l12 y12 z12
  obtain ⟨rfl, N12q, ec⟩ := hQ12
  have N12 := Fr.app N8 N12q
  have c13 : Steps p.tables e below S0 (T12.setTop (mkF m 21 #[.val (.ref a), .val (.int ch)] [(.int (1 : Int32))])) := c11.trans (by
    refine st12 _ ?_
    exact Steps.refl _)
  have c14 : Steps p.tables e below S0 (T12.setTop (mkF m 24 #[.val (.ref a), .val (.int ch)] [])) := c13.trans (by
    refine XS.ifNo X12.here hx rfl (hb hby own_d11_21) rfl ((if0 _ _).trans (feq (by decide)).1) ?_
    exact Steps.refl _)
  have c15 : Steps p.tables e below S0 (T12.setTop (mkF m 25 #[.val (.ref a), .val (.int ch)] [(.ref a)])) := c14.trans (by
    refine XS.aloadN X12.here hx rfl (hb hby own_d11_24) rfl rfl ?_
    exact Steps.refl _)
  obtain ⟨T16, X16, e16, st16⟩ := getF X12 hx hZ hown (host := "") (Or.inl (hw _ (List.mem_of_getElem? (i := 48) rfl))) Via.refl ec Vf (g := (mkF m 25 #[.val (.ref a), .val (.int ch)] [(.ref a)])) rfl rfl (hb hby own_d11_25)
  have c17 : Steps p.tables e below S0 (T16.setTop (mkF m 28 #[.val (.ref a), .val (.int ch)] [(.ref b)])) := c15.trans (by
    refine st16 _ ?_
    exact Steps.refl _)
  have c18 : Steps p.tables e below S0 (T16.setTop (mkF m 30 #[.val (.ref a), .val (.int ch)] [(.ref a), (.ref a), (.ref b)])) := c17.trans (by
    refine XS.aloadN X16.here hx rfl (hb hby own_d11_28) rfl rfl ?_
    show Steps p.tables e below (T16.setTop (mkF m 29 #[.val (.ref a), .val (.int ch)] [(.ref a), (.ref b)])) _
    refine XS.dup X16.here hx rfl (hb hby own_d11_29) rfl rfl ?_
    exact Steps.refl _)
  obtain ⟨T19, X19, e19, st19⟩ := getF X16 hx hZ hown (host := "") (Or.inl (hw _ (List.mem_of_getElem? (i := 64) rfl))) Via.refl e16 Nf (g := (mkF m 30 #[.val (.ref a), .val (.int ch)] [(.ref a), (.ref a), (.ref b)])) rfl rfl (hb hby own_d11_30)
  have c20 : Steps p.tables e below S0 (T19.setTop (mkF m 33 #[.val (.ref a), .val (.int ch)] [(.int (1 : Int32)), (.ref a), (.ref b)])) := c18.trans (by
    refine st19 _ ?_
    exact Steps.refl _)
  have c21 : Steps p.tables e below S0 (T19.setTop (mkF m 36 #[.val (.ref a), .val (.int ch)] [(.int ((1 : Int32) + (1 : Int32))), (.ref a), (.int (1 : Int32)), (.ref b)])) := c20.trans (by
    refine XS.dupX1 X19.here hx rfl (hb hby own_d11_33) rfl rfl rfl ?_
    show Steps p.tables e below (T19.setTop (mkF m 34 #[.val (.ref a), .val (.int ch)] [(.int (1 : Int32)), (.ref a), (.int (1 : Int32)), (.ref b)])) _
    refine XS.iconst X19.here hx rfl (hb hby own_d11_34) ?_
    show Steps p.tables e below (T19.setTop (mkF m 35 #[.val (.ref a), .val (.int ch)] [(.int (1 : Int32)), (.int (1 : Int32)), (.ref a), (.int (1 : Int32)), (.ref b)])) _
    refine XS.iadd X19.here hx rfl (hb hby own_d11_35) rfl ?_
    exact Steps.refl _)
  obtain ⟨T22, h22, X22, e22, W22, st22⟩ := putF X19 hx hZ hown (host := "") (Or.inl (hw _ (List.mem_of_getElem? (i := 64) rfl))) Via.refl e19 Nf Ee (Or.inl (hw _ (List.mem_of_getElem? (i := 65) rfl))) (hw _ (List.mem_of_getElem? (i := 20) rfl)) (ty := .int) (by decide) rfl rfl (g := (mkF m 36 #[.val (.ref a), .val (.int ch)] [(.int ((1 : Int32) + (1 : Int32))), (.ref a), (.int (1 : Int32)), (.ref b)])) rfl rfl (hb hby own_d11_36)
  have c23 : Steps p.tables e below S0 (T22.setTop (mkF m 39 #[.val (.ref a), .val (.int ch)] [(.int (1 : Int32)), (.ref b)])) := c21.trans (by
    refine st22 _ ?_
    exact Steps.refl _)
  have f22_Ee := Ee.wr W22
  have f22_Vf := Vf.other W22 (Or.inr (slot_ne (Or.inl (hw _ (List.mem_of_getElem? (i := 49) rfl))) (Or.inl (hw _ (List.mem_of_getElem? (i := 65) rfl))) (by decide) (t := (.array .byte)) (t' := .int) (by decide) (by decide)))
  have f22_Cf := Cf.other W22 (Or.inr (slot_ne (Or.inl (hw _ (List.mem_of_getElem? (i := 51) rfl))) (Or.inl (hw _ (List.mem_of_getElem? (i := 65) rfl))) (by decide) (t := .byte) (t' := .int) (by decide) (by decide)))
  have f22_Av := Av.other W22 (Ne.symm hab)
  have f22_Eb := Eb.wr W22
  have K22 := K0.wr W22 (Or.inl (List.mem_of_getElem? (i := 0) rfl))
  have O22 := O.wr W22 ga
  have N22 := Fr.snoc X22 N12 ga
  have f22_Nf := Nf.same W22
  have c24 : Steps p.tables e below S0 (T22.setTop (mkF m 41 #[.val (.ref a), .val (.int ch)] [(.int (ch.toInt8.toInt32)), (.int (1 : Int32)), (.ref b)])) := c23.trans (by
    refine XS.iloadN X22.here hx rfl (hb hby own_d11_39) rfl ?_
    show Steps p.tables e below (T22.setTop (mkF m 40 #[.val (.ref a), .val (.int ch)] [(.int ch), (.int (1 : Int32)), (.ref b)])) _
    refine XS.i2b X22.here hx rfl (hb hby own_d11_40) rfl ?_
    exact Steps.refl _)
  obtain ⟨clx, Arx, q1x, Sx, q3x, Hx, Gx⟩ := f22_Av
  obtain ⟨T25, h25, X25, e25, W25, st25⟩ := stB X22 hx hZ e22 Arx (j := (1 : Int32)) (inb_of Sx (by decide)) (g := (mkF m 41 #[.val (.ref a), .val (.int ch)] [(.int (ch.toInt8.toInt32)), (.int (1 : Int32)), (.ref b)])) rfl rfl (hb hby own_d11_41)
  have c26 : Steps p.tables e below S0 (T25.setTop (mkF m 42 #[.val (.ref a), .val (.int ch)] [])) := c24.trans (by
    refine st25 _ ?_
    exact Steps.refl _)
  have f25_Ee := f22_Ee.wr W25
  have f25_Vf := f22_Vf.other W25 (Or.inl hab)
  have f25_Cf := f22_Cf.other W25 (Or.inl hab)
  have f25_Nf := f22_Nf.other W25 (Or.inl hab)
  have f25_Eb := f22_Eb.wr W25
  have K25 := K22.wr W25 (Or.inl (List.mem_of_getElem? (i := 1) rfl))
  have O25 := O22.wr W25 gb
  have N25 := Fr.snoc X25 N22 gb
  have av25 := Arv.set Arx q1x Sx q3x Hx Gx (fits_nar_byte _) W25 1 rfl (Nat.le_of_ble_eq_true rfl)
  have avx25 : Arv Z h25 b k .byte (2 : Int32) [.int ch, .int ch] (.int (0 : Int32)) := by
    have q := av25
    rw [own_chb2 hc] at q
    exact q
  have c27 : Steps p.tables e below S0 (T25.setTop (mkF m 76 #[.val (.ref a), .val (.int ch)] [(.ref a)])) := c26.trans (by
    refine XS.goto X25.here hx rfl (pc0 := 42) (pc' := 75) rfl (hb hby own_d11_42) (by decide) (by decide) ?_
    show Steps p.tables e below (T25.setTop (mkF m 75 #[.val (.ref a), .val (.int ch)] [])) _
    refine XS.aloadN X25.here hx rfl (hb hby own_d11_75) rfl rfl ?_
    exact Steps.refl _)
  obtain ⟨fs, hr, hrun, hended, hW, hsame⟩ := X25.leave (v := some (.ref a)) (fun h => by rw [Bd.returns] at h; cases h)
  exact ⟨_, _, c27.trans (retOut X25 hx (t := (.object "java/lang/AbstractStringBuilder")) (i := .areturn) Bd.returns rfl (Or.inr (Or.inr (Or.inr (Or.inr ⟨rfl, rfl, rfl⟩)))) (hb hby own_d11_76) hr), hrun, hended, _, _, rfl, (by rw [show (T25.setFrames fs).heap = h25 from e25]; exact ⟨rfl, N25, K25, f25_Ee, f25_Vf, f25_Cf, f25_Nf, avx25, f25_Eb⟩), ⟨_, rfl⟩, hW, hsame.mono (by decide) (by decide)⟩
theorem own_aps1_pn : plainName "java/lang/StringBuilder" = true := by first | (simp [plainName, overriddenIn]; done) | decide +kernel
theorem own_aps1_ef (m : MethodId) (a : Addr) (ch : Int32) : entryFrame m #[(.ref a), (.int ch)] 2 = mkF m 0 #[.val (.ref a), .val (.int ch)] [] := by first | (simp [entryFrame, mkF, argsToLocals, Value.category]; done) | rfl
def own_aps1_Q (Z : State) (a : Addr) (ch : Int32) (cs : Int32) (b : Addr) (k : ClassId) (h0 : Heap) (n0 : Nat) (v : Option Value) (h : Heap) (L : List Loc) : Prop := v = some (.ref a) ∧ Fr n0 L ∧ Keep h0 h [a, b] ∧ Exa Z h a "java/lang/StringBuilder" ∧ Fld Z h a "java/lang/AbstractStringBuilder" "value" "[B" (.ref b) ∧ Fld Z h a "java/lang/AbstractStringBuilder" "coder" "B" (.int (0 : Int32)) ∧ Fld Z h a "java/lang/AbstractStringBuilder" "count" "I" (.int (2 : Int32)) ∧ Arv Z h b k .byte (2 : Int32) [.int ch, .int ch] (.int (0 : Int32)) ∧ Exa Z h b "[B"
set_option maxRecDepth 65536 in
set_option maxHeartbeats 40000000 in
theorem own_aps1 (l : Launch) (Z : State) (a0 : Array Value) (hw : ∀ d ∈ tables_1, d.before a0 Z = true) (ws : List Jvm.Cond) (a : Addr) (ch : Int32) (cs : Int32) (b : Addr) (k : ClassId) (h0 : Heap) (n0 : Nat) (Z0 : n0 ≤ h0.size) (SC : Sta Z Z.heap "java/lang/String" "COMPACT_STRINGS" "Z" (.int cs)) (hcs : ¬ cs = 0) (O : Old Z n0 h0) (Ee : Exa Z h0 a "java/lang/StringBuilder") (Vf : Fld Z h0 a "java/lang/AbstractStringBuilder" "value" "[B" (.ref b)) (Cf : Fld Z h0 a "java/lang/AbstractStringBuilder" "coder" "B" (.int (0 : Int32))) (Nf : Fld Z h0 a "java/lang/AbstractStringBuilder" "count" "I" (.int (1 : Int32))) (Av : Arv Z h0 b k .byte (2 : Int32) [.int ch, .int (0 : Int32)] (.int (0 : Int32))) (Eb : Exa Z h0 b "[B") (hab : a ≠ b) (ga : n0 ≤ a) (gb : n0 ≤ b) (hc : own_ch ch) :
    MetFree l (⟨"java/lang/StringBuilder", "append", "(C)Ljava/lang/StringBuilder;"⟩ : MethodName) (head1 (Jvm.Cond.code (⟨"java/lang/StringBuilder", "append", "(C)Ljava/lang/StringBuilder;"⟩ : MethodName) jdk_67_method_14_code 2 (some (.object "java/lang/StringBuilder")) :: ws) ({ frames := 2, cells := 0, slots := 0, locals := 30 } : Room)) (fun ars U => ars = #[(.ref a), (.int ch)] ∧ Z.Warmed39 U.vm ∧ U.heap = h0) (fun _ _ _ _ _ => True) (fun _ U o U' => ∃ v L, o = .returned v ∧ own_aps1_Q Z a ch cs b k h0 n0 v U'.heap L ∧ FrameEnd U o U' L ({ frames := 2, cells := 0, slots := 0, locals := 30 } : Room).cells ({ frames := 2, cells := 0, slots := 0, locals := 30 } : Room).slots) := by
  refine MetFree.of_bodySF (plainFor_of_name own_aps1_pn) hisR ?_
  intro p e s m args below meth c s₁ Bd hml0 hP hK
  obtain ⟨rfl, hZ, hh⟩ := hP
  have hx := Bd.exec
  have hby := Bd.bytes
  have hml : c.maxLocals = 2 := hml0
  have hown : s.vm.findClass "java/lang/StringBuilder" = some m.cls := findClass_of_methodNamed Bd.named
  have hnm := (name_of_methodNamed Bd.named Bd.method).1
  have X0 : Stand p l e ({ frames := 2, cells := 0, slots := 0, locals := 30 } : Room) s m #[(.ref a), (.int ch)] below meth c s₁ [] 0 0 := Stand.of_body Bd
  have e0 : s₁.heap = h0 := by rw [← hh, Bd.state]; rfl
  have N0 := Fr.nil n0
  generalize hS0 : s₁.setTop (entryFrame m #[(.ref a), (.int ch)] 2) = S0
  have c0 : Steps p.tables e below S0 (s₁.setTop (mkF m 0 #[.val (.ref a), .val (.int ch)] [])) := by rw [← hS0]; exact castTop (own_aps1_ef m a ch) (Steps.refl _)
  have K0 : Keep h0 h0 [a, b] := Keep.refl _ _
  have c1 : Steps p.tables e below S0 (s₁.setTop (mkF m 2 #[.val (.ref a), .val (.int ch)] [(.int ch), (.ref a)])) := c0.trans (by
    refine XS.aloadN X0.here hx rfl (hb hby own_d12_0) rfl rfl ?_
    show Steps p.tables e below (s₁.setTop (mkF m 1 #[.val (.ref a), .val (.int ch)] [(.ref a)])) _
    refine XS.iloadN X0.here hx rfl (hb hby own_d12_1) rfl ?_
    exact Steps.refl _)
  obtain ⟨_, _, ⟨T2, L2, k2, n2⟩, -, X2, ⟨Lc2, hQ2, l2, y2, z2⟩, st2⟩ := superBack X0 hx hZ (y := (⟨"java/lang/AbstractStringBuilder", "append", "(C)Ljava/lang/AbstractStringBuilder;"⟩ : MethodName)) hown (hw _ (List.mem_of_getElem? (i := 59) rfl)) (own_samem (hw _ (List.mem_of_getElem? (i := 60) rfl)) (own_nf (y := (⟨"java/lang/AbstractStringBuilder", "isLatin1", "()Z"⟩ : MethodName)) rfl (notFace_of_selects (hw _ (List.mem_of_getElem? (i := 74) rfl))) (hw _ (List.mem_of_getElem? (i := 73) rfl))) (by decide)) (hw _ (List.mem_of_getElem? (i := 60) rfl)) (hw _ (List.mem_of_getElem? (i := 61) rfl)) (by decide) (backOf (W := 0) (own_apa1 l Z a0 hw [] a ch cs b k h0 n0 Z0 SC hcs O Ee Vf Cf Nf Av Eb hab ga gb hc) hZ (hw _ (List.mem_of_getElem? (i := 63) rfl)) (hw _ (List.mem_of_getElem? (i := 42) rfl)) (by decide) (by decide)) e0 (Ins.self Ee) (g := (mkF m 2 #[.val (.ref a), .val (.int ch)] [(.int ch), (.ref a)])) rfl (by rw [hml]; rfl) (hw _ (List.mem_of_getElem? (i := 63) rfl)) (argsL := [(.int ch)]) (rest := []) (lenOf own_pd7 rfl) rfl (by show 2 * 0 + _ ≤ _; exact Nat.le_of_eq rfl) (hb hby own_d12_2) (fun _ _ => ⟨rfl, e0, (Nat.le_of_ble_eq_true rfl), (Nat.le_of_ble_eq_true rfl)⟩)
  dsimp only [Pt.U, Pt.locs, Pt.cells, Pt.slots] at X2 l2 y2 z2 st2 hQ2
  subst l2 y2 z2
  obtain ⟨rfl, N2q, Kq, Ee, Vf, Cf, Nf, Av, Eb⟩ := hQ2
  have N2 := Fr.app N0 N2q
  have c3 : Steps p.tables e below S0 (T2.setTop (mkF m 5 #[.val (.ref a), .val (.int ch)] [(.ref a)])) := c1.trans (by
    refine st2.trans ?_
    exact Steps.refl _)
  have c4 : Steps p.tables e below S0 (T2.setTop (mkF m 7 #[.val (.ref a), .val (.int ch)] [(.ref a)])) := c3.trans (by
    refine XS.pop X2.here hx rfl (hb hby own_d12_5) rfl rfl ?_
    show Steps p.tables e below (T2.setTop (mkF m 6 #[.val (.ref a), .val (.int ch)] [])) _
    refine XS.aloadN X2.here hx rfl (hb hby own_d12_6) rfl rfl ?_
    exact Steps.refl _)
  obtain ⟨fs, hr, hrun, hended, hW, hsame⟩ := X2.leave (v := some (.ref a)) (fun h => by rw [Bd.returns] at h; cases h)
  exact ⟨_, _, c4.trans (retOut X2 hx (t := (.object "java/lang/StringBuilder")) (i := .areturn) Bd.returns rfl (Or.inr (Or.inr (Or.inr (Or.inr ⟨rfl, rfl, rfl⟩)))) (hb hby own_d12_7) hr), hrun, hended, _, _, rfl, ⟨rfl, N2, Kq, Ee, Vf, Cf, Nf, Av, Eb⟩, ⟨_, rfl⟩, hW, hsame.mono (by decide) (by decide)⟩
theorem own_d13_0 : decode jdk_68_method_2_code 0 = .ok (.aload_n 0, 1) := by decide +kernel
theorem own_d13_1 : decode jdk_68_method_2_code 1 = .ok (.invokespecial 3, 3) := by decide +kernel
theorem own_d13_4 : decode jdk_68_method_2_code 4 = .ok (.getstatic 18, 3) := by decide +kernel
theorem own_d13_7 : decode jdk_68_method_2_code 7 = .ok (.ifCond .eq 18, 3) := by decide +kernel
theorem own_d13_10 : decode jdk_68_method_2_code 10 = .ok (.aload_n 0, 1) := by decide +kernel
theorem own_d13_11 : decode jdk_68_method_2_code 11 = .ok (.iload_n 1, 1) := by decide +kernel
theorem own_d13_12 : decode jdk_68_method_2_code 12 = .ok (.newarray .byte, 2) := by decide +kernel
theorem own_d13_14 : decode jdk_68_method_2_code 14 = .ok (.putfield 15, 3) := by decide +kernel
theorem own_d13_17 : decode jdk_68_method_2_code 17 = .ok (.aload_n 0, 1) := by decide +kernel
theorem own_d13_18 : decode jdk_68_method_2_code 18 = .ok (.iconst 0, 1) := by decide +kernel
theorem own_d13_19 : decode jdk_68_method_2_code 19 = .ok (.putfield 22, 3) := by decide +kernel
theorem own_d13_22 : decode jdk_68_method_2_code 22 = .ok (.goto 16, 3) := by decide +kernel
theorem own_d13_25 : decode jdk_68_method_2_code 25 = .ok (.aload_n 0, 1) := by decide +kernel
theorem own_d13_26 : decode jdk_68_method_2_code 26 = .ok (.iload_n 1, 1) := by decide +kernel
theorem own_d13_27 : decode jdk_68_method_2_code 27 = .ok (.invokestatic 26, 3) := by decide +kernel
theorem own_d13_30 : decode jdk_68_method_2_code 30 = .ok (.putfield 15, 3) := by decide +kernel
theorem own_d13_33 : decode jdk_68_method_2_code 33 = .ok (.aload_n 0, 1) := by decide +kernel
theorem own_d13_34 : decode jdk_68_method_2_code 34 = .ok (.iconst 1, 1) := by decide +kernel
theorem own_d13_35 : decode jdk_68_method_2_code 35 = .ok (.putfield 22, 3) := by decide +kernel
theorem own_d13_38 : decode jdk_68_method_2_code 38 = .ok (.return_, 1) := by decide +kernel
theorem own_aii_pn : plainName "java/lang/AbstractStringBuilder" = true := by first | (simp [plainName, overriddenIn]; done) | decide +kernel
theorem own_aii_ef (m : MethodId) (a : Addr) (pp : Int32) : entryFrame m #[(.ref a), (.int pp)] 2 = mkF m 0 #[.val (.ref a), .val (.int pp)] [] := by first | (simp [entryFrame, mkF, argsToLocals, Value.category]; done) | rfl
def own_aii_Q (Z : State) (a : Addr) (pp : Int32) (cs : Int32) (h0 : Heap) (n0 : Nat) (v : Option Value) (h : Heap) (L : List Loc) : Prop := v = none ∧ Fr n0 L ∧ Keep h0 h [a] ∧ ∃ (b : Addr) (k : ClassId), h0.size ≤ b ∧ a ≠ b ∧ Exa Z h a "java/lang/StringBuilder" ∧ Fld Z h a "java/lang/AbstractStringBuilder" "value" "[B" (.ref b) ∧ Fld Z h a "java/lang/AbstractStringBuilder" "coder" "B" (.int (0 : Int32)) ∧ Fld Z h a "java/lang/AbstractStringBuilder" "count" "I" (.int (0 : Int32)) ∧ Arv Z h b k .byte (2 : Int32) [.int (0 : Int32), .int (0 : Int32)] (.int (0 : Int32)) ∧ Exa Z h b "[B"
set_option maxRecDepth 65536 in
set_option maxHeartbeats 40000000 in
theorem own_aii (l : Launch) (Z : State) (a0 : Array Value) (hw : ∀ d ∈ tables_1, d.before a0 Z = true) (ws : List Jvm.Cond) (a : Addr) (pp : Int32) (cs : Int32) (h0 : Heap) (n0 : Nat) (Z0 : n0 ≤ h0.size) (SC : Sta Z Z.heap "java/lang/String" "COMPACT_STRINGS" "Z" (.int cs)) (hcs : ¬ cs = 0) (O : Old Z n0 h0) (Ee : Exa Z h0 a "java/lang/StringBuilder") (Vf : Fld Z h0 a "java/lang/AbstractStringBuilder" "value" "[B" .null) (Cf : Fld Z h0 a "java/lang/AbstractStringBuilder" "coder" "B" (.int (0 : Int32))) (Nf : Fld Z h0 a "java/lang/AbstractStringBuilder" "count" "I" (.int (0 : Int32))) (ga : n0 ≤ a) (hp : pp = 2) :
    MetFree l (⟨"java/lang/AbstractStringBuilder", "<init>", "(I)V"⟩ : MethodName) (head1 (Jvm.Cond.code (⟨"java/lang/AbstractStringBuilder", "<init>", "(I)V"⟩ : MethodName) jdk_68_method_2_code 2 none :: ws) ({ frames := 1, cells := 1, slots := 2, locals := 12 } : Room)) (fun ars U => ars = #[(.ref a), (.int pp)] ∧ Z.Warmed39 U.vm ∧ U.heap = h0) (fun _ _ _ _ _ => True) (fun _ U o U' => ∃ v L, o = .returned v ∧ own_aii_Q Z a pp cs h0 n0 v U'.heap L ∧ FrameEnd U o U' L ({ frames := 1, cells := 1, slots := 2, locals := 12 } : Room).cells ({ frames := 1, cells := 1, slots := 2, locals := 12 } : Room).slots) := by
  refine MetFree.of_bodySF (plainFor_of_name own_aii_pn) hisR ?_
  intro p e s m args below meth c s₁ Bd hml0 hP hK
  obtain ⟨rfl, hZ, hh⟩ := hP
  have hx := Bd.exec
  have hby := Bd.bytes
  have hml : c.maxLocals = 2 := hml0
  have hown : s.vm.findClass "java/lang/AbstractStringBuilder" = some m.cls := findClass_of_methodNamed Bd.named
  have hnm := (name_of_methodNamed Bd.named Bd.method).1
  have X0 : Stand p l e ({ frames := 1, cells := 1, slots := 2, locals := 12 } : Room) s m #[(.ref a), (.int pp)] below meth c s₁ [] 0 0 := Stand.of_body Bd
  have e0 : s₁.heap = h0 := by rw [← hh, Bd.state]; rfl
  have N0 := Fr.nil n0
  generalize hS0 : s₁.setTop (entryFrame m #[(.ref a), (.int pp)] 2) = S0
  have c0 : Steps p.tables e below S0 (s₁.setTop (mkF m 0 #[.val (.ref a), .val (.int pp)] [])) := by rw [← hS0]; exact castTop (own_aii_ef m a pp) (Steps.refl _)
  have K0 : Keep h0 h0 [a] := Keep.refl _ _
  subst hp
  have c1 : Steps p.tables e below S0 (s₁.setTop (mkF m 1 #[.val (.ref a), .val (.int (2 : Int32))] [(.ref a)])) := c0.trans (by
    refine XS.aloadN X0.here hx rfl (hb hby own_d13_0) rfl rfl ?_
    exact Steps.refl _)
  obtain ⟨T2, X2, e2, st2⟩ := initO X0 hx hZ hown (hw _ (List.mem_of_getElem? (i := 44) rfl)) (hw _ (List.mem_of_getElem? (i := 45) rfl)) (hw _ (List.mem_of_getElem? (i := 46) rfl)) e0 (g := (mkF m 1 #[.val (.ref a), .val (.int (2 : Int32))] [(.ref a)])) rfl (by rw [hml]; rfl) rfl (hb hby own_d13_1) (by decide) (W := 0) (by show 2 * 0 + _ ≤ _; exact Nat.le_of_eq rfl) (by decide)
  have c3 : Steps p.tables e below S0 (T2.setTop (mkF m 4 #[.val (.ref a), .val (.int (2 : Int32))] [])) := c1.trans (by
    refine st2 _ ?_
    exact Steps.refl _)
  obtain ⟨T4, X4, e4, st4⟩ := getS2 X2 hx hZ hown (host := "") (Or.inl (hw _ (List.mem_of_getElem? (i := 47) rfl))) Via.refl e2 (SC.ext O.2) (g := (mkF m 4 #[.val (.ref a), .val (.int (2 : Int32))] [])) rfl (hb hby own_d13_4)
  have c5 : Steps p.tables e below S0 (T4.setTop (mkF m 7 #[.val (.ref a), .val (.int (2 : Int32))] [(.int cs)])) := c3.trans (by
    refine st4 _ ?_
    exact Steps.refl _)
  have c6 : Steps p.tables e below S0 (T4.setTop (mkF m 10 #[.val (.ref a), .val (.int (2 : Int32))] [])) := c5.trans (by
    refine XS.ifNo X4.here hx rfl (hb hby own_d13_7) rfl ((if0 _ _).trans (feq hcs).1) ?_
    exact Steps.refl _)
  have c7 : Steps p.tables e below S0 (T4.setTop (mkF m 12 #[.val (.ref a), .val (.int (2 : Int32))] [(.int (2 : Int32)), (.ref a)])) := c6.trans (by
    refine XS.aloadN X4.here hx rfl (hb hby own_d13_10) rfl rfl ?_
    show Steps p.tables e below (T4.setTop (mkF m 11 #[.val (.ref a), .val (.int (2 : Int32))] [(.ref a)])) _
    refine XS.iloadN X4.here hx rfl (hb hby own_d13_11) rfl ?_
    exact Steps.refl _)
  obtain ⟨T8, h8, k8, X8, e8, E8, A8, B8, st8⟩ := newPE X4 hx hZ (hw _ (List.mem_of_getElem? (i := 9) rfl)) e4 (g := (mkF m 12 #[.val (.ref a), .val (.int (2 : Int32))] [(.int (2 : Int32)), (.ref a)])) rfl (hb hby own_d13_12) rfl (by decide) (cap := 2) (by decide) (by decide) (by decide) (by decide) (ad := "[B") (by decide)
  obtain ⟨b, g8⟩ : ∃ z, z = h0.size := ⟨_, rfl⟩
  have ne_a_b : a ≠ b := Nat.ne_of_lt (Nat.lt_of_lt_of_le Ee.lt (Nat.le_of_eq g8.symm))
  have sz_b : h0.size ≤ b := Nat.le_trans K0.1 (Nat.le_of_eq g8.symm)
  have g_b : n0 ≤ b := Nat.le_trans Z0 sz_b
  rw [← g8] at A8 B8 st8
  have c9 : Steps p.tables e below S0 (T8.setTop (mkF m 14 #[.val (.ref a), .val (.int (2 : Int32))] [(.ref b), (.ref a)])) := c7.trans (by
    refine st8 _ ?_
    exact Steps.refl _)
  have f8_Ee := Ee.ext E8
  have f8_Vf := Vf.ext E8
  have f8_Cf := Cf.ext E8
  have f8_Nf := Nf.ext E8
  have K8 := K0.ext E8
  have O8 := O.ext E8
  have Av8 : Arv Z h8 b k8 .byte (2 : Int32) [.int (0 : Int32), .int (0 : Int32)] (.int (0 : Int32)) := (Arv.new A8 (by decide)).pad (pad_rep [] (.int (0 : Int32)) 2)
  obtain ⟨T10, h10, X10, e10, W10, st10⟩ := putF X8 hx hZ hown (host := "") (Or.inl (hw _ (List.mem_of_getElem? (i := 48) rfl))) Via.refl e8 f8_Vf f8_Ee (Or.inl (hw _ (List.mem_of_getElem? (i := 49) rfl))) (hw _ (List.mem_of_getElem? (i := 20) rfl)) (ty := (.array .byte)) (by decide) rfl rfl (g := (mkF m 14 #[.val (.ref a), .val (.int (2 : Int32))] [(.ref b), (.ref a)])) rfl rfl (hb hby own_d13_14)
  have c11 : Steps p.tables e below S0 (T10.setTop (mkF m 17 #[.val (.ref a), .val (.int (2 : Int32))] [])) := c9.trans (by
    refine st10 _ ?_
    exact Steps.refl _)
  have f10_Ee := f8_Ee.wr W10
  have f10_Cf := f8_Cf.other W10 (Or.inr (slot_ne (Or.inl (hw _ (List.mem_of_getElem? (i := 51) rfl))) (Or.inl (hw _ (List.mem_of_getElem? (i := 49) rfl))) (by decide) (t := .byte) (t' := (.array .byte)) (by decide) (by decide)))
  have f10_Nf := f8_Nf.other W10 (Or.inr (slot_ne (Or.inl (hw _ (List.mem_of_getElem? (i := 65) rfl))) (Or.inl (hw _ (List.mem_of_getElem? (i := 49) rfl))) (by decide) (t := .int) (t' := (.array .byte)) (by decide) (by decide)))
  have f10_Av := Av8.other W10 (Ne.symm ne_a_b)
  have f10_Eb := B8.wr W10
  have K10 := K8.wr W10 (Or.inl (List.mem_of_getElem? (i := 0) rfl))
  have O10 := O8.wr W10 ga
  have N10 := Fr.snoc X10 N0 ga
  have f10_Vf := f8_Vf.same W10
  have c12 : Steps p.tables e below S0 (T10.setTop (mkF m 19 #[.val (.ref a), .val (.int (2 : Int32))] [(.int (0 : Int32)), (.ref a)])) := c11.trans (by
    refine XS.aloadN X10.here hx rfl (hb hby own_d13_17) rfl rfl ?_
    show Steps p.tables e below (T10.setTop (mkF m 18 #[.val (.ref a), .val (.int (2 : Int32))] [(.ref a)])) _
    refine XS.iconst X10.here hx rfl (hb hby own_d13_18) ?_
    exact Steps.refl _)
  obtain ⟨T13, h13, X13, e13, W13, st13⟩ := putFN X10 hx hZ hown (hw _ (List.mem_of_getElem? (i := 50) rfl)) Via.refl e10 f10_Cf f10_Ee (Or.inl (hw _ (List.mem_of_getElem? (i := 51) rfl))) (hw _ (List.mem_of_getElem? (i := 20) rfl)) (ty := .byte) (v' := (.int (0 : Int32))) (by decide) rfl (by first | rfl | decide) (g := (mkF m 19 #[.val (.ref a), .val (.int (2 : Int32))] [(.int (0 : Int32)), (.ref a)])) rfl rfl (hb hby own_d13_19)
  have c14 : Steps p.tables e below S0 (T13.setTop (mkF m 22 #[.val (.ref a), .val (.int (2 : Int32))] [])) := c12.trans (by
    refine st13 _ ?_
    exact Steps.refl _)
  have f13_Ee := f10_Ee.wr W13
  have f13_Vf := f10_Vf.other W13 (Or.inr (slot_ne (Or.inl (hw _ (List.mem_of_getElem? (i := 49) rfl))) (Or.inl (hw _ (List.mem_of_getElem? (i := 51) rfl))) (by decide) (t := (.array .byte)) (t' := .byte) (by decide) (by decide)))
  have f13_Nf := f10_Nf.other W13 (Or.inr (slot_ne (Or.inl (hw _ (List.mem_of_getElem? (i := 65) rfl))) (Or.inl (hw _ (List.mem_of_getElem? (i := 51) rfl))) (by decide) (t := .int) (t' := .byte) (by decide) (by decide)))
  have f13_Av := f10_Av.other W13 (Ne.symm ne_a_b)
  have f13_Eb := f10_Eb.wr W13
  have K13 := K10.wr W13 (Or.inl (List.mem_of_getElem? (i := 0) rfl))
  have O13 := O10.wr W13 ga
  have N13 := Fr.snoc X13 N10 ga
  have f13_Cf := f10_Cf.same W13
  have c15 : Steps p.tables e below S0 (T13.setTop (mkF m 38 #[.val (.ref a), .val (.int (2 : Int32))] [])) := c14.trans (by
    refine XS.goto X13.here hx rfl (pc0 := 22) (pc' := 38) rfl (hb hby own_d13_22) (by decide) (by decide) ?_
    exact Steps.refl _)
  obtain ⟨fs, hr, hrun, hended, hW, hsame⟩ := X13.leave (v := none) (fun _ => rfl)
  exact ⟨_, _, c15.trans (X13.returnOut hx Bd.returns (hb hby own_d13_38) hr), hrun, hended, _, _, rfl, (by rw [show (T13.setFrames fs).heap = h13 from e13]; exact ⟨rfl, N13, K13, b, k8, sz_b, ne_a_b, f13_Ee, f13_Vf, f13_Cf, f13_Nf, f13_Av, f13_Eb⟩), ⟨_, rfl⟩, hW, hsame.mono (by decide) (by decide)⟩
theorem own_d14_0 : decode jdk_67_method_2_code 0 = .ok (.aload_n 0, 1) := by decide +kernel
theorem own_d14_1 : decode jdk_67_method_2_code 1 = .ok (.iload_n 1, 1) := by decide +kernel
theorem own_d14_2 : decode jdk_67_method_2_code 2 = .ok (.invokespecial 1, 3) := by decide +kernel
theorem own_d14_5 : decode jdk_67_method_2_code 5 = .ok (.return_, 1) := by decide +kernel
theorem own_sii_pn : plainName "java/lang/StringBuilder" = true := by first | (simp [plainName, overriddenIn]; done) | decide +kernel
theorem own_sii_ef (m : MethodId) (a : Addr) (pp : Int32) : entryFrame m #[(.ref a), (.int pp)] 2 = mkF m 0 #[.val (.ref a), .val (.int pp)] [] := by first | (simp [entryFrame, mkF, argsToLocals, Value.category]; done) | rfl
def own_sii_Q (Z : State) (a : Addr) (pp : Int32) (cs : Int32) (h0 : Heap) (n0 : Nat) (v : Option Value) (h : Heap) (L : List Loc) : Prop := v = none ∧ Fr n0 L ∧ Keep h0 h [a] ∧ ∃ (b : Addr) (k : ClassId), h0.size ≤ b ∧ a ≠ b ∧ Exa Z h a "java/lang/StringBuilder" ∧ Fld Z h a "java/lang/AbstractStringBuilder" "value" "[B" (.ref b) ∧ Fld Z h a "java/lang/AbstractStringBuilder" "coder" "B" (.int (0 : Int32)) ∧ Fld Z h a "java/lang/AbstractStringBuilder" "count" "I" (.int (0 : Int32)) ∧ Arv Z h b k .byte (2 : Int32) [.int (0 : Int32), .int (0 : Int32)] (.int (0 : Int32)) ∧ Exa Z h b "[B"
set_option maxRecDepth 65536 in
set_option maxHeartbeats 40000000 in
theorem own_sii (l : Launch) (Z : State) (a0 : Array Value) (hw : ∀ d ∈ tables_1, d.before a0 Z = true) (ws : List Jvm.Cond) (a : Addr) (pp : Int32) (cs : Int32) (h0 : Heap) (n0 : Nat) (Z0 : n0 ≤ h0.size) (SC : Sta Z Z.heap "java/lang/String" "COMPACT_STRINGS" "Z" (.int cs)) (hcs : ¬ cs = 0) (O : Old Z n0 h0) (Ee : Exa Z h0 a "java/lang/StringBuilder") (Vf : Fld Z h0 a "java/lang/AbstractStringBuilder" "value" "[B" .null) (Cf : Fld Z h0 a "java/lang/AbstractStringBuilder" "coder" "B" (.int (0 : Int32))) (Nf : Fld Z h0 a "java/lang/AbstractStringBuilder" "count" "I" (.int (0 : Int32))) (ga : n0 ≤ a) (hp : pp = 2) :
    MetFree l (⟨"java/lang/StringBuilder", "<init>", "(I)V"⟩ : MethodName) (head1 (Jvm.Cond.code (⟨"java/lang/StringBuilder", "<init>", "(I)V"⟩ : MethodName) jdk_67_method_2_code 2 none :: ws) ({ frames := 2, cells := 1, slots := 2, locals := 25 } : Room)) (fun ars U => ars = #[(.ref a), (.int pp)] ∧ Z.Warmed39 U.vm ∧ U.heap = h0) (fun _ _ _ _ _ => True) (fun _ U o U' => ∃ v L, o = .returned v ∧ own_sii_Q Z a pp cs h0 n0 v U'.heap L ∧ FrameEnd U o U' L ({ frames := 2, cells := 1, slots := 2, locals := 25 } : Room).cells ({ frames := 2, cells := 1, slots := 2, locals := 25 } : Room).slots) := by
  refine MetFree.of_bodySF (plainFor_of_name own_sii_pn) hisR ?_
  intro p e s m args below meth c s₁ Bd hml0 hP hK
  obtain ⟨rfl, hZ, hh⟩ := hP
  have hx := Bd.exec
  have hby := Bd.bytes
  have hml : c.maxLocals = 2 := hml0
  have hown : s.vm.findClass "java/lang/StringBuilder" = some m.cls := findClass_of_methodNamed Bd.named
  have hnm := (name_of_methodNamed Bd.named Bd.method).1
  have X0 : Stand p l e ({ frames := 2, cells := 1, slots := 2, locals := 25 } : Room) s m #[(.ref a), (.int pp)] below meth c s₁ [] 0 0 := Stand.of_body Bd
  have e0 : s₁.heap = h0 := by rw [← hh, Bd.state]; rfl
  have N0 := Fr.nil n0
  generalize hS0 : s₁.setTop (entryFrame m #[(.ref a), (.int pp)] 2) = S0
  have c0 : Steps p.tables e below S0 (s₁.setTop (mkF m 0 #[.val (.ref a), .val (.int pp)] [])) := by rw [← hS0]; exact castTop (own_sii_ef m a pp) (Steps.refl _)
  have K0 : Keep h0 h0 [a] := Keep.refl _ _
  have c1 : Steps p.tables e below S0 (s₁.setTop (mkF m 2 #[.val (.ref a), .val (.int pp)] [(.int pp), (.ref a)])) := c0.trans (by
    refine XS.aloadN X0.here hx rfl (hb hby own_d14_0) rfl rfl ?_
    show Steps p.tables e below (s₁.setTop (mkF m 1 #[.val (.ref a), .val (.int pp)] [(.ref a)])) _
    refine XS.iloadN X0.here hx rfl (hb hby own_d14_1) rfl ?_
    exact Steps.refl _)
  obtain ⟨_, _, ⟨T2, L2, k2, n2⟩, -, X2, ⟨Lc2, hQ2, l2, y2, z2⟩, st2⟩ := X0.specialBack hx (y := (⟨"java/lang/AbstractStringBuilder", "<init>", "(I)V"⟩ : MethodName)) rfl hown (mvT hZ (hw _ (List.mem_of_getElem? (i := 38) rfl))) (mvT hZ (hw _ (List.mem_of_getElem? (i := 39) rfl))) (mvT hZ (hw _ (List.mem_of_getElem? (i := 43) rfl))) (by decide) (backOf (W := 0) (own_aii l Z a0 hw [] a pp cs h0 n0 Z0 SC hcs O Ee Vf Cf Nf ga hp) hZ (hw _ (List.mem_of_getElem? (i := 43) rfl)) (hw _ (List.mem_of_getElem? (i := 42) rfl)) (by decide) (by decide)) (g := (mkF m 2 #[.val (.ref a), .val (.int pp)] [(.int pp), (.ref a)])) rfl (by rw [hml]; rfl) (Steps.refl _) (a := a) (argsL := [(.int pp)]) (rest := []) (lenOf own_pd5 rfl) rfl (by show 2 * 0 + _ ≤ _; exact Nat.le_of_eq rfl) (hb hby own_d14_2) (fun _ _ => ⟨rfl, e0, (Nat.le_of_ble_eq_true rfl), (Nat.le_of_ble_eq_true rfl)⟩)
  dsimp only [Pt.U, Pt.locs, Pt.cells, Pt.slots] at X2 l2 y2 z2 st2 hQ2
  subst l2 y2 z2
  obtain ⟨rfl, N2q, Kq, b, k, sb, nab, Ee, Vf, Cf, Nf, Av, Eb⟩ := hQ2
  have N2 := Fr.app N0 N2q
  have c3 : Steps p.tables e below S0 (T2.setTop (mkF m 5 #[.val (.ref a), .val (.int pp)] [])) := c1.trans (by
    refine st2.trans ?_
    exact Steps.refl _)
  obtain ⟨fs, hr, hrun, hended, hW, hsame⟩ := X2.leave (v := none) (fun _ => rfl)
  exact ⟨_, _, c3.trans (X2.returnOut hx Bd.returns (hb hby own_d14_5) hr), hrun, hended, _, _, rfl, ⟨rfl, N2, Kq, b, k, sb, nab, Ee, Vf, Cf, Nf, Av, Eb⟩, ⟨_, rfl⟩, hW, hsame.mono (by decide) (by decide)⟩
theorem own_d15_0 : decode jdk_68_method_64_code 0 = .ok (.aload_n 0, 1) := by decide +kernel
theorem own_d15_1 : decode jdk_68_method_64_code 1 = .ok (.getfield 15, 3) := by decide +kernel
theorem own_d15_4 : decode jdk_68_method_64_code 4 = .ok (.areturn, 1) := by decide +kernel
theorem own_gv_pn : plainName "java/lang/AbstractStringBuilder" = true := by first | (simp [plainName, overriddenIn]; done) | decide +kernel
theorem own_gv_ef (m : MethodId) (a : Addr) : entryFrame m #[(.ref a)] 1 = mkF m 0 #[.val (.ref a)] [] := by first | (simp [entryFrame, mkF, argsToLocals, Value.category]; done) | rfl
def own_gv_Q (Z : State) (a : Addr) (b : Addr) (h0 : Heap) (n0 : Nat) (v : Option Value) (h : Heap) (L : List Loc) : Prop := v = some (.ref b) ∧ Fr n0 L ∧ h = h0
set_option maxRecDepth 65536 in
set_option maxHeartbeats 40000000 in
theorem own_gv (l : Launch) (Z : State) (a0 : Array Value) (hw : ∀ d ∈ tables_1, d.before a0 Z = true) (ws : List Jvm.Cond) (a : Addr) (b : Addr) (h0 : Heap) (n0 : Nat) (Z0 : n0 ≤ h0.size) (Vf : Fld Z h0 a "java/lang/AbstractStringBuilder" "value" "[B" (.ref b)) :
    MetFree l (⟨"java/lang/AbstractStringBuilder", "getValue", "()[B"⟩ : MethodName) (head1 (Jvm.Cond.code (⟨"java/lang/AbstractStringBuilder", "getValue", "()[B"⟩ : MethodName) jdk_68_method_64_code 1 (some (.array .byte)) :: ws) ({ frames := 0, cells := 0, slots := 0, locals := 0 } : Room)) (fun ars U => ars = #[(.ref a)] ∧ Z.Warmed39 U.vm ∧ U.heap = h0) (fun _ _ _ _ _ => True) (fun _ U o U' => ∃ v L, o = .returned v ∧ own_gv_Q Z a b h0 n0 v U'.heap L ∧ FrameEnd U o U' L ({ frames := 0, cells := 0, slots := 0, locals := 0 } : Room).cells ({ frames := 0, cells := 0, slots := 0, locals := 0 } : Room).slots) := by
  refine MetFree.of_bodySF (plainFor_of_name own_gv_pn) hisR ?_
  intro p e s m args below meth c s₁ Bd hml0 hP hK
  obtain ⟨rfl, hZ, hh⟩ := hP
  have hx := Bd.exec
  have hby := Bd.bytes
  have hml : c.maxLocals = 1 := hml0
  have hown : s.vm.findClass "java/lang/AbstractStringBuilder" = some m.cls := findClass_of_methodNamed Bd.named
  have hnm := (name_of_methodNamed Bd.named Bd.method).1
  have X0 : Stand p l e ({ frames := 0, cells := 0, slots := 0, locals := 0 } : Room) s m #[(.ref a)] below meth c s₁ [] 0 0 := Stand.of_body Bd
  have e0 : s₁.heap = h0 := by rw [← hh, Bd.state]; rfl
  have N0 := Fr.nil n0
  generalize hS0 : s₁.setTop (entryFrame m #[(.ref a)] 1) = S0
  have c0 : Steps p.tables e below S0 (s₁.setTop (mkF m 0 #[.val (.ref a)] [])) := by rw [← hS0]; exact castTop (own_gv_ef m a) (Steps.refl _)
  have K0 : Keep h0 h0 [] := Keep.refl _ _
  have c1 : Steps p.tables e below S0 (s₁.setTop (mkF m 1 #[.val (.ref a)] [(.ref a)])) := c0.trans (by
    refine XS.aloadN X0.here hx rfl (hb hby own_d15_0) rfl rfl ?_
    exact Steps.refl _)
  obtain ⟨T2, X2, e2, st2⟩ := getF X0 hx hZ hown (host := "") (Or.inl (hw _ (List.mem_of_getElem? (i := 48) rfl))) Via.refl e0 Vf (g := (mkF m 1 #[.val (.ref a)] [(.ref a)])) rfl rfl (hb hby own_d15_1)
  have c3 : Steps p.tables e below S0 (T2.setTop (mkF m 4 #[.val (.ref a)] [(.ref b)])) := c1.trans (by
    refine st2 _ ?_
    exact Steps.refl _)
  obtain ⟨fs, hr, hrun, hended, hW, hsame⟩ := X2.leave (v := some (.ref b)) (fun h => by rw [Bd.returns] at h; cases h)
  exact ⟨_, _, c3.trans (retOut X2 hx (t := (.array .byte)) (i := .areturn) Bd.returns rfl (Or.inr (Or.inr (Or.inr (Or.inr ⟨rfl, rfl, rfl⟩)))) (hb hby own_d15_4) hr), hrun, hended, _, _, rfl, ⟨rfl, N0, e2⟩, ⟨_, rfl⟩, hW, hsame.mono (by decide) (by decide)⟩
theorem own_d16_0 : decode jdk_68_method_6_code 0 = .ok (.aload_n 0, 1) := by decide +kernel
theorem own_d16_1 : decode jdk_68_method_6_code 1 = .ok (.getfield 79, 3) := by decide +kernel
theorem own_d16_4 : decode jdk_68_method_6_code 4 = .ok (.ireturn, 1) := by decide +kernel
theorem own_aln_pn : plainName "java/lang/AbstractStringBuilder" = true := by first | (simp [plainName, overriddenIn]; done) | decide +kernel
theorem own_aln_ef (m : MethodId) (a : Addr) : entryFrame m #[(.ref a)] 1 = mkF m 0 #[.val (.ref a)] [] := by first | (simp [entryFrame, mkF, argsToLocals, Value.category]; done) | rfl
def own_aln_Q (Z : State) (a : Addr) (z : Int32) (h0 : Heap) (n0 : Nat) (v : Option Value) (h : Heap) (L : List Loc) : Prop := v = some (.int z) ∧ Fr n0 L ∧ h = h0
set_option maxRecDepth 65536 in
set_option maxHeartbeats 40000000 in
theorem own_aln (l : Launch) (Z : State) (a0 : Array Value) (hw : ∀ d ∈ tables_1, d.before a0 Z = true) (ws : List Jvm.Cond) (a : Addr) (z : Int32) (h0 : Heap) (n0 : Nat) (Z0 : n0 ≤ h0.size) (Nf : Fld Z h0 a "java/lang/AbstractStringBuilder" "count" "I" (.int z)) :
    MetFree l (⟨"java/lang/AbstractStringBuilder", "length", "()I"⟩ : MethodName) (head1 (Jvm.Cond.code (⟨"java/lang/AbstractStringBuilder", "length", "()I"⟩ : MethodName) jdk_68_method_6_code 1 (some .int) :: ws) ({ frames := 0, cells := 0, slots := 0, locals := 0 } : Room)) (fun ars U => ars = #[(.ref a)] ∧ Z.Warmed39 U.vm ∧ U.heap = h0) (fun _ _ _ _ _ => True) (fun _ U o U' => ∃ v L, o = .returned v ∧ own_aln_Q Z a z h0 n0 v U'.heap L ∧ FrameEnd U o U' L ({ frames := 0, cells := 0, slots := 0, locals := 0 } : Room).cells ({ frames := 0, cells := 0, slots := 0, locals := 0 } : Room).slots) := by
  refine MetFree.of_bodySF (plainFor_of_name own_aln_pn) hisR ?_
  intro p e s m args below meth c s₁ Bd hml0 hP hK
  obtain ⟨rfl, hZ, hh⟩ := hP
  have hx := Bd.exec
  have hby := Bd.bytes
  have hml : c.maxLocals = 1 := hml0
  have hown : s.vm.findClass "java/lang/AbstractStringBuilder" = some m.cls := findClass_of_methodNamed Bd.named
  have hnm := (name_of_methodNamed Bd.named Bd.method).1
  have X0 : Stand p l e ({ frames := 0, cells := 0, slots := 0, locals := 0 } : Room) s m #[(.ref a)] below meth c s₁ [] 0 0 := Stand.of_body Bd
  have e0 : s₁.heap = h0 := by rw [← hh, Bd.state]; rfl
  have N0 := Fr.nil n0
  generalize hS0 : s₁.setTop (entryFrame m #[(.ref a)] 1) = S0
  have c0 : Steps p.tables e below S0 (s₁.setTop (mkF m 0 #[.val (.ref a)] [])) := by rw [← hS0]; exact castTop (own_aln_ef m a) (Steps.refl _)
  have K0 : Keep h0 h0 [] := Keep.refl _ _
  have c1 : Steps p.tables e below S0 (s₁.setTop (mkF m 1 #[.val (.ref a)] [(.ref a)])) := c0.trans (by
    refine XS.aloadN X0.here hx rfl (hb hby own_d16_0) rfl rfl ?_
    exact Steps.refl _)
  obtain ⟨T2, X2, e2, st2⟩ := getF X0 hx hZ hown (host := "") (Or.inl (hw _ (List.mem_of_getElem? (i := 64) rfl))) Via.refl e0 Nf (g := (mkF m 1 #[.val (.ref a)] [(.ref a)])) rfl rfl (hb hby own_d16_1)
  have c3 : Steps p.tables e below S0 (T2.setTop (mkF m 4 #[.val (.ref a)] [(.int z)])) := c1.trans (by
    refine st2 _ ?_
    exact Steps.refl _)
  obtain ⟨fs, hr, hrun, hended, hW, hsame⟩ := X2.leave (v := some (.int z)) (fun h => by rw [Bd.returns] at h; cases h)
  exact ⟨_, _, c3.trans (retOut X2 hx (t := .int) (i := .ireturn) Bd.returns rfl (Or.inl ⟨rfl, Or.inl rfl, _, rfl⟩) (hb hby own_d16_4) hr), hrun, hended, _, _, rfl, ⟨rfl, N0, e2⟩, ⟨_, rfl⟩, hW, hsame.mono (by decide) (by decide)⟩
theorem own_d17_0 : decode jdk_67_method_93_code 0 = .ok (.aload_n 0, 1) := by decide +kernel
theorem own_d17_1 : decode jdk_67_method_93_code 1 = .ok (.invokespecial 343, 3) := by decide +kernel
theorem own_d17_4 : decode jdk_67_method_93_code 4 = .ok (.ireturn, 1) := by decide +kernel
theorem own_sln_pn : plainName "java/lang/StringBuilder" = true := by first | (simp [plainName, overriddenIn]; done) | decide +kernel
theorem own_sln_ef (m : MethodId) (a : Addr) : entryFrame m #[(.ref a)] 1 = mkF m 0 #[.val (.ref a)] [] := by first | (simp [entryFrame, mkF, argsToLocals, Value.category]; done) | rfl
def own_sln_Q (Z : State) (a : Addr) (z : Int32) (h0 : Heap) (n0 : Nat) (v : Option Value) (h : Heap) (L : List Loc) : Prop := v = some (.int z) ∧ Fr n0 L ∧ h = h0
set_option maxRecDepth 65536 in
set_option maxHeartbeats 40000000 in
theorem own_sln (l : Launch) (Z : State) (a0 : Array Value) (hw : ∀ d ∈ tables_1, d.before a0 Z = true) (ws : List Jvm.Cond) (a : Addr) (z : Int32) (h0 : Heap) (n0 : Nat) (Z0 : n0 ≤ h0.size) (Ee : Exa Z h0 a "java/lang/StringBuilder") (Nf : Fld Z h0 a "java/lang/AbstractStringBuilder" "count" "I" (.int z)) :
    MetFree l (⟨"java/lang/StringBuilder", "length", "()I"⟩ : MethodName) (head1 (Jvm.Cond.code (⟨"java/lang/StringBuilder", "length", "()I"⟩ : MethodName) jdk_67_method_93_code 1 (some .int) :: ws) ({ frames := 1, cells := 0, slots := 0, locals := 12 } : Room)) (fun ars U => ars = #[(.ref a)] ∧ Z.Warmed39 U.vm ∧ U.heap = h0) (fun _ _ _ _ _ => True) (fun _ U o U' => ∃ v L, o = .returned v ∧ own_sln_Q Z a z h0 n0 v U'.heap L ∧ FrameEnd U o U' L ({ frames := 1, cells := 0, slots := 0, locals := 12 } : Room).cells ({ frames := 1, cells := 0, slots := 0, locals := 12 } : Room).slots) := by
  refine MetFree.of_bodySF (plainFor_of_name own_sln_pn) hisR ?_
  intro p e s m args below meth c s₁ Bd hml0 hP hK
  obtain ⟨rfl, hZ, hh⟩ := hP
  have hx := Bd.exec
  have hby := Bd.bytes
  have hml : c.maxLocals = 1 := hml0
  have hown : s.vm.findClass "java/lang/StringBuilder" = some m.cls := findClass_of_methodNamed Bd.named
  have hnm := (name_of_methodNamed Bd.named Bd.method).1
  have X0 : Stand p l e ({ frames := 1, cells := 0, slots := 0, locals := 12 } : Room) s m #[(.ref a)] below meth c s₁ [] 0 0 := Stand.of_body Bd
  have e0 : s₁.heap = h0 := by rw [← hh, Bd.state]; rfl
  have N0 := Fr.nil n0
  generalize hS0 : s₁.setTop (entryFrame m #[(.ref a)] 1) = S0
  have c0 : Steps p.tables e below S0 (s₁.setTop (mkF m 0 #[.val (.ref a)] [])) := by rw [← hS0]; exact castTop (own_sln_ef m a) (Steps.refl _)
  have K0 : Keep h0 h0 [] := Keep.refl _ _
  have c1 : Steps p.tables e below S0 (s₁.setTop (mkF m 1 #[.val (.ref a)] [(.ref a)])) := c0.trans (by
    refine XS.aloadN X0.here hx rfl (hb hby own_d17_0) rfl rfl ?_
    exact Steps.refl _)
  obtain ⟨_, _, ⟨T2, L2, k2, n2⟩, -, X2, ⟨Lc2, hQ2, l2, y2, z2⟩, st2⟩ := superBack X0 hx hZ (y := (⟨"java/lang/AbstractStringBuilder", "length", "()I"⟩ : MethodName)) hown (hw _ (List.mem_of_getElem? (i := 105) rfl)) (own_samem (hw _ (List.mem_of_getElem? (i := 101) rfl)) (own_nf (y := (⟨"java/lang/AbstractStringBuilder", "isLatin1", "()Z"⟩ : MethodName)) rfl (notFace_of_selects (hw _ (List.mem_of_getElem? (i := 74) rfl))) (hw _ (List.mem_of_getElem? (i := 73) rfl))) (by decide)) (hw _ (List.mem_of_getElem? (i := 101) rfl)) (hw _ (List.mem_of_getElem? (i := 61) rfl)) (by decide) (backOf (W := 0) (own_aln l Z a0 hw [] a z h0 n0 Z0 Nf) hZ (hw _ (List.mem_of_getElem? (i := 106) rfl)) (hw _ (List.mem_of_getElem? (i := 42) rfl)) (by decide) (by decide)) e0 (Ins.self Ee) (g := (mkF m 1 #[.val (.ref a)] [(.ref a)])) rfl (by rw [hml]; rfl) (hw _ (List.mem_of_getElem? (i := 106) rfl)) (argsL := []) (rest := []) (lenOf own_pd8 rfl) rfl (by show 2 * 0 + _ ≤ _; exact Nat.le_of_eq rfl) (hb hby own_d17_1) (fun _ _ => ⟨rfl, e0, (Nat.le_of_ble_eq_true rfl), (Nat.le_of_ble_eq_true rfl)⟩)
  dsimp only [Pt.U, Pt.locs, Pt.cells, Pt.slots] at X2 l2 y2 z2 st2 hQ2
  subst l2 y2 z2
  obtain ⟨rfl, N2q, ec⟩ := hQ2
  have N2 := Fr.app N0 N2q
  have c3 : Steps p.tables e below S0 (T2.setTop (mkF m 4 #[.val (.ref a)] [(.int z)])) := c1.trans (by
    refine st2.trans ?_
    exact Steps.refl _)
  obtain ⟨fs, hr, hrun, hended, hW, hsame⟩ := X2.leave (v := some (.int z)) (fun h => by rw [Bd.returns] at h; cases h)
  exact ⟨_, _, c3.trans (retOut X2 hx (t := .int) (i := .ireturn) Bd.returns rfl (Or.inl ⟨rfl, Or.inl rfl, _, rfl⟩) (hb hby own_d17_4) hr), hrun, hended, _, _, rfl, ⟨rfl, N2, ec⟩, ⟨_, rfl⟩, hW, hsame.mono (by decide) (by decide)⟩
theorem own_d18_0 : decode jdk_65_method_132_code 0 = .ok (.iload_n 1, 1) := by decide +kernel
theorem own_d18_1 : decode jdk_65_method_132_code 1 = .ok (.ifCond .ne 9, 3) := by decide +kernel
theorem own_d18_4 : decode jdk_65_method_132_code 4 = .ok (.iload_n 2, 1) := by decide +kernel
theorem own_d18_5 : decode jdk_65_method_132_code 5 = .ok (.aload_n 0, 1) := by decide +kernel
theorem own_d18_6 : decode jdk_65_method_132_code 6 = .ok (.arraylength, 1) := by decide +kernel
theorem own_d18_7 : decode jdk_65_method_132_code 7 = .ok (.if_icmp .eq 10, 3) := by decide +kernel
theorem own_d18_10 : decode jdk_65_method_132_code 10 = .ok (.aload_n 0, 1) := by decide +kernel
theorem own_d18_11 : decode jdk_65_method_132_code 11 = .ok (.iload_n 1, 1) := by decide +kernel
theorem own_d18_12 : decode jdk_65_method_132_code 12 = .ok (.iload_n 2, 1) := by decide +kernel
theorem own_d18_13 : decode jdk_65_method_132_code 13 = .ok (.invokestatic 339, 3) := by decide +kernel
theorem own_d18_16 : decode jdk_65_method_132_code 16 = .ok (.areturn, 1) := by decide +kernel
theorem own_d18_17 : decode jdk_65_method_132_code 17 = .ok (.aload_n 0, 1) := by decide +kernel
theorem own_d18_18 : decode jdk_65_method_132_code 18 = .ok (.invokevirtual 310, 3) := by decide +kernel
theorem own_d18_21 : decode jdk_65_method_132_code 21 = .ok (.checkcast 311, 3) := by decide +kernel
theorem own_d18_24 : decode jdk_65_method_132_code 24 = .ok (.areturn, 1) := by decide +kernel
theorem own_cor_pn : plainName "java/util/Arrays" = true := by first | (simp [plainName, overriddenIn]; done) | decide +kernel
theorem own_cor_ef (m : MethodId) (b : Addr) (i : Int32) (j : Int32) : entryFrame m #[(.ref b), (.int i), (.int j)] 3 = mkF m 0 #[.val (.ref b), .val (.int i), .val (.int j)] [] := by first | (simp [entryFrame, mkF, argsToLocals, Value.category]; done) | rfl
def own_cor_Q (Z : State) (b : Addr) (i : Int32) (j : Int32) (k : ClassId) (vs : List Value) (h0 : Heap) (n0 : Nat) (v : Option Value) (h : Heap) (L : List Loc) : Prop := ∃ d : Addr, v = some (.ref d) ∧ Fr n0 L ∧ Keep h0 h [] ∧ h0.size ≤ d ∧ Arv Z h d k .byte (2 : Int32) vs (.int (0 : Int32))
set_option maxRecDepth 65536 in
set_option maxHeartbeats 40000000 in
theorem own_cor (l : Launch) (Z : State) (a0 : Array Value) (hw : ∀ d ∈ tables_1, d.before a0 Z = true) (ws : List Jvm.Cond) (b : Addr) (i : Int32) (j : Int32) (k : ClassId) (vs : List Value) (h0 : Heap) (n0 : Nat) (Z0 : n0 ≤ h0.size) (Av : Arv Z h0 b k .byte (2 : Int32) vs (.int (0 : Int32))) (Eb : Exa Z h0 b "[B") (hi : i = 0) (hj : j = 2) :
    MetFree l (⟨"java/util/Arrays", "copyOfRange", "([BII)[B"⟩ : MethodName) (head1 (Jvm.Cond.code (⟨"java/util/Arrays", "copyOfRange", "([BII)[B"⟩ : MethodName) jdk_65_method_132_code 3 (some (.array .byte)) :: ws) ({ frames := 1, cells := 1, slots := 2, locals := 14 } : Room)) (fun ars U => ars = #[(.ref b), (.int i), (.int j)] ∧ Z.Warmed39 U.vm ∧ U.heap = h0) (fun _ _ _ _ _ => True) (fun _ U o U' => ∃ v L, o = .returned v ∧ own_cor_Q Z b i j k vs h0 n0 v U'.heap L ∧ FrameEnd U o U' L ({ frames := 1, cells := 1, slots := 2, locals := 14 } : Room).cells ({ frames := 1, cells := 1, slots := 2, locals := 14 } : Room).slots) := by
  refine MetFree.of_bodySF (plainFor_of_name own_cor_pn) hisR ?_
  intro p e s m args below meth c s₁ Bd hml0 hP hK
  obtain ⟨rfl, hZ, hh⟩ := hP
  have hx := Bd.exec
  have hby := Bd.bytes
  have hml : c.maxLocals = 3 := hml0
  have hown : s.vm.findClass "java/util/Arrays" = some m.cls := findClass_of_methodNamed Bd.named
  have hnm := (name_of_methodNamed Bd.named Bd.method).1
  have X0 : Stand p l e ({ frames := 1, cells := 1, slots := 2, locals := 14 } : Room) s m #[(.ref b), (.int i), (.int j)] below meth c s₁ [] 0 0 := Stand.of_body Bd
  have e0 : s₁.heap = h0 := by rw [← hh, Bd.state]; rfl
  have N0 := Fr.nil n0
  generalize hS0 : s₁.setTop (entryFrame m #[(.ref b), (.int i), (.int j)] 3) = S0
  have c0 : Steps p.tables e below S0 (s₁.setTop (mkF m 0 #[.val (.ref b), .val (.int i), .val (.int j)] [])) := by rw [← hS0]; exact castTop (own_cor_ef m b i j) (Steps.refl _)
  have K0 : Keep h0 h0 [] := Keep.refl _ _
  subst hi hj
  obtain ⟨cl, Ar, q1, S, q3, H, G⟩ := Av
  have c1 : Steps p.tables e below S0 (s₁.setTop (mkF m 1 #[.val (.ref b), .val (.int (0 : Int32)), .val (.int (2 : Int32))] [(.int (0 : Int32))])) := c0.trans (by
    refine XS.iloadN X0.here hx rfl (hb hby own_d18_0) rfl ?_
    exact Steps.refl _)
  have c2 : Steps p.tables e below S0 (s₁.setTop (mkF m 4 #[.val (.ref b), .val (.int (0 : Int32)), .val (.int (2 : Int32))] [])) := c1.trans (by
    refine XS.ifNo X0.here hx rfl (hb hby own_d18_1) rfl ((if0 _ _).trans (teq rfl).2) ?_
    exact Steps.refl _)
  have c3 : Steps p.tables e below S0 (s₁.setTop (mkF m 6 #[.val (.ref b), .val (.int (0 : Int32)), .val (.int (2 : Int32))] [(.ref b), (.int (2 : Int32))])) := c2.trans (by
    refine XS.iloadN X0.here hx rfl (hb hby own_d18_4) rfl ?_
    show Steps p.tables e below (s₁.setTop (mkF m 5 #[.val (.ref b), .val (.int (0 : Int32)), .val (.int (2 : Int32))] [(.int (2 : Int32))])) _
    refine XS.aloadN X0.here hx rfl (hb hby own_d18_5) rfl rfl ?_
    exact Steps.refl _)
  have c4 : Steps p.tables e below S0 (s₁.setTop (mkF m 7 #[.val (.ref b), .val (.int (0 : Int32)), .val (.int (2 : Int32))] [(.int (2 : Int32)), (.int (2 : Int32))])) := c3.trans (by
    refine X0.arraylength hx (by rw [e0]; exact Ar.1) (State.isArrayOf_alike hZ.alike Ar.2.1) (g := (mkF m 6 #[.val (.ref b), .val (.int (0 : Int32)), .val (.int (2 : Int32))] [(.ref b), (.int (2 : Int32))])) rfl rfl (hb hby own_d18_6) _ ?_
    rw [len_of S q3]
    exact Steps.refl _)
  have c5 : Steps p.tables e below S0 (s₁.setTop (mkF m 17 #[.val (.ref b), .val (.int (0 : Int32)), .val (.int (2 : Int32))] [])) := c4.trans (by
    refine XS.icmpYes X0.here hx rfl (pc0 := 7) (pc' := 17) rfl (hb hby own_d18_7) rfl (teq rfl).1 (by decide) (by decide) ?_
    exact Steps.refl _)
  have c6 : Steps p.tables e below S0 (s₁.setTop (mkF m 18 #[.val (.ref b), .val (.int (0 : Int32)), .val (.int (2 : Int32))] [(.ref b)])) := c5.trans (by
    refine XS.aloadN X0.here hx rfl (hb hby own_d18_17) rfl rfl ?_
    exact Steps.refl _)
  obtain ⟨T7, h7, X7, e7, E7, A7, B7, st7⟩ := cloneA X0 hx hZ hown (hw _ (List.mem_of_getElem? (i := 112) rfl)) (hw _ (List.mem_of_getElem? (i := 113) rfl)) (hw _ (List.mem_of_getElem? (i := 117) rfl)) (hw _ (List.mem_of_getElem? (i := 115) rfl)) (hw _ (List.mem_of_getElem? (i := 116) rfl)) (hw _ (List.mem_of_getElem? (i := 118) rfl)) e0 Ar Eb (fitC_of Ar (fun i hi v hv => by rw [H i hi] at hv; cases hv; exact G i hi)) (g := (mkF m 18 #[.val (.ref b), .val (.int (0 : Int32)), .val (.int (2 : Int32))] [(.ref b)])) rfl (by rw [hml]; rfl) (rest := []) rfl (hb hby own_d18_18) (by decide) (W := 0) (cap := 2) (by show 2 * 0 + _ ≤ _; exact Nat.le_of_eq rfl) (by decide) (by rw [S]; decide) (by decide) (by decide)
  obtain ⟨d, g7⟩ : ∃ z, z = h0.size := ⟨_, rfl⟩
  have ne_b_d : b ≠ d := Nat.ne_of_lt (Nat.lt_of_lt_of_le Eb.lt (Nat.le_of_eq g7.symm))
  have sz_d : h0.size ≤ d := Nat.le_trans K0.1 (Nat.le_of_eq g7.symm)
  have g_d : n0 ≤ d := Nat.le_trans Z0 sz_d
  rw [← g7] at A7 B7 st7
  have c8 : Steps p.tables e below S0 (T7.setTop (mkF m 21 #[.val (.ref b), .val (.int (0 : Int32)), .val (.int (2 : Int32))] [(.ref d)])) := c6.trans (by
    refine st7 _ ?_
    exact Steps.refl _)
  have f7_Eb := Eb.ext E7
  have K7 := K0.ext E7
  obtain ⟨T9, X9, e9, st9⟩ := castY X7 hx hZ hown (hw _ (List.mem_of_getElem? (i := 119) rfl)) e7 (Ins.self B7) (g := (mkF m 21 #[.val (.ref b), .val (.int (0 : Int32)), .val (.int (2 : Int32))] [(.ref d)])) rfl rfl (hb hby own_d18_21)
  have c10 : Steps p.tables e below S0 (T9.setTop (mkF m 24 #[.val (.ref b), .val (.int (0 : Int32)), .val (.int (2 : Int32))] [(.ref d)])) := c8.trans (by
    refine st9 _ ?_
    exact Steps.refl _)
  obtain ⟨fs, hr, hrun, hended, hW, hsame⟩ := X9.leave (v := some (.ref d)) (fun h => by rw [Bd.returns] at h; cases h)
  exact ⟨_, _, c10.trans (retOut X9 hx (t := (.array .byte)) (i := .areturn) Bd.returns rfl (Or.inr (Or.inr (Or.inr (Or.inr ⟨rfl, rfl, rfl⟩)))) (hb hby own_d18_24) hr), hrun, hended, _, _, rfl, (by rw [show (T9.setFrames fs).heap = h7 from e9]; exact ⟨d, rfl, N0, K7, sz_d, ⟨_, A7, q1, S, q3, H, G⟩⟩), ⟨_, rfl⟩, hW, hsame.mono (by decide) (by decide)⟩
theorem own_d19_0 : decode jdk_42_method_150_code 0 = .ok (.aload_n 0, 1) := by decide +kernel
theorem own_d19_1 : decode jdk_42_method_150_code 1 = .ok (.invokespecial 1, 3) := by decide +kernel
theorem own_d19_4 : decode jdk_42_method_150_code 4 = .ok (.aload_n 1, 1) := by decide +kernel
theorem own_d19_5 : decode jdk_42_method_150_code 5 = .ok (.invokevirtual 552, 3) := by decide +kernel
theorem own_d19_8 : decode jdk_42_method_150_code 8 = .ok (.astore_n 3, 1) := by decide +kernel
theorem own_d19_9 : decode jdk_42_method_150_code 9 = .ok (.aload_n 1, 1) := by decide +kernel
theorem own_d19_10 : decode jdk_42_method_150_code 10 = .ok (.invokevirtual 549, 3) := by decide +kernel
theorem own_d19_13 : decode jdk_42_method_150_code 13 = .ok (.istore 4, 2) := by decide +kernel
theorem own_d19_15 : decode jdk_42_method_150_code 15 = .ok (.aload_n 1, 1) := by decide +kernel
theorem own_d19_16 : decode jdk_42_method_150_code 16 = .ok (.invokevirtual 1047, 3) := by decide +kernel
theorem own_d19_19 : decode jdk_42_method_150_code 19 = .ok (.ifCond .eq 22, 3) := by decide +kernel
theorem own_d19_22 : decode jdk_42_method_150_code 22 = .ok (.aload_n 0, 1) := by decide +kernel
theorem own_d19_23 : decode jdk_42_method_150_code 23 = .ok (.iconst 0, 1) := by decide +kernel
theorem own_d19_24 : decode jdk_42_method_150_code 24 = .ok (.putfield 15, 3) := by decide +kernel
theorem own_d19_27 : decode jdk_42_method_150_code 27 = .ok (.aload_n 0, 1) := by decide +kernel
theorem own_d19_28 : decode jdk_42_method_150_code 28 = .ok (.aload_n 3, 1) := by decide +kernel
theorem own_d19_29 : decode jdk_42_method_150_code 29 = .ok (.iconst 0, 1) := by decide +kernel
theorem own_d19_30 : decode jdk_42_method_150_code 30 = .ok (.iload 4, 2) := by decide +kernel
theorem own_d19_32 : decode jdk_42_method_150_code 32 = .ok (.invokestatic 54, 3) := by decide +kernel
theorem own_d19_35 : decode jdk_42_method_150_code 35 = .ok (.putfield 9, 3) := by decide +kernel
theorem own_d19_38 : decode jdk_42_method_150_code 38 = .ok (.goto 59, 3) := by decide +kernel
theorem own_d19_41 : decode jdk_42_method_150_code 41 = .ok (.getstatic 38, 3) := by decide +kernel
theorem own_d19_44 : decode jdk_42_method_150_code 44 = .ok (.ifCond .eq 35, 3) := by decide +kernel
theorem own_d19_47 : decode jdk_42_method_150_code 47 = .ok (.aload_n 1, 1) := by decide +kernel
theorem own_d19_48 : decode jdk_42_method_150_code 48 = .ok (.getfield 1048, 3) := by decide +kernel
theorem own_d19_51 : decode jdk_42_method_150_code 51 = .ok (.ifCond .eq 28, 3) := by decide +kernel
theorem own_d19_54 : decode jdk_42_method_150_code 54 = .ok (.aload_n 0, 1) := by decide +kernel
theorem own_d19_55 : decode jdk_42_method_150_code 55 = .ok (.aload_n 3, 1) := by decide +kernel
theorem own_d19_56 : decode jdk_42_method_150_code 56 = .ok (.iconst 0, 1) := by decide +kernel
theorem own_d19_57 : decode jdk_42_method_150_code 57 = .ok (.iload 4, 2) := by decide +kernel
theorem own_d19_59 : decode jdk_42_method_150_code 59 = .ok (.invokestatic 1051, 3) := by decide +kernel
theorem own_d19_62 : decode jdk_42_method_150_code 62 = .ok (.putfield 9, 3) := by decide +kernel
theorem own_d19_65 : decode jdk_42_method_150_code 65 = .ok (.aload_n 0, 1) := by decide +kernel
theorem own_d19_66 : decode jdk_42_method_150_code 66 = .ok (.aload_n 0, 1) := by decide +kernel
theorem own_d19_67 : decode jdk_42_method_150_code 67 = .ok (.getfield 9, 3) := by decide +kernel
theorem own_d19_70 : decode jdk_42_method_150_code 70 = .ok (.iload 4, 2) := by decide +kernel
theorem own_d19_72 : decode jdk_42_method_150_code 72 = .ok (.invokestatic 47, 3) := by decide +kernel
theorem own_d19_75 : decode jdk_42_method_150_code 75 = .ok (.putfield 15, 3) := by decide +kernel
theorem own_d19_78 : decode jdk_42_method_150_code 78 = .ok (.return_, 1) := by decide +kernel
theorem own_d19_79 : decode jdk_42_method_150_code 79 = .ok (.aload_n 0, 1) := by decide +kernel
theorem own_d19_80 : decode jdk_42_method_150_code 80 = .ok (.iconst 1, 1) := by decide +kernel
theorem own_d19_81 : decode jdk_42_method_150_code 81 = .ok (.putfield 15, 3) := by decide +kernel
theorem own_d19_84 : decode jdk_42_method_150_code 84 = .ok (.aload_n 0, 1) := by decide +kernel
theorem own_d19_85 : decode jdk_42_method_150_code 85 = .ok (.aload_n 3, 1) := by decide +kernel
theorem own_d19_86 : decode jdk_42_method_150_code 86 = .ok (.iconst 0, 1) := by decide +kernel
theorem own_d19_87 : decode jdk_42_method_150_code 87 = .ok (.iload 4, 2) := by decide +kernel
theorem own_d19_89 : decode jdk_42_method_150_code 89 = .ok (.iconst 1, 1) := by decide +kernel
theorem own_d19_90 : decode jdk_42_method_150_code 90 = .ok (.ishl, 1) := by decide +kernel
theorem own_d19_91 : decode jdk_42_method_150_code 91 = .ok (.invokestatic 54, 3) := by decide +kernel
theorem own_d19_94 : decode jdk_42_method_150_code 94 = .ok (.putfield 9, 3) := by decide +kernel
theorem own_d19_97 : decode jdk_42_method_150_code 97 = .ok (.return_, 1) := by decide +kernel
theorem own_sai_pn : plainName "java/lang/String" = true := by first | (simp [plainName, overriddenIn]; done) | decide +kernel
theorem own_sai_ef (m : MethodId) (a : Addr) (s0 : Addr) : entryFrame m #[(.ref a), (.ref s0), .null] 5 = mkF m 0 #[.val (.ref a), .val (.ref s0), .val .null, .unset, .unset] [] := by first | (simp [entryFrame, mkF, argsToLocals, Value.category]; done) | rfl
def own_sai_Q (Z : State) (a : Addr) (s0 : Addr) (ch : Int32) (cs : Int32) (b : Addr) (k : ClassId) (h0 : Heap) (n0 : Nat) (v : Option Value) (h : Heap) (L : List Loc) : Prop := v = none ∧ Fr n0 L ∧ Keep h0 h [a] ∧ ∃ (d : Addr), h0.size ≤ d ∧ Exa Z h a "java/lang/String" ∧ Fld Z h a "java/lang/String" "value" "[B" (.ref d) ∧ Fld Z h a "java/lang/String" "coder" "B" (.int (0 : Int32)) ∧ Arv Z h d k .byte (2 : Int32) [.int ch, .int ch] (.int (0 : Int32))
set_option maxRecDepth 65536 in
set_option maxHeartbeats 40000000 in
theorem own_sai (l : Launch) (Z : State) (a0 : Array Value) (hw : ∀ d ∈ tables_1, d.before a0 Z = true) (ws : List Jvm.Cond) (a : Addr) (s0 : Addr) (ch : Int32) (cs : Int32) (b : Addr) (k : ClassId) (h0 : Heap) (n0 : Nat) (Z0 : n0 ≤ h0.size) (SC : Sta Z Z.heap "java/lang/String" "COMPACT_STRINGS" "Z" (.int cs)) (hcs : ¬ cs = 0) (O : Old Z n0 h0) (Ee : Exa Z h0 s0 "java/lang/StringBuilder") (Vf : Fld Z h0 s0 "java/lang/AbstractStringBuilder" "value" "[B" (.ref b)) (Cf : Fld Z h0 s0 "java/lang/AbstractStringBuilder" "coder" "B" (.int (0 : Int32))) (Nf : Fld Z h0 s0 "java/lang/AbstractStringBuilder" "count" "I" (.int (2 : Int32))) (Av : Arv Z h0 b k .byte (2 : Int32) [.int ch, .int ch] (.int (0 : Int32))) (Eb : Exa Z h0 b "[B") (Te : Exa Z h0 a "java/lang/String") (Tv : Fld Z h0 a "java/lang/String" "value" "[B" .null) (Tc : Fld Z h0 a "java/lang/String" "coder" "B" (.int (0 : Int32))) (ga : n0 ≤ a) (nas : s0 ≠ a) (nab : b ≠ a) :
    MetFree l (⟨"java/lang/String", "<init>", "(Ljava/lang/AbstractStringBuilder;Ljava/lang/Void;)V"⟩ : MethodName) (head1 (Jvm.Cond.code (⟨"java/lang/String", "<init>", "(Ljava/lang/AbstractStringBuilder;Ljava/lang/Void;)V"⟩ : MethodName) jdk_42_method_150_code 5 none :: ws) ({ frames := 2, cells := 1, slots := 2, locals := 29 } : Room)) (fun ars U => ars = #[(.ref a), (.ref s0), .null] ∧ Z.Warmed39 U.vm ∧ U.heap = h0) (fun _ _ _ _ _ => True) (fun _ U o U' => ∃ v L, o = .returned v ∧ own_sai_Q Z a s0 ch cs b k h0 n0 v U'.heap L ∧ FrameEnd U o U' L ({ frames := 2, cells := 1, slots := 2, locals := 29 } : Room).cells ({ frames := 2, cells := 1, slots := 2, locals := 29 } : Room).slots) := by
  refine MetFree.of_bodySF (plainFor_of_name own_sai_pn) hisR ?_
  intro p e s m args below meth c s₁ Bd hml0 hP hK
  obtain ⟨rfl, hZ, hh⟩ := hP
  have hx := Bd.exec
  have hby := Bd.bytes
  have hml : c.maxLocals = 5 := hml0
  have hown : s.vm.findClass "java/lang/String" = some m.cls := findClass_of_methodNamed Bd.named
  have hnm := (name_of_methodNamed Bd.named Bd.method).1
  have X0 : Stand p l e ({ frames := 2, cells := 1, slots := 2, locals := 29 } : Room) s m #[(.ref a), (.ref s0), .null] below meth c s₁ [] 0 0 := Stand.of_body Bd
  have e0 : s₁.heap = h0 := by rw [← hh, Bd.state]; rfl
  have N0 := Fr.nil n0
  generalize hS0 : s₁.setTop (entryFrame m #[(.ref a), (.ref s0), .null] 5) = S0
  have c0 : Steps p.tables e below S0 (s₁.setTop (mkF m 0 #[.val (.ref a), .val (.ref s0), .val .null, .unset, .unset] [])) := by rw [← hS0]; exact castTop (own_sai_ef m a s0) (Steps.refl _)
  have K0 : Keep h0 h0 [a] := Keep.refl _ _
  have c1 : Steps p.tables e below S0 (s₁.setTop (mkF m 1 #[.val (.ref a), .val (.ref s0), .val .null, .unset, .unset] [(.ref a)])) := c0.trans (by
    refine XS.aloadN X0.here hx rfl (hb hby own_d19_0) rfl rfl ?_
    exact Steps.refl _)
  obtain ⟨T2, X2, e2, st2⟩ := initO X0 hx hZ hown (hw _ (List.mem_of_getElem? (i := 93) rfl)) (hw _ (List.mem_of_getElem? (i := 45) rfl)) (hw _ (List.mem_of_getElem? (i := 46) rfl)) e0 (g := (mkF m 1 #[.val (.ref a), .val (.ref s0), .val .null, .unset, .unset] [(.ref a)])) rfl (by rw [hml]; rfl) rfl (hb hby own_d19_1) (by decide) (W := 0) (by show 2 * 0 + _ ≤ _; exact Nat.le_of_eq rfl) (by decide)
  have c3 : Steps p.tables e below S0 (T2.setTop (mkF m 4 #[.val (.ref a), .val (.ref s0), .val .null, .unset, .unset] [])) := c1.trans (by
    refine st2 _ ?_
    exact Steps.refl _)
  have c4 : Steps p.tables e below S0 (T2.setTop (mkF m 5 #[.val (.ref a), .val (.ref s0), .val .null, .unset, .unset] [(.ref s0)])) := c3.trans (by
    refine XS.aloadN X2.here hx rfl (hb hby own_d19_4) rfl rfl ?_
    exact Steps.refl _)
  obtain ⟨cq5, kq5, q5a, q5b, q5c⟩ := isOf hZ e2 Ee
  obtain ⟨_, _, ⟨T5, L5, k5, n5⟩, -, X5, ⟨Lc5, hQ5, l5, y5, z5⟩, st5⟩ := X2.virtualBack hx (y := (⟨"java/lang/AbstractStringBuilder", "getValue", "()[B"⟩ : MethodName)) (z := (⟨"java/lang/AbstractStringBuilder", "getValue", "()[B"⟩ : MethodName)) hown (mvT hZ (hw _ (List.mem_of_getElem? (i := 94) rfl))) (mvT hZ (hw _ (List.mem_of_getElem? (i := 95) rfl))) (notFace_of_selects (args := #[]) (mvT hZ (hw _ (List.mem_of_getElem? (i := 97) rfl)))) (mvT hZ (hw _ (List.mem_of_getElem? (i := 97) rfl))) (mvT hZ (hw _ (List.mem_of_getElem? (i := 96) rfl))) (by decide) (backOf (W := 0) (own_gv l Z a0 hw [] s0 b h0 n0 Z0 Vf) hZ (hw _ (List.mem_of_getElem? (i := 98) rfl)) (hw _ (List.mem_of_getElem? (i := 42) rfl)) (by decide) (by decide)) q5a q5c (g := (mkF m 5 #[.val (.ref a), .val (.ref s0), .val .null, .unset, .unset] [(.ref s0)])) rfl (by rw [hml]; rfl) (Steps.refl _) (argsL := []) (rest := []) (lenOf own_pd9 rfl) rfl (by show 2 * 0 + _ ≤ _; exact Nat.le_of_eq rfl) (hb hby own_d19_5) (fun _ _ => ⟨rfl, e2, (Nat.le_of_ble_eq_true rfl), (Nat.le_of_ble_eq_true rfl)⟩)
  dsimp only [Pt.U, Pt.locs, Pt.cells, Pt.slots] at X5 l5 y5 z5 st5 hQ5
  subst l5 y5 z5
  obtain ⟨rfl, N5q, e1⟩ := hQ5
  have N5 := Fr.app N0 N5q
  have c6 : Steps p.tables e below S0 (T5.setTop (mkF m 8 #[.val (.ref a), .val (.ref s0), .val .null, .unset, .unset] [(.ref b)])) := c4.trans (by
    refine st5.trans ?_
    exact Steps.refl _)
  have c7 : Steps p.tables e below S0 (T5.setTop (mkF m 10 #[.val (.ref a), .val (.ref s0), .val .null, .val (.ref b), .unset] [(.ref s0)])) := c6.trans (by
    refine XS.astoreN X5.here hx rfl (hb hby own_d19_8) rfl rfl (l' := #[.val (.ref a), .val (.ref s0), .val .null, .val (.ref b), .unset]) rfl ?_
    show Steps p.tables e below (T5.setTop (mkF m 9 #[.val (.ref a), .val (.ref s0), .val .null, .val (.ref b), .unset] [])) _
    refine XS.aloadN X5.here hx rfl (hb hby own_d19_9) rfl rfl ?_
    exact Steps.refl _)
  obtain ⟨cq8, kq8, q8a, q8b, q8c⟩ := isOf hZ e1 Ee
  obtain ⟨_, _, ⟨T8, L8, k8, n8⟩, -, X8, ⟨Lc8, hQ8, l8, y8, z8⟩, st8⟩ := X5.virtualBack hx (y := (⟨"java/lang/AbstractStringBuilder", "length", "()I"⟩ : MethodName)) (z := (⟨"java/lang/StringBuilder", "length", "()I"⟩ : MethodName)) hown (mvT hZ (hw _ (List.mem_of_getElem? (i := 99) rfl))) (mvT hZ (hw _ (List.mem_of_getElem? (i := 100) rfl))) (own_nf (y := (⟨"java/lang/AbstractStringBuilder", "isLatin1", "()Z"⟩ : MethodName)) rfl (notFace_of_selects (args := #[]) (mvT hZ (hw _ (List.mem_of_getElem? (i := 74) rfl)))) (mvT hZ (args := #[]) (hw _ (List.mem_of_getElem? (i := 73) rfl)))) (mvT hZ (hw _ (List.mem_of_getElem? (i := 102) rfl))) (mvT hZ (hw _ (List.mem_of_getElem? (i := 103) rfl))) (by decide) (backOf (W := 0) (own_sln l Z a0 hw [] s0 2 h0 n0 Z0 Ee Nf) hZ (hw _ (List.mem_of_getElem? (i := 104) rfl)) (hw _ (List.mem_of_getElem? (i := 21) rfl)) (by decide) (by decide)) q8a q8c (g := (mkF m 10 #[.val (.ref a), .val (.ref s0), .val .null, .val (.ref b), .unset] [(.ref s0)])) rfl (by rw [hml]; rfl) (Steps.refl _) (argsL := []) (rest := []) (lenOf own_pd8 rfl) rfl (by show 2 * 0 + _ ≤ _; exact Nat.le_of_eq rfl) (hb hby own_d19_10) (fun _ _ => ⟨rfl, e1, (Nat.le_of_ble_eq_true rfl), (Nat.le_of_ble_eq_true rfl)⟩)
  dsimp only [Pt.U, Pt.locs, Pt.cells, Pt.slots] at X8 l8 y8 z8 st8 hQ8
  subst l8 y8 z8
  obtain ⟨rfl, N8q, e2⟩ := hQ8
  have N8 := Fr.app N5 N8q
  have c9 : Steps p.tables e below S0 (T8.setTop (mkF m 13 #[.val (.ref a), .val (.ref s0), .val .null, .val (.ref b), .unset] [(.int (2 : Int32))])) := c7.trans (by
    refine st8.trans ?_
    exact Steps.refl _)
  have c10 : Steps p.tables e below S0 (T8.setTop (mkF m 16 #[.val (.ref a), .val (.ref s0), .val .null, .val (.ref b), .val (.int (2 : Int32))] [(.ref s0)])) := c9.trans (by
    refine XS.istore X8.here hx rfl (hb hby own_d19_13) rfl (l' := #[.val (.ref a), .val (.ref s0), .val .null, .val (.ref b), .val (.int (2 : Int32))]) rfl ?_
    show Steps p.tables e below (T8.setTop (mkF m 15 #[.val (.ref a), .val (.ref s0), .val .null, .val (.ref b), .val (.int (2 : Int32))] [])) _
    refine XS.aloadN X8.here hx rfl (hb hby own_d19_15) rfl rfl ?_
    exact Steps.refl _)
  obtain ⟨cq11, kq11, q11a, q11b, q11c⟩ := isOf hZ e2 Ee
  obtain ⟨_, _, ⟨T11, L11, k11, n11⟩, -, X11, ⟨Lc11, hQ11, l11, y11, z11⟩, st11⟩ := X8.virtualBack hx (y := (⟨"java/lang/AbstractStringBuilder", "isLatin1", "()Z"⟩ : MethodName)) (z := (⟨"java/lang/AbstractStringBuilder", "isLatin1", "()Z"⟩ : MethodName)) hown (mvT hZ (hw _ (List.mem_of_getElem? (i := 107) rfl))) (mvT hZ (hw _ (List.mem_of_getElem? (i := 72) rfl))) (notFace_of_selects (args := #[]) (mvT hZ (hw _ (List.mem_of_getElem? (i := 74) rfl)))) (mvT hZ (hw _ (List.mem_of_getElem? (i := 74) rfl))) (mvT hZ (hw _ (List.mem_of_getElem? (i := 73) rfl))) (by decide) (backOf (W := 0) (own_abl l Z a0 hw [] s0 cs h0 n0 Z0 SC hcs O Cf) hZ (hw _ (List.mem_of_getElem? (i := 75) rfl)) (hw _ (List.mem_of_getElem? (i := 42) rfl)) (by decide) (by decide)) q11a q11c (g := (mkF m 16 #[.val (.ref a), .val (.ref s0), .val .null, .val (.ref b), .val (.int (2 : Int32))] [(.ref s0)])) rfl (by rw [hml]; rfl) (Steps.refl _) (argsL := []) (rest := []) (lenOf own_pd3 rfl) rfl (by show 2 * 0 + _ ≤ _; exact Nat.le_of_eq rfl) (hb hby own_d19_16) (fun _ _ => ⟨rfl, e2, (Nat.le_of_ble_eq_true rfl), (Nat.le_of_ble_eq_true rfl)⟩)
  dsimp only [Pt.U, Pt.locs, Pt.cells, Pt.slots] at X11 l11 y11 z11 st11 hQ11
  subst l11 y11 z11
  obtain ⟨rfl, N11q, e3⟩ := hQ11
  have N11 := Fr.app N8 N11q
  have c12 : Steps p.tables e below S0 (T11.setTop (mkF m 19 #[.val (.ref a), .val (.ref s0), .val .null, .val (.ref b), .val (.int (2 : Int32))] [(.int (1 : Int32))])) := c10.trans (by
    refine st11.trans ?_
    exact Steps.refl _)
  have c13 : Steps p.tables e below S0 (T11.setTop (mkF m 22 #[.val (.ref a), .val (.ref s0), .val .null, .val (.ref b), .val (.int (2 : Int32))] [])) := c12.trans (by
    refine XS.ifNo X11.here hx rfl (hb hby own_d19_19) rfl ((if0 _ _).trans (feq (by decide)).1) ?_
    exact Steps.refl _)
  have c14 : Steps p.tables e below S0 (T11.setTop (mkF m 24 #[.val (.ref a), .val (.ref s0), .val .null, .val (.ref b), .val (.int (2 : Int32))] [(.int (0 : Int32)), (.ref a)])) := c13.trans (by
    refine XS.aloadN X11.here hx rfl (hb hby own_d19_22) rfl rfl ?_
    show Steps p.tables e below (T11.setTop (mkF m 23 #[.val (.ref a), .val (.ref s0), .val .null, .val (.ref b), .val (.int (2 : Int32))] [(.ref a)])) _
    refine XS.iconst X11.here hx rfl (hb hby own_d19_23) ?_
    exact Steps.refl _)
  obtain ⟨T15, h15, X15, e15, W15, st15⟩ := putFN X11 hx hZ hown (hw _ (List.mem_of_getElem? (i := 34) rfl)) Via.refl e3 Tc Te (Or.inr ⟨(hw _ (List.mem_of_getElem? (i := 11) rfl)), rfl, hnm⟩) (hw _ (List.mem_of_getElem? (i := 8) rfl)) (ty := .byte) (v' := (.int (0 : Int32))) (by decide) rfl (by first | rfl | decide) (g := (mkF m 24 #[.val (.ref a), .val (.ref s0), .val .null, .val (.ref b), .val (.int (2 : Int32))] [(.int (0 : Int32)), (.ref a)])) rfl rfl (hb hby own_d19_24)
  have c16 : Steps p.tables e below S0 (T15.setTop (mkF m 27 #[.val (.ref a), .val (.ref s0), .val .null, .val (.ref b), .val (.int (2 : Int32))] [])) := c14.trans (by
    refine st15 _ ?_
    exact Steps.refl _)
  have f15_Ee := Ee.wr W15
  have f15_Vf := Vf.other W15 (Or.inl nas)
  have f15_Cf := Cf.other W15 (Or.inl nas)
  have f15_Nf := Nf.other W15 (Or.inl nas)
  have f15_Av := Av.other W15 nab
  have f15_Eb := Eb.wr W15
  have f15_Te := Te.wr W15
  have f15_Tv := Tv.other W15 (Or.inr (slot_ne (Or.inr (hw _ (List.mem_of_getElem? (i := 10) rfl))) (Or.inr (hw _ (List.mem_of_getElem? (i := 11) rfl))) (by decide) (t := (.array .byte)) (t' := .byte) (by decide) (by decide)))
  have K15 := K0.wr W15 (Or.inl (List.mem_of_getElem? (i := 0) rfl))
  have O15 := O.wr W15 ga
  have N15 := Fr.snoc X15 N11 ga
  have f15_Tc := Tc.same W15
  have c17 : Steps p.tables e below S0 (T15.setTop (mkF m 32 #[.val (.ref a), .val (.ref s0), .val .null, .val (.ref b), .val (.int (2 : Int32))] [(.int (2 : Int32)), (.int (0 : Int32)), (.ref b), (.ref a)])) := c16.trans (by
    refine XS.aloadN X15.here hx rfl (hb hby own_d19_27) rfl rfl ?_
    show Steps p.tables e below (T15.setTop (mkF m 28 #[.val (.ref a), .val (.ref s0), .val .null, .val (.ref b), .val (.int (2 : Int32))] [(.ref a)])) _
    refine XS.aloadN X15.here hx rfl (hb hby own_d19_28) rfl rfl ?_
    show Steps p.tables e below (T15.setTop (mkF m 29 #[.val (.ref a), .val (.ref s0), .val .null, .val (.ref b), .val (.int (2 : Int32))] [(.ref b), (.ref a)])) _
    refine XS.iconst X15.here hx rfl (hb hby own_d19_29) ?_
    show Steps p.tables e below (T15.setTop (mkF m 30 #[.val (.ref a), .val (.ref s0), .val .null, .val (.ref b), .val (.int (2 : Int32))] [(.int (0 : Int32)), (.ref b), (.ref a)])) _
    refine XS.iload X15.here hx rfl (hb hby own_d19_30) rfl ?_
    exact Steps.refl _)
  obtain ⟨_, _, ⟨T18, L18, k18, n18⟩, -, X18, ⟨Lc18, hQ18, l18, y18, z18⟩, st18⟩ := Jvm.LawKit.callS X15 hx (y := (⟨"java/util/Arrays", "copyOfRange", "([BII)[B"⟩ : MethodName)) hown (mvT hZ (hw _ (List.mem_of_getElem? (i := 108) rfl))) (mvT hZ (hw _ (List.mem_of_getElem? (i := 109) rfl))) (mvT hZ (hw _ (List.mem_of_getElem? (i := 110) rfl))) (mvT hZ (hw _ (List.mem_of_getElem? (i := 111) rfl))) (by decide) (backOf (W := 1) (own_cor l Z a0 hw [] b 0 2 k _ h15 n0 (Nat.le_trans Z0 K15.1) f15_Av f15_Eb rfl rfl) hZ (hw _ (List.mem_of_getElem? (i := 111) rfl)) (hw _ (List.mem_of_getElem? (i := 110) rfl)) (by decide) (by decide)) (g := (mkF m 32 #[.val (.ref a), .val (.ref s0), .val .null, .val (.ref b), .val (.int (2 : Int32))] [(.int (2 : Int32)), (.int (0 : Int32)), (.ref b), (.ref a)])) rfl (by rw [hml]; rfl) (argsL := [(.ref b), (.int (0 : Int32)), (.int (2 : Int32))]) (rest := [(.ref a)]) (lenOf own_pd10 rfl) rfl (by show 2 * 0 + _ ≤ _; exact Nat.le_of_eq rfl) (hb hby own_d19_32) (fun _ _ => ⟨rfl, e15, (Nat.le_of_ble_eq_true rfl), (Nat.le_of_ble_eq_true rfl)⟩)
  dsimp only [Pt.U, Pt.locs, Pt.cells, Pt.slots] at X18 l18 y18 z18 st18 hQ18
  subst l18 y18 z18
  obtain ⟨d, rfl, N18q, Kd, szd0, Ad⟩ := hQ18
  have N18 := Fr.app N15 N18q
  have szd : h0.size ≤ d := Nat.le_trans K15.1 szd0
  have ne_a_d : a ≠ d := Nat.ne_of_lt (Nat.lt_of_lt_of_le f15_Te.lt szd0)
  have c19 : Steps p.tables e below S0 (T18.setTop (mkF m 35 #[.val (.ref a), .val (.ref s0), .val .null, .val (.ref b), .val (.int (2 : Int32))] [(.ref d), (.ref a)])) := c17.trans (by
    refine st18 _ ?_
    exact Steps.refl _)
  have f18_Ee := f15_Ee.keep Kd
  have f18_Vf := f15_Vf.keep Kd nin0
  have f18_Cf := f15_Cf.keep Kd nin0
  have f18_Nf := f15_Nf.keep Kd nin0
  have f18_Av := f15_Av.keep Kd nin0
  have f18_Eb := f15_Eb.keep Kd
  have f18_Te := f15_Te.keep Kd
  have f18_Tv := f15_Tv.keep Kd nin0
  have f18_Tc := f15_Tc.keep Kd nin0
  have K18 := K15.trans Kd all0
  have O18 := O15.keep Kd all0
  obtain ⟨T20, h20, X20, e20, W20, st20⟩ := putF X18 hx hZ hown (host := "") (Or.inl (hw _ (List.mem_of_getElem? (i := 27) rfl))) Via.refl rfl f18_Tv f18_Te (Or.inr ⟨(hw _ (List.mem_of_getElem? (i := 10) rfl)), rfl, hnm⟩) (hw _ (List.mem_of_getElem? (i := 8) rfl)) (ty := (.array .byte)) (by decide) rfl rfl (g := (mkF m 35 #[.val (.ref a), .val (.ref s0), .val .null, .val (.ref b), .val (.int (2 : Int32))] [(.ref d), (.ref a)])) rfl rfl (hb hby own_d19_35)
  have c21 : Steps p.tables e below S0 (T20.setTop (mkF m 38 #[.val (.ref a), .val (.ref s0), .val .null, .val (.ref b), .val (.int (2 : Int32))] [])) := c19.trans (by
    refine st20 _ ?_
    exact Steps.refl _)
  have f20_Ee := f18_Ee.wr W20
  have f20_Vf := f18_Vf.other W20 (Or.inl nas)
  have f20_Cf := f18_Cf.other W20 (Or.inl nas)
  have f20_Nf := f18_Nf.other W20 (Or.inl nas)
  have f20_Av := f18_Av.other W20 nab
  have f20_Eb := f18_Eb.wr W20
  have f20_Te := f18_Te.wr W20
  have f20_Tc := f18_Tc.other W20 (Or.inr (slot_ne (Or.inr (hw _ (List.mem_of_getElem? (i := 11) rfl))) (Or.inr (hw _ (List.mem_of_getElem? (i := 10) rfl))) (by decide) (t := .byte) (t' := (.array .byte)) (by decide) (by decide)))
  have f20_Ad := Ad.other W20 (Ne.symm ne_a_d)
  have K20 := K18.wr W20 (Or.inl (List.mem_of_getElem? (i := 0) rfl))
  have O20 := O18.wr W20 ga
  have N20 := Fr.snoc X20 N18 ga
  have f20_Tv := f18_Tv.same W20
  have c22 : Steps p.tables e below S0 (T20.setTop (mkF m 97 #[.val (.ref a), .val (.ref s0), .val .null, .val (.ref b), .val (.int (2 : Int32))] [])) := c21.trans (by
    refine XS.goto X20.here hx rfl (pc0 := 38) (pc' := 97) rfl (hb hby own_d19_38) (by decide) (by decide) ?_
    exact Steps.refl _)
  obtain ⟨fs, hr, hrun, hended, hW, hsame⟩ := X20.leave (v := none) (fun _ => rfl)
  exact ⟨_, _, c22.trans (X20.returnOut hx Bd.returns (hb hby own_d19_97) hr), hrun, hended, _, _, rfl, (by rw [show (T20.setFrames fs).heap = h20 from e20]; exact ⟨rfl, N20, K20, d, szd, f20_Te, f20_Tv, f20_Tc, f20_Ad⟩), ⟨_, rfl⟩, hW, hsame.mono (by decide) (by decide)⟩
theorem own_d20_0 : decode jdk_42_method_53_code 0 = .ok (.aload_n 0, 1) := by decide +kernel
theorem own_d20_1 : decode jdk_42_method_53_code 1 = .ok (.aload_n 1, 1) := by decide +kernel
theorem own_d20_2 : decode jdk_42_method_53_code 2 = .ok (.aconst_null, 1) := by decide +kernel
theorem own_d20_3 : decode jdk_42_method_53_code 3 = .ok (.invokespecial 489, 3) := by decide +kernel
theorem own_d20_6 : decode jdk_42_method_53_code 6 = .ok (.return_, 1) := by decide +kernel
theorem own_ssi_pn : plainName "java/lang/String" = true := by first | (simp [plainName, overriddenIn]; done) | decide +kernel
theorem own_ssi_ef (m : MethodId) (a : Addr) (s0 : Addr) : entryFrame m #[(.ref a), (.ref s0)] 2 = mkF m 0 #[.val (.ref a), .val (.ref s0)] [] := by first | (simp [entryFrame, mkF, argsToLocals, Value.category]; done) | rfl
def own_ssi_Q (Z : State) (a : Addr) (s0 : Addr) (ch : Int32) (cs : Int32) (b : Addr) (k : ClassId) (h0 : Heap) (n0 : Nat) (v : Option Value) (h : Heap) (L : List Loc) : Prop := v = none ∧ Fr n0 L ∧ Keep h0 h [a] ∧ ∃ (d : Addr), h0.size ≤ d ∧ Exa Z h a "java/lang/String" ∧ Fld Z h a "java/lang/String" "value" "[B" (.ref d) ∧ Fld Z h a "java/lang/String" "coder" "B" (.int (0 : Int32)) ∧ Arv Z h d k .byte (2 : Int32) [.int ch, .int ch] (.int (0 : Int32))
set_option maxRecDepth 65536 in
set_option maxHeartbeats 40000000 in
theorem own_ssi (l : Launch) (Z : State) (a0 : Array Value) (hw : ∀ d ∈ tables_1, d.before a0 Z = true) (ws : List Jvm.Cond) (a : Addr) (s0 : Addr) (ch : Int32) (cs : Int32) (b : Addr) (k : ClassId) (h0 : Heap) (n0 : Nat) (Z0 : n0 ≤ h0.size) (SC : Sta Z Z.heap "java/lang/String" "COMPACT_STRINGS" "Z" (.int cs)) (hcs : ¬ cs = 0) (O : Old Z n0 h0) (Ee : Exa Z h0 s0 "java/lang/StringBuilder") (Vf : Fld Z h0 s0 "java/lang/AbstractStringBuilder" "value" "[B" (.ref b)) (Cf : Fld Z h0 s0 "java/lang/AbstractStringBuilder" "coder" "B" (.int (0 : Int32))) (Nf : Fld Z h0 s0 "java/lang/AbstractStringBuilder" "count" "I" (.int (2 : Int32))) (Av : Arv Z h0 b k .byte (2 : Int32) [.int ch, .int ch] (.int (0 : Int32))) (Eb : Exa Z h0 b "[B") (Te : Exa Z h0 a "java/lang/String") (Tv : Fld Z h0 a "java/lang/String" "value" "[B" .null) (Tc : Fld Z h0 a "java/lang/String" "coder" "B" (.int (0 : Int32))) (ga : n0 ≤ a) (nas : s0 ≠ a) (nab : b ≠ a) :
    MetFree l (⟨"java/lang/String", "<init>", "(Ljava/lang/StringBuilder;)V"⟩ : MethodName) (head1 (Jvm.Cond.code (⟨"java/lang/String", "<init>", "(Ljava/lang/StringBuilder;)V"⟩ : MethodName) jdk_42_method_53_code 2 none :: ws) ({ frames := 3, cells := 1, slots := 2, locals := 45 } : Room)) (fun ars U => ars = #[(.ref a), (.ref s0)] ∧ Z.Warmed39 U.vm ∧ U.heap = h0) (fun _ _ _ _ _ => True) (fun _ U o U' => ∃ v L, o = .returned v ∧ own_ssi_Q Z a s0 ch cs b k h0 n0 v U'.heap L ∧ FrameEnd U o U' L ({ frames := 3, cells := 1, slots := 2, locals := 45 } : Room).cells ({ frames := 3, cells := 1, slots := 2, locals := 45 } : Room).slots) := by
  refine MetFree.of_bodySF (plainFor_of_name own_ssi_pn) hisR ?_
  intro p e s m args below meth c s₁ Bd hml0 hP hK
  obtain ⟨rfl, hZ, hh⟩ := hP
  have hx := Bd.exec
  have hby := Bd.bytes
  have hml : c.maxLocals = 2 := hml0
  have hown : s.vm.findClass "java/lang/String" = some m.cls := findClass_of_methodNamed Bd.named
  have hnm := (name_of_methodNamed Bd.named Bd.method).1
  have X0 : Stand p l e ({ frames := 3, cells := 1, slots := 2, locals := 45 } : Room) s m #[(.ref a), (.ref s0)] below meth c s₁ [] 0 0 := Stand.of_body Bd
  have e0 : s₁.heap = h0 := by rw [← hh, Bd.state]; rfl
  have N0 := Fr.nil n0
  generalize hS0 : s₁.setTop (entryFrame m #[(.ref a), (.ref s0)] 2) = S0
  have c0 : Steps p.tables e below S0 (s₁.setTop (mkF m 0 #[.val (.ref a), .val (.ref s0)] [])) := by rw [← hS0]; exact castTop (own_ssi_ef m a s0) (Steps.refl _)
  have K0 : Keep h0 h0 [a] := Keep.refl _ _
  have c1 : Steps p.tables e below S0 (s₁.setTop (mkF m 3 #[.val (.ref a), .val (.ref s0)] [.null, (.ref s0), (.ref a)])) := c0.trans (by
    refine XS.aloadN X0.here hx rfl (hb hby own_d20_0) rfl rfl ?_
    show Steps p.tables e below (s₁.setTop (mkF m 1 #[.val (.ref a), .val (.ref s0)] [(.ref a)])) _
    refine XS.aloadN X0.here hx rfl (hb hby own_d20_1) rfl rfl ?_
    show Steps p.tables e below (s₁.setTop (mkF m 2 #[.val (.ref a), .val (.ref s0)] [(.ref s0), (.ref a)])) _
    refine XS.aconstNull X0.here hx rfl (hb hby own_d20_2) ?_
    exact Steps.refl _)
  obtain ⟨_, _, ⟨T2, L2, k2, n2⟩, -, X2, ⟨Lc2, hQ2, l2, y2, z2⟩, st2⟩ := X0.specialBack hx (y := (⟨"java/lang/String", "<init>", "(Ljava/lang/AbstractStringBuilder;Ljava/lang/Void;)V"⟩ : MethodName)) rfl hown (mvT hZ (hw _ (List.mem_of_getElem? (i := 90) rfl))) (mvT hZ (hw _ (List.mem_of_getElem? (i := 91) rfl))) (mvT hZ (hw _ (List.mem_of_getElem? (i := 92) rfl))) (by decide) (backOf (W := 0) (own_sai l Z a0 hw [] a s0 ch cs b k h0 n0 Z0 SC hcs O Ee Vf Cf Nf Av Eb Te Tv Tc ga nas nab) hZ (hw _ (List.mem_of_getElem? (i := 92) rfl)) (hw _ (List.mem_of_getElem? (i := 7) rfl)) (by decide) (by decide)) (g := (mkF m 3 #[.val (.ref a), .val (.ref s0)] [.null, (.ref s0), (.ref a)])) rfl (by rw [hml]; rfl) (Steps.refl _) (a := a) (argsL := [(.ref s0), .null]) (rest := []) (lenOf own_pd11 rfl) rfl (by show 2 * 0 + _ ≤ _; exact Nat.le_of_eq rfl) (hb hby own_d20_3) (fun _ _ => ⟨rfl, e0, (Nat.le_of_ble_eq_true rfl), (Nat.le_of_ble_eq_true rfl)⟩)
  dsimp only [Pt.U, Pt.locs, Pt.cells, Pt.slots] at X2 l2 y2 z2 st2 hQ2
  subst l2 y2 z2
  obtain ⟨rfl, N2q, Kq, d, szd, Te, Tv, Tc, Ad⟩ := hQ2
  have N2 := Fr.app N0 N2q
  have c3 : Steps p.tables e below S0 (T2.setTop (mkF m 6 #[.val (.ref a), .val (.ref s0)] [])) := c1.trans (by
    refine st2.trans ?_
    exact Steps.refl _)
  obtain ⟨fs, hr, hrun, hended, hW, hsame⟩ := X2.leave (v := none) (fun _ => rfl)
  exact ⟨_, _, c3.trans (X2.returnOut hx Bd.returns (hb hby own_d20_6) hr), hrun, hended, _, _, rfl, ⟨rfl, N2, Kq, d, szd, Te, Tv, Tc, Ad⟩, ⟨_, rfl⟩, hW, hsame.mono (by decide) (by decide)⟩
theorem own_d21_0 : decode jdk_67_method_42_code 0 = .ok (.new 18, 3) := by decide +kernel
theorem own_d21_3 : decode jdk_67_method_42_code 3 = .ok (.dup, 1) := by decide +kernel
theorem own_d21_4 : decode jdk_67_method_42_code 4 = .ok (.aload_n 0, 1) := by decide +kernel
theorem own_d21_5 : decode jdk_67_method_42_code 5 = .ok (.invokespecial 137, 3) := by decide +kernel
theorem own_d21_8 : decode jdk_67_method_42_code 8 = .ok (.areturn, 1) := by decide +kernel
theorem own_tos_pn : plainName "java/lang/StringBuilder" = true := by first | (simp [plainName, overriddenIn]; done) | decide +kernel
theorem own_tos_ef (m : MethodId) (s0 : Addr) : entryFrame m #[(.ref s0)] 1 = mkF m 0 #[.val (.ref s0)] [] := by first | (simp [entryFrame, mkF, argsToLocals, Value.category]; done) | rfl
def own_tos_Q (Z : State) (s0 : Addr) (ch : Int32) (cs : Int32) (b : Addr) (k : ClassId) (h0 : Heap) (n0 : Nat) (v : Option Value) (h : Heap) (L : List Loc) : Prop := ∃ a : Addr, v = some (.ref a) ∧ Fr n0 L ∧ Keep h0 h [] ∧ ∃ (d : Addr), Exa Z h a "java/lang/String" ∧ Fld Z h a "java/lang/String" "value" "[B" (.ref d) ∧ Fld Z h a "java/lang/String" "coder" "B" (.int (0 : Int32)) ∧ Arv Z h d k .byte (2 : Int32) [.int ch, .int ch] (.int (0 : Int32))
set_option maxRecDepth 65536 in
set_option maxHeartbeats 40000000 in
theorem own_tos (l : Launch) (Z : State) (a0 : Array Value) (hw : ∀ d ∈ tables_1, d.before a0 Z = true) (ws : List Jvm.Cond) (s0 : Addr) (ch : Int32) (cs : Int32) (b : Addr) (k : ClassId) (h0 : Heap) (n0 : Nat) (Z0 : n0 ≤ h0.size) (SC : Sta Z Z.heap "java/lang/String" "COMPACT_STRINGS" "Z" (.int cs)) (hcs : ¬ cs = 0) (O : Old Z n0 h0) (Ee : Exa Z h0 s0 "java/lang/StringBuilder") (Vf : Fld Z h0 s0 "java/lang/AbstractStringBuilder" "value" "[B" (.ref b)) (Cf : Fld Z h0 s0 "java/lang/AbstractStringBuilder" "coder" "B" (.int (0 : Int32))) (Nf : Fld Z h0 s0 "java/lang/AbstractStringBuilder" "count" "I" (.int (2 : Int32))) (Av : Arv Z h0 b k .byte (2 : Int32) [.int ch, .int ch] (.int (0 : Int32))) (Eb : Exa Z h0 b "[B") :
    MetFree l (⟨"java/lang/StringBuilder", "toString", "()Ljava/lang/String;"⟩ : MethodName) (head1 (Jvm.Cond.code (⟨"java/lang/StringBuilder", "toString", "()Ljava/lang/String;"⟩ : MethodName) jdk_67_method_42_code 1 (some (.object "java/lang/String")) :: ws) ({ frames := 4, cells := 2, slots := 6, locals := 59 } : Room)) (fun ars U => ars = #[(.ref s0)] ∧ Z.Warmed39 U.vm ∧ U.heap = h0) (fun _ _ _ _ _ => True) (fun _ U o U' => ∃ v L, o = .returned v ∧ own_tos_Q Z s0 ch cs b k h0 n0 v U'.heap L ∧ FrameEnd U o U' L ({ frames := 4, cells := 2, slots := 6, locals := 59 } : Room).cells ({ frames := 4, cells := 2, slots := 6, locals := 59 } : Room).slots) := by
  refine MetFree.of_bodySF (plainFor_of_name own_tos_pn) hisR ?_
  intro p e s m args below meth c s₁ Bd hml0 hP hK
  obtain ⟨rfl, hZ, hh⟩ := hP
  have hx := Bd.exec
  have hby := Bd.bytes
  have hml : c.maxLocals = 1 := hml0
  have hown : s.vm.findClass "java/lang/StringBuilder" = some m.cls := findClass_of_methodNamed Bd.named
  have hnm := (name_of_methodNamed Bd.named Bd.method).1
  have X0 : Stand p l e ({ frames := 4, cells := 2, slots := 6, locals := 59 } : Room) s m #[(.ref s0)] below meth c s₁ [] 0 0 := Stand.of_body Bd
  have e0 : s₁.heap = h0 := by rw [← hh, Bd.state]; rfl
  have N0 := Fr.nil n0
  generalize hS0 : s₁.setTop (entryFrame m #[(.ref s0)] 1) = S0
  have c0 : Steps p.tables e below S0 (s₁.setTop (mkF m 0 #[.val (.ref s0)] [])) := by rw [← hS0]; exact castTop (own_tos_ef m s0) (Steps.refl _)
  have K0 : Keep h0 h0 [] := Keep.refl _ _
  obtain ⟨T1, h1, X1, e1, E1, A1, D1, -, st1⟩ := newO X0 hx hZ hown (hw _ (List.mem_of_getElem? (i := 85) rfl)) (hw _ (List.mem_of_getElem? (i := 8) rfl)) (hw _ (List.mem_of_getElem? (i := 7) rfl)) e0 (g := (mkF m 0 #[.val (.ref s0)] [])) rfl (hb hby own_d21_0) (by decide) (by decide)
  obtain ⟨a, g1⟩ : ∃ z, z = h0.size := ⟨_, rfl⟩
  have ne_s0_a : s0 ≠ a := Nat.ne_of_lt (Nat.lt_of_lt_of_le Ee.lt (Nat.le_of_eq g1.symm))
  have ne_b_a : b ≠ a := Nat.ne_of_lt (Nat.lt_of_lt_of_le Av.lt (Nat.le_of_eq g1.symm))
  have sz_a : h0.size ≤ a := Nat.le_trans K0.1 (Nat.le_of_eq g1.symm)
  have g_a : n0 ≤ a := Nat.le_trans Z0 sz_a
  rw [← g1] at A1 D1 st1
  have c2 : Steps p.tables e below S0 (T1.setTop (mkF m 3 #[.val (.ref s0)] [(.ref a)])) := c0.trans (by
    refine st1 _ ?_
    exact Steps.refl _)
  have f1_Ee := Ee.ext E1
  have f1_Vf := Vf.ext E1
  have f1_Cf := Cf.ext E1
  have f1_Nf := Nf.ext E1
  have f1_Av := Av.ext E1
  have f1_Eb := Eb.ext E1
  have K1 := K0.ext E1
  have O1 := O.ext E1
  have E_a := A1
  have F_value_a : Fld Z h1 a "java/lang/String" "value" "[B" .null := D1 (Or.inr (hw _ (List.mem_of_getElem? (i := 10) rfl))) (ty := (.array .byte)) (by decide)
  have F_coder_a : Fld Z h1 a "java/lang/String" "coder" "B" (.int (0 : Int32)) := D1 (Or.inr (hw _ (List.mem_of_getElem? (i := 11) rfl))) (ty := .byte) (by decide)
  have c3 : Steps p.tables e below S0 (T1.setTop (mkF m 5 #[.val (.ref s0)] [(.ref s0), (.ref a), (.ref a)])) := c2.trans (by
    refine XS.dup X1.here hx rfl (hb hby own_d21_3) rfl rfl ?_
    show Steps p.tables e below (T1.setTop (mkF m 4 #[.val (.ref s0)] [(.ref a), (.ref a)])) _
    refine XS.aloadN X1.here hx rfl (hb hby own_d21_4) rfl rfl ?_
    exact Steps.refl _)
  obtain ⟨_, _, ⟨T4, L4, k4, n4⟩, -, X4, ⟨Lc4, hQ4, l4, y4, z4⟩, st4⟩ := X1.specialBack hx (y := (⟨"java/lang/String", "<init>", "(Ljava/lang/StringBuilder;)V"⟩ : MethodName)) rfl hown (mvT hZ (hw _ (List.mem_of_getElem? (i := 86) rfl))) (mvT hZ (hw _ (List.mem_of_getElem? (i := 87) rfl))) (mvT hZ (hw _ (List.mem_of_getElem? (i := 89) rfl))) (by decide) (backOf (W := 1) (own_ssi l Z a0 hw [] a s0 ch cs b k h1 n0 (Nat.le_trans Z0 K1.1) SC hcs O1 f1_Ee f1_Vf f1_Cf f1_Nf f1_Av f1_Eb E_a F_value_a F_coder_a g_a ne_s0_a ne_b_a) hZ (hw _ (List.mem_of_getElem? (i := 89) rfl)) (hw _ (List.mem_of_getElem? (i := 7) rfl)) (by decide) (by decide)) (g := (mkF m 5 #[.val (.ref s0)] [(.ref s0), (.ref a), (.ref a)])) rfl (by rw [hml]; rfl) (Steps.refl _) (a := a) (argsL := [(.ref s0)]) (rest := [(.ref a)]) (lenOf own_pd12 rfl) rfl (by show 2 * 0 + _ ≤ _; exact Nat.le_of_eq rfl) (hb hby own_d21_5) (fun _ _ => ⟨rfl, e1, (Nat.le_of_ble_eq_true rfl), (Nat.le_of_ble_eq_true rfl)⟩)
  dsimp only [Pt.U, Pt.locs, Pt.cells, Pt.slots] at X4 l4 y4 z4 st4 hQ4
  subst l4 y4 z4
  obtain ⟨rfl, N4q, Kq, d, szd, Te, Tv, Tc, Ad⟩ := hQ4
  have N4 := Fr.app N0 N4q
  have c5 : Steps p.tables e below S0 (T4.setTop (mkF m 8 #[.val (.ref s0)] [(.ref a)])) := c3.trans (by
    refine st4.trans ?_
    exact Steps.refl _)
  have K4 := K1.trans Kq (allS (Or.inr sz_a) all0)
  have O4 := O1.keep Kq (allS g_a all0)
  obtain ⟨fs, hr, hrun, hended, hW, hsame⟩ := X4.leave (v := some (.ref a)) (fun h => by rw [Bd.returns] at h; cases h)
  exact ⟨_, _, c5.trans (retOut X4 hx (t := (.object "java/lang/String")) (i := .areturn) Bd.returns rfl (Or.inr (Or.inr (Or.inr (Or.inr ⟨rfl, rfl, rfl⟩)))) (hb hby own_d21_8) hr), hrun, hended, _, _, rfl, ⟨a, rfl, N4, K4, d, Te, Tv, Tc, Ad⟩, ⟨_, rfl⟩, hW, hsame.mono (by decide) (by decide)⟩
theorem own_d22_0 : decode prog_237_method_10_code 0 = .ok (.new 70, 3) := by decide +kernel
theorem own_d22_3 : decode prog_237_method_10_code 3 = .ok (.dup, 1) := by decide +kernel
theorem own_d22_4 : decode prog_237_method_10_code 4 = .ok (.aload_n 1, 1) := by decide +kernel
theorem own_d22_5 : decode prog_237_method_10_code 5 = .ok (.invokevirtual 87, 3) := by decide +kernel
theorem own_d22_8 : decode prog_237_method_10_code 8 = .ok (.iconst 2, 1) := by decide +kernel
theorem own_d22_9 : decode prog_237_method_10_code 9 = .ok (.iadd, 1) := by decide +kernel
theorem own_d22_10 : decode prog_237_method_10_code 10 = .ok (.invokespecial 72, 3) := by decide +kernel
theorem own_d22_13 : decode prog_237_method_10_code 13 = .ok (.astore_n 2, 1) := by decide +kernel
theorem own_d22_14 : decode prog_237_method_10_code 14 = .ok (.aload_n 2, 1) := by decide +kernel
theorem own_d22_15 : decode prog_237_method_10_code 15 = .ok (.aload_n 0, 1) := by decide +kernel
theorem own_d22_16 : decode prog_237_method_10_code 16 = .ok (.getfield 32, 3) := by decide +kernel
theorem own_d22_19 : decode prog_237_method_10_code 19 = .ok (.invokevirtual 79, 3) := by decide +kernel
theorem own_d22_22 : decode prog_237_method_10_code 22 = .ok (.pop, 1) := by decide +kernel
theorem own_d22_23 : decode prog_237_method_10_code 23 = .ok (.iconst 0, 1) := by decide +kernel
theorem own_d22_24 : decode prog_237_method_10_code 24 = .ok (.istore_n 3, 1) := by decide +kernel
theorem own_d22_25 : decode prog_237_method_10_code 25 = .ok (.iload_n 3, 1) := by decide +kernel
theorem own_d22_26 : decode prog_237_method_10_code 26 = .ok (.aload_n 1, 1) := by decide +kernel
theorem own_d22_27 : decode prog_237_method_10_code 27 = .ok (.invokevirtual 87, 3) := by decide +kernel
theorem own_d22_30 : decode prog_237_method_10_code 30 = .ok (.if_icmp .ge 48, 3) := by decide +kernel
theorem own_d22_33 : decode prog_237_method_10_code 33 = .ok (.aload_n 1, 1) := by decide +kernel
theorem own_d22_34 : decode prog_237_method_10_code 34 = .ok (.iload_n 3, 1) := by decide +kernel
theorem own_d22_35 : decode prog_237_method_10_code 35 = .ok (.invokevirtual 90, 3) := by decide +kernel
theorem own_d22_38 : decode prog_237_method_10_code 38 = .ok (.istore 4, 2) := by decide +kernel
theorem own_d22_40 : decode prog_237_method_10_code 40 = .ok (.iload 4, 2) := by decide +kernel
theorem own_d22_42 : decode prog_237_method_10_code 42 = .ok (.aload_n 0, 1) := by decide +kernel
theorem own_d22_43 : decode prog_237_method_10_code 43 = .ok (.getfield 32, 3) := by decide +kernel
theorem own_d22_46 : decode prog_237_method_10_code 46 = .ok (.if_icmp .eq 12, 3) := by decide +kernel
theorem own_d22_49 : decode prog_237_method_10_code 49 = .ok (.aload_n 0, 1) := by decide +kernel
theorem own_d22_50 : decode prog_237_method_10_code 50 = .ok (.iload 4, 2) := by decide +kernel
theorem own_d22_52 : decode prog_237_method_10_code 52 = .ok (.invokevirtual 58, 3) := by decide +kernel
theorem own_d22_55 : decode prog_237_method_10_code 55 = .ok (.ifCond .eq 10, 3) := by decide +kernel
theorem own_d22_58 : decode prog_237_method_10_code 58 = .ok (.aload_n 2, 1) := by decide +kernel
theorem own_d22_59 : decode prog_237_method_10_code 59 = .ok (.iload 4, 2) := by decide +kernel
theorem own_d22_61 : decode prog_237_method_10_code 61 = .ok (.invokevirtual 79, 3) := by decide +kernel
theorem own_d22_64 : decode prog_237_method_10_code 64 = .ok (.pop, 1) := by decide +kernel
theorem own_d22_65 : decode prog_237_method_10_code 65 = .ok (.aload_n 2, 1) := by decide +kernel
theorem own_d22_66 : decode prog_237_method_10_code 66 = .ok (.iload 4, 2) := by decide +kernel
theorem own_d22_68 : decode prog_237_method_10_code 68 = .ok (.invokevirtual 79, 3) := by decide +kernel
theorem own_d22_71 : decode prog_237_method_10_code 71 = .ok (.pop, 1) := by decide +kernel
theorem own_d22_72 : decode prog_237_method_10_code 72 = .ok (.iinc 3 1, 3) := by decide +kernel
theorem own_d22_75 : decode prog_237_method_10_code 75 = .ok (.goto (-50), 3) := by decide +kernel
theorem own_d22_78 : decode prog_237_method_10_code 78 = .ok (.aload_n 2, 1) := by decide +kernel
theorem own_d22_79 : decode prog_237_method_10_code 79 = .ok (.aload_n 0, 1) := by decide +kernel
theorem own_d22_80 : decode prog_237_method_10_code 80 = .ok (.getfield 32, 3) := by decide +kernel
theorem own_d22_83 : decode prog_237_method_10_code 83 = .ok (.invokevirtual 79, 3) := by decide +kernel
theorem own_d22_86 : decode prog_237_method_10_code 86 = .ok (.invokevirtual 86, 3) := by decide +kernel
theorem own_d22_89 : decode prog_237_method_10_code 89 = .ok (.areturn, 1) := by decide +kernel
theorem own_enc_pn : plainName "com/example/coersa/coersa/Quote" = true := by first | (simp [plainName, overriddenIn]; done) | decide +kernel
theorem own_enc_ef (m : MethodId) (q : Addr) (t : Addr) : entryFrame m #[(.ref q), (.ref t)] 5 = mkF m 0 #[.val (.ref q), .val (.ref t), .unset, .unset, .unset] [] := by first | (simp [entryFrame, mkF, argsToLocals, Value.category]; done) | rfl
def own_enc_Q (Z : State) (q : Addr) (t : Addr) (ch cs : Int32) (b0 : Addr) (k0 : ClassId) (h0 : Heap) (n0 : Nat) (v : Option Value) (h : Heap) (L : List Loc) : Prop := ∃ a : Addr, v = some (.ref a) ∧ Fr n0 L ∧ Keep h0 h [] ∧ ∃ (d : Addr) (k : ClassId), Exa Z h a "java/lang/String" ∧ Fld Z h a "java/lang/String" "value" "[B" (.ref d) ∧ Fld Z h a "java/lang/String" "coder" "B" (.int (0 : Int32)) ∧ Arv Z h d k .byte (2 : Int32) [.int ch, .int ch] (.int (0 : Int32))
set_option maxRecDepth 65536 in
set_option maxHeartbeats 40000000 in
theorem own_enc (l : Launch) (Z : State) (a0 : Array Value) (hw : ∀ d ∈ tables_1, d.before a0 Z = true) (ws : List Jvm.Cond) (q : Addr) (t : Addr) (ch cs : Int32) (b0 : Addr) (k0 : ClassId) (h0 : Heap) (n0 : Nat) (Z0 : n0 ≤ h0.size) (SC : Sta Z Z.heap "java/lang/String" "COMPACT_STRINGS" "Z" (.int cs)) (hcs : ¬ cs = 0) (O : Old Z n0 h0) (Te : Exa Z h0 t "java/lang/String") (Tc : Fld Z h0 t "java/lang/String" "coder" "B" (.int (0 : Int32))) (Tv : Fld Z h0 t "java/lang/String" "value" "[B" (.ref b0)) (Ta : Arv Z h0 b0 k0 .byte (0 : Int32) [] (.int (0 : Int32))) (Qm : Fld Z h0 q "com/example/coersa/coersa/Quote" "mark" "C" (.int ch)) (hc : own_ch ch) :
    MetFree l (⟨"com/example/coersa/coersa/Quote", "enclose", "(Ljava/lang/String;)Ljava/lang/String;"⟩ : MethodName) (head1 (Jvm.Cond.code (⟨"com/example/coersa/coersa/Quote", "enclose", "(Ljava/lang/String;)Ljava/lang/String;"⟩ : MethodName) prog_237_method_10_code 5 (some (.object "java/lang/String")) :: ws) ({ frames := 5, cells := 4, slots := 12, locals := 73 } : Room)) (fun ars U => ars = #[(.ref q), (.ref t)] ∧ Z.Warmed39 U.vm ∧ U.heap = h0) (fun _ _ _ _ _ => True) (fun _ U o U' => ∃ v L, o = .returned v ∧ own_enc_Q Z q t ch cs b0 k0 h0 n0 v U'.heap L ∧ FrameEnd U o U' L ({ frames := 5, cells := 4, slots := 12, locals := 73 } : Room).cells ({ frames := 5, cells := 4, slots := 12, locals := 73 } : Room).slots) := by
  refine MetFree.of_bodySF (plainFor_of_name own_enc_pn) hisR ?_
  intro p e s m args below meth c s₁ Bd hml0 hP hK
  obtain ⟨rfl, hZ, hh⟩ := hP
  have hx := Bd.exec
  have hby := Bd.bytes
  have hml : c.maxLocals = 5 := hml0
  have hown : s.vm.findClass "com/example/coersa/coersa/Quote" = some m.cls := findClass_of_methodNamed Bd.named
  have hnm := (name_of_methodNamed Bd.named Bd.method).1
  have X0 : Stand p l e ({ frames := 5, cells := 4, slots := 12, locals := 73 } : Room) s m #[(.ref q), (.ref t)] below meth c s₁ [] 0 0 := Stand.of_body Bd
  have e0 : s₁.heap = h0 := by rw [← hh, Bd.state]; rfl
  have N0 := Fr.nil n0
  generalize hS0 : s₁.setTop (entryFrame m #[(.ref q), (.ref t)] 5) = S0
  have c0 : Steps p.tables e below S0 (s₁.setTop (mkF m 0 #[.val (.ref q), .val (.ref t), .unset, .unset, .unset] [])) := by rw [← hS0]; exact castTop (own_enc_ef m q t) (Steps.refl _)
  have K0 : Keep h0 h0 [] := Keep.refl _ _
  obtain ⟨T1, h1, X1, e1, E1, A1, D1, -, st1⟩ := newO X0 hx hZ hown (hw _ (List.mem_of_getElem? (i := 19) rfl)) (hw _ (List.mem_of_getElem? (i := 20) rfl)) (hw _ (List.mem_of_getElem? (i := 21) rfl)) e0 (g := (mkF m 0 #[.val (.ref q), .val (.ref t), .unset, .unset, .unset] [])) rfl (hb hby own_d22_0) (by decide) (by decide)
  obtain ⟨a, g1⟩ : ∃ z, z = h0.size := ⟨_, rfl⟩
  have ne_t_a : t ≠ a := Nat.ne_of_lt (Nat.lt_of_lt_of_le Te.lt (Nat.le_of_eq g1.symm))
  have ne_b0_a : b0 ≠ a := Nat.ne_of_lt (Nat.lt_of_lt_of_le Ta.lt (Nat.le_of_eq g1.symm))
  have ne_q_a : q ≠ a := Nat.ne_of_lt (Nat.lt_of_lt_of_le Qm.lt (Nat.le_of_eq g1.symm))
  have sz_a : h0.size ≤ a := Nat.le_trans K0.1 (Nat.le_of_eq g1.symm)
  have g_a : n0 ≤ a := Nat.le_trans Z0 sz_a
  rw [← g1] at A1 D1 st1
  have c2 : Steps p.tables e below S0 (T1.setTop (mkF m 3 #[.val (.ref q), .val (.ref t), .unset, .unset, .unset] [(.ref a)])) := c0.trans (by
    refine st1 _ ?_
    exact Steps.refl _)
  have f1_Te := Te.ext E1
  have f1_Tv := Tv.ext E1
  have f1_Tc := Tc.ext E1
  have f1_Ta := Ta.ext E1
  have f1_Qm := Qm.ext E1
  have K1 := K0.ext E1
  have O1 := O.ext E1
  have E_a := A1
  have F_value_a : Fld Z h1 a "java/lang/AbstractStringBuilder" "value" "[B" .null := D1 (Or.inl (hw _ (List.mem_of_getElem? (i := 49) rfl))) (ty := (.array .byte)) (by decide)
  have F_coder_a : Fld Z h1 a "java/lang/AbstractStringBuilder" "coder" "B" (.int (0 : Int32)) := D1 (Or.inl (hw _ (List.mem_of_getElem? (i := 51) rfl))) (ty := .byte) (by decide)
  have F_count_a : Fld Z h1 a "java/lang/AbstractStringBuilder" "count" "I" (.int (0 : Int32)) := D1 (Or.inl (hw _ (List.mem_of_getElem? (i := 65) rfl))) (ty := .int) (by decide)
  have c3 : Steps p.tables e below S0 (T1.setTop (mkF m 5 #[.val (.ref q), .val (.ref t), .unset, .unset, .unset] [(.ref t), (.ref a), (.ref a)])) := c2.trans (by
    refine XS.dup X1.here hx rfl (hb hby own_d22_3) rfl rfl ?_
    show Steps p.tables e below (T1.setTop (mkF m 4 #[.val (.ref q), .val (.ref t), .unset, .unset, .unset] [(.ref a), (.ref a)])) _
    refine XS.aloadN X1.here hx rfl (hb hby own_d22_4) rfl rfl ?_
    exact Steps.refl _)
  obtain ⟨cq4, kq4, q4a, q4b, q4c⟩ := isOf hZ e1 f1_Te
  obtain ⟨_, _, ⟨T4, L4, k4, n4⟩, -, X4, ⟨Lc4, hQ4, l4, y4, z4⟩, st4⟩ := X1.virtualBack hx (y := (⟨"java/lang/String", "length", "()I"⟩ : MethodName)) (z := (⟨"java/lang/String", "length", "()I"⟩ : MethodName)) hown (mvT hZ (hw _ (List.mem_of_getElem? (i := 22) rfl))) (mvT hZ (hw _ (List.mem_of_getElem? (i := 23) rfl))) (notFace_of_selects (args := #[]) (mvT hZ (hw _ (List.mem_of_getElem? (i := 25) rfl)))) (mvT hZ (hw _ (List.mem_of_getElem? (i := 25) rfl))) (mvT hZ (hw _ (List.mem_of_getElem? (i := 24) rfl))) (by decide) (backOf (W := 2) (own_len l Z a0 hw [] t cs b0 k0 0 [] h1 n0 (Nat.le_trans Z0 K1.1) SC hcs O1 f1_Te f1_Tc f1_Tv f1_Ta) hZ (hw _ (List.mem_of_getElem? (i := 26) rfl)) (hw _ (List.mem_of_getElem? (i := 7) rfl)) (by decide) (by decide)) q4a q4c (g := (mkF m 5 #[.val (.ref q), .val (.ref t), .unset, .unset, .unset] [(.ref t), (.ref a), (.ref a)])) rfl (by rw [hml]; rfl) (Steps.refl _) (argsL := []) (rest := [(.ref a), (.ref a)]) (lenOf own_pd8 rfl) rfl (by show 2 * 0 + _ ≤ _; exact Nat.le_of_eq rfl) (hb hby own_d22_5) (fun _ _ => ⟨rfl, e1, (Nat.le_of_ble_eq_true rfl), (Nat.le_of_ble_eq_true rfl)⟩)
  dsimp only [Pt.U, Pt.locs, Pt.cells, Pt.slots] at X4 l4 y4 z4 st4 hQ4
  subst l4 y4 z4
  obtain ⟨rfl, N4q, el1⟩ := hQ4
  have N4 := Fr.app N0 N4q
  have c5 : Steps p.tables e below S0 (T4.setTop (mkF m 8 #[.val (.ref q), .val (.ref t), .unset, .unset, .unset] [(.int (0 : Int32)), (.ref a), (.ref a)])) := c3.trans (by
    refine st4.trans ?_
    exact Steps.refl _)
  have c6 : Steps p.tables e below S0 (T4.setTop (mkF m 10 #[.val (.ref q), .val (.ref t), .unset, .unset, .unset] [(.int ((0 : Int32) + (2 : Int32))), (.ref a), (.ref a)])) := c5.trans (by
    refine XS.iconst X4.here hx rfl (hb hby own_d22_8) ?_
    show Steps p.tables e below (T4.setTop (mkF m 9 #[.val (.ref q), .val (.ref t), .unset, .unset, .unset] [(.int (2 : Int32)), (.int (0 : Int32)), (.ref a), (.ref a)])) _
    refine XS.iadd X4.here hx rfl (hb hby own_d22_9) rfl ?_
    exact Steps.refl _)
  obtain ⟨_, _, ⟨T7, L7, k7, n7⟩, -, X7, ⟨Lc7, hQ7, l7, y7, z7⟩, st7⟩ := X4.specialBack hx (y := (⟨"java/lang/StringBuilder", "<init>", "(I)V"⟩ : MethodName)) rfl hown (mvT hZ (hw _ (List.mem_of_getElem? (i := 35) rfl))) (mvT hZ (hw _ (List.mem_of_getElem? (i := 36) rfl))) (mvT hZ (hw _ (List.mem_of_getElem? (i := 37) rfl))) (by decide) (backOf (W := 1) (own_sii l Z a0 hw [] a ((0 : Int32) + 2) cs h1 n0 (Nat.le_trans Z0 K1.1) SC hcs O1 E_a F_value_a F_coder_a F_count_a g_a (by decide)) hZ (hw _ (List.mem_of_getElem? (i := 37) rfl)) (hw _ (List.mem_of_getElem? (i := 21) rfl)) (by decide) (by decide)) (g := (mkF m 10 #[.val (.ref q), .val (.ref t), .unset, .unset, .unset] [(.int ((0 : Int32) + (2 : Int32))), (.ref a), (.ref a)])) rfl (by rw [hml]; rfl) (Steps.refl _) (a := a) (argsL := [(.int ((0 : Int32) + (2 : Int32)))]) (rest := [(.ref a)]) (lenOf own_pd5 rfl) rfl (by show 2 * 0 + _ ≤ _; exact Nat.le_of_eq rfl) (hb hby own_d22_10) (fun _ _ => ⟨rfl, el1, (Nat.le_of_ble_eq_true rfl), (Nat.le_of_ble_eq_true rfl)⟩)
  dsimp only [Pt.U, Pt.locs, Pt.cells, Pt.slots] at X7 l7 y7 z7 st7 hQ7
  subst l7 y7 z7
  obtain ⟨rfl, N7q, Kq, b, k, szb0, nab, Ee, Vf, Cf, Nf, Av, Eb⟩ := hQ7
  have N7 := Fr.app N4 N7q
  have c8 : Steps p.tables e below S0 (T7.setTop (mkF m 13 #[.val (.ref q), .val (.ref t), .unset, .unset, .unset] [(.ref a)])) := c6.trans (by
    refine st7.trans ?_
    exact Steps.refl _)
  have ne_t_b : t ≠ b := Nat.ne_of_lt (Nat.lt_of_lt_of_le f1_Te.lt szb0)
  have ne_b0_b : b0 ≠ b := Nat.ne_of_lt (Nat.lt_of_lt_of_le f1_Ta.lt szb0)
  have ne_q_b : q ≠ b := Nat.ne_of_lt (Nat.lt_of_lt_of_le f1_Qm.lt szb0)
  -- behind a call on the builder
  have f7_Te := f1_Te.keep Kq
  have f7_Tv := f1_Tv.keep Kq (ninS ne_t_a nin0)
  have f7_Tc := f1_Tc.keep Kq (ninS ne_t_a nin0)
  have f7_Ta := f1_Ta.keep Kq (ninS ne_b0_a nin0)
  have f7_Qm := f1_Qm.keep Kq (ninS ne_q_a nin0)
  have K7 := K1.trans Kq (allS (Or.inr sz_a) all0)
  have O7 := O1.keep Kq (allS g_a all0)
  have sz_b : h0.size ≤ b := Nat.le_trans K1.1 szb0
  have g_b : n0 ≤ b := Nat.le_trans Z0 sz_b
  have c9 : Steps p.tables e below S0 (T7.setTop (mkF m 16 #[.val (.ref q), .val (.ref t), .val (.ref a), .unset, .unset] [(.ref q), (.ref a)])) := c8.trans (by
    refine XS.astoreN X7.here hx rfl (hb hby own_d22_13) rfl rfl (l' := #[.val (.ref q), .val (.ref t), .val (.ref a), .unset, .unset]) rfl ?_
    show Steps p.tables e below (T7.setTop (mkF m 14 #[.val (.ref q), .val (.ref t), .val (.ref a), .unset, .unset] [])) _
    refine XS.aloadN X7.here hx rfl (hb hby own_d22_14) rfl rfl ?_
    show Steps p.tables e below (T7.setTop (mkF m 15 #[.val (.ref q), .val (.ref t), .val (.ref a), .unset, .unset] [(.ref a)])) _
    refine XS.aloadN X7.here hx rfl (hb hby own_d22_15) rfl rfl ?_
    exact Steps.refl _)
  obtain ⟨T10, X10, e10, st10⟩ := getF X7 hx hZ hown (host := "") (Or.inl (hw _ (List.mem_of_getElem? (i := 52) rfl))) Via.refl rfl f7_Qm (g := (mkF m 16 #[.val (.ref q), .val (.ref t), .val (.ref a), .unset, .unset] [(.ref q), (.ref a)])) rfl rfl (hb hby own_d22_16)
  have c11 : Steps p.tables e below S0 (T10.setTop (mkF m 19 #[.val (.ref q), .val (.ref t), .val (.ref a), .unset, .unset] [(.int ch), (.ref a)])) := c9.trans (by
    refine st10 _ ?_
    exact Steps.refl _)
  obtain ⟨cq12, kq12, q12a, q12b, q12c⟩ := isOf hZ e10 Ee
  obtain ⟨_, _, ⟨T12, L12, k12, n12⟩, -, X12, ⟨Lc12, hQ12, l12, y12, z12⟩, st12⟩ := X10.virtualBack hx (y := (⟨"java/lang/StringBuilder", "append", "(C)Ljava/lang/StringBuilder;"⟩ : MethodName)) (z := (⟨"java/lang/StringBuilder", "append", "(C)Ljava/lang/StringBuilder;"⟩ : MethodName)) hown (mvT hZ (hw _ (List.mem_of_getElem? (i := 54) rfl))) (mvT hZ (hw _ (List.mem_of_getElem? (i := 55) rfl))) (notFace_of_selects (args := #[]) (mvT hZ (hw _ (List.mem_of_getElem? (i := 57) rfl)))) (mvT hZ (hw _ (List.mem_of_getElem? (i := 57) rfl))) (mvT hZ (hw _ (List.mem_of_getElem? (i := 56) rfl))) (by decide) (backOf (W := 0) (own_aps0 l Z a0 hw [] a ch cs b k T7.heap n0 (Nat.le_trans Z0 K7.1) SC hcs O7 Ee Vf Cf Nf Av Eb nab g_a g_b hc) hZ (hw _ (List.mem_of_getElem? (i := 58) rfl)) (hw _ (List.mem_of_getElem? (i := 21) rfl)) (by decide) (by decide)) q12a q12c (g := (mkF m 19 #[.val (.ref q), .val (.ref t), .val (.ref a), .unset, .unset] [(.int ch), (.ref a)])) rfl (by rw [hml]; rfl) (Steps.refl _) (argsL := [(.int ch)]) (rest := []) (lenOf own_pd13 rfl) rfl (by show 2 * 0 + _ ≤ _; exact Nat.le_of_eq rfl) (hb hby own_d22_19) (fun _ _ => ⟨rfl, e10, (Nat.le_of_ble_eq_true rfl), (Nat.le_of_ble_eq_true rfl)⟩)
  dsimp only [Pt.U, Pt.locs, Pt.cells, Pt.slots] at X12 l12 y12 z12 st12 hQ12
  subst l12 y12 z12
  obtain ⟨rfl, N12q, Kq1, Ee1, Vf1, Cf1, Nf1, Av1, Eb1⟩ := hQ12
  have N12 := Fr.app N7 N12q
  have c13 : Steps p.tables e below S0 (T12.setTop (mkF m 22 #[.val (.ref q), .val (.ref t), .val (.ref a), .unset, .unset] [(.ref a)])) := c11.trans (by
    refine st12.trans ?_
    exact Steps.refl _)
  -- behind a call on the builder
  have f12_Te := f7_Te.keep Kq1
  have f12_Tv := f7_Tv.keep Kq1 (ninS ne_t_a (ninS ne_t_b nin0))
  have f12_Tc := f7_Tc.keep Kq1 (ninS ne_t_a (ninS ne_t_b nin0))
  have f12_Ta := f7_Ta.keep Kq1 (ninS ne_b0_a (ninS ne_b0_b nin0))
  have f12_Qm := f7_Qm.keep Kq1 (ninS ne_q_a (ninS ne_q_b nin0))
  have K12 := K7.trans Kq1 (allS (Or.inr sz_a) (allS (Or.inr sz_b) all0))
  have O12 := O7.keep Kq1 (allS g_a (allS g_b all0))
  have c14 : Steps p.tables e below S0 (T12.setTop (mkF m 27 #[.val (.ref q), .val (.ref t), .val (.ref a), .val (.int (0 : Int32)), .unset] [(.ref t), (.int (0 : Int32))])) := c13.trans (by
    refine XS.pop X12.here hx rfl (hb hby own_d22_22) rfl rfl ?_
    show Steps p.tables e below (T12.setTop (mkF m 23 #[.val (.ref q), .val (.ref t), .val (.ref a), .unset, .unset] [])) _
    refine XS.iconst X12.here hx rfl (hb hby own_d22_23) ?_
    show Steps p.tables e below (T12.setTop (mkF m 24 #[.val (.ref q), .val (.ref t), .val (.ref a), .unset, .unset] [(.int (0 : Int32))])) _
    refine XS.istoreN X12.here hx rfl (hb hby own_d22_24) rfl (l' := #[.val (.ref q), .val (.ref t), .val (.ref a), .val (.int (0 : Int32)), .unset]) rfl ?_
    show Steps p.tables e below (T12.setTop (mkF m 25 #[.val (.ref q), .val (.ref t), .val (.ref a), .val (.int (0 : Int32)), .unset] [])) _
    refine XS.iloadN X12.here hx rfl (hb hby own_d22_25) rfl ?_
    show Steps p.tables e below (T12.setTop (mkF m 26 #[.val (.ref q), .val (.ref t), .val (.ref a), .val (.int (0 : Int32)), .unset] [(.int (0 : Int32))])) _
    refine XS.aloadN X12.here hx rfl (hb hby own_d22_26) rfl rfl ?_
    exact Steps.refl _)
  obtain ⟨cq15, kq15, q15a, q15b, q15c⟩ := isOf hZ rfl f12_Te
  obtain ⟨_, _, ⟨T15, L15, k15, n15⟩, -, X15, ⟨Lc15, hQ15, l15, y15, z15⟩, st15⟩ := X12.virtualBack hx (y := (⟨"java/lang/String", "length", "()I"⟩ : MethodName)) (z := (⟨"java/lang/String", "length", "()I"⟩ : MethodName)) hown (mvT hZ (hw _ (List.mem_of_getElem? (i := 22) rfl))) (mvT hZ (hw _ (List.mem_of_getElem? (i := 23) rfl))) (notFace_of_selects (args := #[]) (mvT hZ (hw _ (List.mem_of_getElem? (i := 25) rfl)))) (mvT hZ (hw _ (List.mem_of_getElem? (i := 25) rfl))) (mvT hZ (hw _ (List.mem_of_getElem? (i := 24) rfl))) (by decide) (backOf (W := 1) (own_len l Z a0 hw [] t cs b0 k0 0 [] T12.heap n0 (Nat.le_trans Z0 K12.1) SC hcs O12 f12_Te f12_Tc f12_Tv f12_Ta) hZ (hw _ (List.mem_of_getElem? (i := 26) rfl)) (hw _ (List.mem_of_getElem? (i := 7) rfl)) (by decide) (by decide)) q15a q15c (g := (mkF m 27 #[.val (.ref q), .val (.ref t), .val (.ref a), .val (.int (0 : Int32)), .unset] [(.ref t), (.int (0 : Int32))])) rfl (by rw [hml]; rfl) (Steps.refl _) (argsL := []) (rest := [(.int (0 : Int32))]) (lenOf own_pd8 rfl) rfl (by show 2 * 0 + _ ≤ _; exact Nat.le_of_eq rfl) (hb hby own_d22_27) (fun _ _ => ⟨rfl, rfl, (Nat.le_of_ble_eq_true rfl), (Nat.le_of_ble_eq_true rfl)⟩)
  dsimp only [Pt.U, Pt.locs, Pt.cells, Pt.slots] at X15 l15 y15 z15 st15 hQ15
  subst l15 y15 z15
  obtain ⟨rfl, N15q, el2⟩ := hQ15
  have N15 := Fr.app N12 N15q
  have c16 : Steps p.tables e below S0 (T15.setTop (mkF m 30 #[.val (.ref q), .val (.ref t), .val (.ref a), .val (.int (0 : Int32)), .unset] [(.int (0 : Int32)), (.int (0 : Int32))])) := c14.trans (by
    refine st15.trans ?_
    exact Steps.refl _)
  have c17 : Steps p.tables e below S0 (T15.setTop (mkF m 78 #[.val (.ref q), .val (.ref t), .val (.ref a), .val (.int (0 : Int32)), .unset] [])) := c16.trans (by
    refine XS.icmpYes X15.here hx rfl (pc0 := 30) (pc' := 78) rfl (hb hby own_d22_30) rfl (flt (by decide)).2.1 (by decide) (by decide) ?_
    exact Steps.refl _)
  have c18 : Steps p.tables e below S0 (T15.setTop (mkF m 80 #[.val (.ref q), .val (.ref t), .val (.ref a), .val (.int (0 : Int32)), .unset] [(.ref q), (.ref a)])) := c17.trans (by
    refine XS.aloadN X15.here hx rfl (hb hby own_d22_78) rfl rfl ?_
    show Steps p.tables e below (T15.setTop (mkF m 79 #[.val (.ref q), .val (.ref t), .val (.ref a), .val (.int (0 : Int32)), .unset] [(.ref a)])) _
    refine XS.aloadN X15.here hx rfl (hb hby own_d22_79) rfl rfl ?_
    exact Steps.refl _)
  obtain ⟨T19, X19, e19, st19⟩ := getF X15 hx hZ hown (host := "") (Or.inl (hw _ (List.mem_of_getElem? (i := 52) rfl))) Via.refl el2 f12_Qm (g := (mkF m 80 #[.val (.ref q), .val (.ref t), .val (.ref a), .val (.int (0 : Int32)), .unset] [(.ref q), (.ref a)])) rfl rfl (hb hby own_d22_80)
  have c20 : Steps p.tables e below S0 (T19.setTop (mkF m 83 #[.val (.ref q), .val (.ref t), .val (.ref a), .val (.int (0 : Int32)), .unset] [(.int ch), (.ref a)])) := c18.trans (by
    refine st19 _ ?_
    exact Steps.refl _)
  obtain ⟨cq21, kq21, q21a, q21b, q21c⟩ := isOf hZ e19 Ee1
  obtain ⟨_, _, ⟨T21, L21, k21, n21⟩, -, X21, ⟨Lc21, hQ21, l21, y21, z21⟩, st21⟩ := X19.virtualBack hx (y := (⟨"java/lang/StringBuilder", "append", "(C)Ljava/lang/StringBuilder;"⟩ : MethodName)) (z := (⟨"java/lang/StringBuilder", "append", "(C)Ljava/lang/StringBuilder;"⟩ : MethodName)) hown (mvT hZ (hw _ (List.mem_of_getElem? (i := 54) rfl))) (mvT hZ (hw _ (List.mem_of_getElem? (i := 55) rfl))) (notFace_of_selects (args := #[]) (mvT hZ (hw _ (List.mem_of_getElem? (i := 57) rfl)))) (mvT hZ (hw _ (List.mem_of_getElem? (i := 57) rfl))) (mvT hZ (hw _ (List.mem_of_getElem? (i := 56) rfl))) (by decide) (backOf (W := 0) (own_aps1 l Z a0 hw [] a ch cs b k T12.heap n0 (Nat.le_trans Z0 K12.1) SC hcs O12 Ee1 Vf1 Cf1 Nf1 Av1 Eb1 nab g_a g_b hc) hZ (hw _ (List.mem_of_getElem? (i := 58) rfl)) (hw _ (List.mem_of_getElem? (i := 21) rfl)) (by decide) (by decide)) q21a q21c (g := (mkF m 83 #[.val (.ref q), .val (.ref t), .val (.ref a), .val (.int (0 : Int32)), .unset] [(.int ch), (.ref a)])) rfl (by rw [hml]; rfl) (Steps.refl _) (argsL := [(.int ch)]) (rest := []) (lenOf own_pd13 rfl) rfl (by show 2 * 0 + _ ≤ _; exact Nat.le_of_eq rfl) (hb hby own_d22_83) (fun _ _ => ⟨rfl, e19, (Nat.le_of_ble_eq_true rfl), (Nat.le_of_ble_eq_true rfl)⟩)
  dsimp only [Pt.U, Pt.locs, Pt.cells, Pt.slots] at X21 l21 y21 z21 st21 hQ21
  subst l21 y21 z21
  obtain ⟨rfl, N21q, Kq2, Ee2, Vf2, Cf2, Nf2, Av2, Eb2⟩ := hQ21
  have N21 := Fr.app N15 N21q
  have c22 : Steps p.tables e below S0 (T21.setTop (mkF m 86 #[.val (.ref q), .val (.ref t), .val (.ref a), .val (.int (0 : Int32)), .unset] [(.ref a)])) := c20.trans (by
    refine st21.trans ?_
    exact Steps.refl _)
  -- behind a call on the builder
  have f21_Te := f12_Te.keep Kq2
  have f21_Tv := f12_Tv.keep Kq2 (ninS ne_t_a (ninS ne_t_b nin0))
  have f21_Tc := f12_Tc.keep Kq2 (ninS ne_t_a (ninS ne_t_b nin0))
  have f21_Ta := f12_Ta.keep Kq2 (ninS ne_b0_a (ninS ne_b0_b nin0))
  have f21_Qm := f12_Qm.keep Kq2 (ninS ne_q_a (ninS ne_q_b nin0))
  have K21 := K12.trans Kq2 (allS (Or.inr sz_a) (allS (Or.inr sz_b) all0))
  have O21 := O12.keep Kq2 (allS g_a (allS g_b all0))
  obtain ⟨cq23, kq23, q23a, q23b, q23c⟩ := isOf hZ rfl Ee2
  obtain ⟨_, _, ⟨T23, L23, k23, n23⟩, -, X23, ⟨Lc23, hQ23, l23, y23, z23⟩, st23⟩ := X21.virtualBack hx (y := (⟨"java/lang/StringBuilder", "toString", "()Ljava/lang/String;"⟩ : MethodName)) (z := (⟨"java/lang/StringBuilder", "toString", "()Ljava/lang/String;"⟩ : MethodName)) hown (mvT hZ (hw _ (List.mem_of_getElem? (i := 80) rfl))) (mvT hZ (hw _ (List.mem_of_getElem? (i := 81) rfl))) (notFace_of_selects (args := #[]) (mvT hZ (hw _ (List.mem_of_getElem? (i := 83) rfl)))) (mvT hZ (hw _ (List.mem_of_getElem? (i := 83) rfl))) (mvT hZ (hw _ (List.mem_of_getElem? (i := 82) rfl))) (by decide) (backOf (W := 0) (own_tos l Z a0 hw [] a ch cs b k T21.heap n0 (Nat.le_trans Z0 K21.1) SC hcs O21 Ee2 Vf2 Cf2 Nf2 Av2 Eb2) hZ (hw _ (List.mem_of_getElem? (i := 84) rfl)) (hw _ (List.mem_of_getElem? (i := 21) rfl)) (by decide) (by decide)) q23a q23c (g := (mkF m 86 #[.val (.ref q), .val (.ref t), .val (.ref a), .val (.int (0 : Int32)), .unset] [(.ref a)])) rfl (by rw [hml]; rfl) (Steps.refl _) (argsL := []) (rest := []) (lenOf own_pd14 rfl) rfl (by show 2 * 0 + _ ≤ _; exact Nat.le_of_eq rfl) (hb hby own_d22_86) (fun _ _ => ⟨rfl, rfl, (Nat.le_of_ble_eq_true rfl), (Nat.le_of_ble_eq_true rfl)⟩)
  dsimp only [Pt.U, Pt.locs, Pt.cells, Pt.slots] at X23 l23 y23 z23 st23 hQ23
  subst l23 y23 z23
  obtain ⟨r, rfl, N23q, Kr, d, Re, Rv, Rc, Ra⟩ := hQ23
  have N23 := Fr.app N21 N23q
  have c24 : Steps p.tables e below S0 (T23.setTop (mkF m 89 #[.val (.ref q), .val (.ref t), .val (.ref a), .val (.int (0 : Int32)), .unset] [(.ref r)])) := c22.trans (by
    refine st23.trans ?_
    exact Steps.refl _)
  have Kz := K21.trans Kr all0
  obtain ⟨fs, hr, hrun, hended, hW, hsame⟩ := X23.leave (v := some (.ref r)) (fun h => by rw [Bd.returns] at h; cases h)
  exact ⟨_, _, c24.trans (retOut X23 hx (t := (.object "java/lang/String")) (i := .areturn) Bd.returns rfl (Or.inr (Or.inr (Or.inr (Or.inr ⟨rfl, rfl, rfl⟩)))) (hb hby own_d22_89) hr), hrun, hended, _, _, rfl, ⟨r, rfl, N23, Kz, d, k, Re, Rv, Rc, Ra⟩, ⟨_, rfl⟩, hW, hsame.mono (by decide) (by decide)⟩
theorem own_d23_0 : decode prog_237_method_5_code 0 = .ok (.iload_n 0, 1) := by decide +kernel
theorem own_d23_1 : decode prog_237_method_5_code 1 = .ok (.lookupswitch 53 #[(34, 41), (39, 35), (96, 47)], 35) := by decide +kernel
theorem own_d23_36 : decode prog_237_method_5_code 36 = .ok (.getstatic 3, 3) := by decide +kernel
theorem own_d23_39 : decode prog_237_method_5_code 39 = .ok (.goto 16, 3) := by decide +kernel
theorem own_d23_42 : decode prog_237_method_5_code 42 = .ok (.getstatic 7, 3) := by decide +kernel
theorem own_d23_45 : decode prog_237_method_5_code 45 = .ok (.goto 10, 3) := by decide +kernel
theorem own_d23_48 : decode prog_237_method_5_code 48 = .ok (.getstatic 10, 3) := by decide +kernel
theorem own_d23_51 : decode prog_237_method_5_code 51 = .ok (.goto 4, 3) := by decide +kernel
theorem own_d23_54 : decode prog_237_method_5_code 54 = .ok (.aconst_null, 1) := by decide +kernel
theorem own_d23_55 : decode prog_237_method_5_code 55 = .ok (.areturn, 1) := by decide +kernel
theorem own_opn39_pn : plainName "com/example/coersa/coersa/Quote" = true := by first | (simp [plainName, overriddenIn]; done) | decide +kernel
theorem own_opn39_ef (m : MethodId) (ch : Int32) : entryFrame m #[(.int ch)] 1 = mkF m 0 #[.val (.int ch)] [] := by first | (simp [entryFrame, mkF, argsToLocals, Value.category]; done) | rfl
def own_opn39_Q (Z : State) (ch : Int32) (qS : Addr) (h0 : Heap) (n0 : Nat) (v : Option Value) (h : Heap) (L : List Loc) : Prop := v = some (.ref qS) ∧ Fr n0 L ∧ h = h0
set_option maxRecDepth 65536 in
set_option maxHeartbeats 40000000 in
theorem own_opn39 (l : Launch) (Z : State) (a0 : Array Value) (hw : ∀ d ∈ tables_1, d.before a0 Z = true) (ws : List Jvm.Cond) (ch : Int32) (qS : Addr) (h0 : Heap) (n0 : Nat) (Z0 : n0 ≤ h0.size) (S_qS : Sta Z Z.heap "com/example/coersa/coersa/Quote" "SINGLE" "Lcom/example/coersa/coersa/Quote;" (.ref qS)) (O : Old Z n0 h0) (hc : ch = 39) :
    MetFree l (⟨"com/example/coersa/coersa/Quote", "openedBy", "(C)Lcom/example/coersa/coersa/Quote;"⟩ : MethodName) (head1 (Jvm.Cond.code (⟨"com/example/coersa/coersa/Quote", "openedBy", "(C)Lcom/example/coersa/coersa/Quote;"⟩ : MethodName) prog_237_method_5_code 1 (some (.object "com/example/coersa/coersa/Quote")) :: ws) ({ frames := 0, cells := 0, slots := 0, locals := 0 } : Room)) (fun ars U => ars = #[(.int ch)] ∧ Z.Warmed39 U.vm ∧ U.heap = h0) (fun _ _ _ _ _ => True) (fun _ U o U' => ∃ v L, o = .returned v ∧ own_opn39_Q Z ch qS h0 n0 v U'.heap L ∧ FrameEnd U o U' L ({ frames := 0, cells := 0, slots := 0, locals := 0 } : Room).cells ({ frames := 0, cells := 0, slots := 0, locals := 0 } : Room).slots) := by
  refine MetFree.of_bodySF (plainFor_of_name own_opn39_pn) hisR ?_
  intro p e s m args below meth c s₁ Bd hml0 hP hK
  obtain ⟨rfl, hZ, hh⟩ := hP
  have hx := Bd.exec
  have hby := Bd.bytes
  have hml : c.maxLocals = 1 := hml0
  have hown : s.vm.findClass "com/example/coersa/coersa/Quote" = some m.cls := findClass_of_methodNamed Bd.named
  have hnm := (name_of_methodNamed Bd.named Bd.method).1
  have X0 : Stand p l e ({ frames := 0, cells := 0, slots := 0, locals := 0 } : Room) s m #[(.int ch)] below meth c s₁ [] 0 0 := Stand.of_body Bd
  have e0 : s₁.heap = h0 := by rw [← hh, Bd.state]; rfl
  have N0 := Fr.nil n0
  generalize hS0 : s₁.setTop (entryFrame m #[(.int ch)] 1) = S0
  have c0 : Steps p.tables e below S0 (s₁.setTop (mkF m 0 #[.val (.int ch)] [])) := by rw [← hS0]; exact castTop (own_opn39_ef m ch) (Steps.refl _)
  have K0 : Keep h0 h0 [] := Keep.refl _ _
  subst hc
  have c1 : Steps p.tables e below S0 (s₁.setTop (mkF m 1 #[.val (.int (39 : Int32))] [(.int (39 : Int32))])) := c0.trans (by
    refine XS.iloadN X0.here hx rfl (hb hby own_d23_0) rfl ?_
    exact Steps.refl _)
  have c2 : Steps p.tables e below S0 (s₁.setTop (mkF m 36 #[.val (.int (39 : Int32))] [])) := c1.trans (by
    refine X0.lookupswitchHit hx (g := (mkF m 1 #[.val (.int (39 : Int32))] [(.int (39 : Int32))])) rfl rfl (hb hby own_d23_1) (by decide) (a := 39) (off := 35) (by decide) (by show (0 : Int) ≤ ((1 : Nat) : Int) + 35; decide) _ ?_
    exact Steps.refl _)
  obtain ⟨T3, X3, e3, st3⟩ := getS2 X0 hx hZ hown (host := "") (Or.inl (hw _ (List.mem_of_getElem? (i := 4) rfl))) Via.refl e0 (S_qS.ext O.2) (g := (mkF m 36 #[.val (.int (39 : Int32))] [])) rfl (hb hby own_d23_36)
  have c4 : Steps p.tables e below S0 (T3.setTop (mkF m 39 #[.val (.int (39 : Int32))] [(.ref qS)])) := c2.trans (by
    refine st3 _ ?_
    exact Steps.refl _)
  have c5 : Steps p.tables e below S0 (T3.setTop (mkF m 55 #[.val (.int (39 : Int32))] [(.ref qS)])) := c4.trans (by
    refine XS.goto X3.here hx rfl (pc0 := 39) (pc' := 55) rfl (hb hby own_d23_39) (by decide) (by decide) ?_
    exact Steps.refl _)
  obtain ⟨fs, hr, hrun, hended, hW, hsame⟩ := X3.leave (v := some (.ref qS)) (fun h => by rw [Bd.returns] at h; cases h)
  exact ⟨_, _, c5.trans (retOut X3 hx (t := (.object "com/example/coersa/coersa/Quote")) (i := .areturn) Bd.returns rfl (Or.inr (Or.inr (Or.inr (Or.inr ⟨rfl, rfl, rfl⟩)))) (hb hby own_d23_55) hr), hrun, hended, _, _, rfl, ⟨rfl, N0, e3⟩, ⟨_, rfl⟩, hW, hsame.mono (by decide) (by decide)⟩
theorem own_opn34_pn : plainName "com/example/coersa/coersa/Quote" = true := by first | (simp [plainName, overriddenIn]; done) | decide +kernel
theorem own_opn34_ef (m : MethodId) (ch : Int32) : entryFrame m #[(.int ch)] 1 = mkF m 0 #[.val (.int ch)] [] := by first | (simp [entryFrame, mkF, argsToLocals, Value.category]; done) | rfl
def own_opn34_Q (Z : State) (ch : Int32) (qD : Addr) (h0 : Heap) (n0 : Nat) (v : Option Value) (h : Heap) (L : List Loc) : Prop := v = some (.ref qD) ∧ Fr n0 L ∧ h = h0
set_option maxRecDepth 65536 in
set_option maxHeartbeats 40000000 in
theorem own_opn34 (l : Launch) (Z : State) (a0 : Array Value) (hw : ∀ d ∈ tables_1, d.before a0 Z = true) (ws : List Jvm.Cond) (ch : Int32) (qD : Addr) (h0 : Heap) (n0 : Nat) (Z0 : n0 ≤ h0.size) (S_qD : Sta Z Z.heap "com/example/coersa/coersa/Quote" "DOUBLE" "Lcom/example/coersa/coersa/Quote;" (.ref qD)) (O : Old Z n0 h0) (hc : ch = 34) :
    MetFree l (⟨"com/example/coersa/coersa/Quote", "openedBy", "(C)Lcom/example/coersa/coersa/Quote;"⟩ : MethodName) (head1 (Jvm.Cond.code (⟨"com/example/coersa/coersa/Quote", "openedBy", "(C)Lcom/example/coersa/coersa/Quote;"⟩ : MethodName) prog_237_method_5_code 1 (some (.object "com/example/coersa/coersa/Quote")) :: ws) ({ frames := 0, cells := 0, slots := 0, locals := 0 } : Room)) (fun ars U => ars = #[(.int ch)] ∧ Z.Warmed39 U.vm ∧ U.heap = h0) (fun _ _ _ _ _ => True) (fun _ U o U' => ∃ v L, o = .returned v ∧ own_opn34_Q Z ch qD h0 n0 v U'.heap L ∧ FrameEnd U o U' L ({ frames := 0, cells := 0, slots := 0, locals := 0 } : Room).cells ({ frames := 0, cells := 0, slots := 0, locals := 0 } : Room).slots) := by
  refine MetFree.of_bodySF (plainFor_of_name own_opn34_pn) hisR ?_
  intro p e s m args below meth c s₁ Bd hml0 hP hK
  obtain ⟨rfl, hZ, hh⟩ := hP
  have hx := Bd.exec
  have hby := Bd.bytes
  have hml : c.maxLocals = 1 := hml0
  have hown : s.vm.findClass "com/example/coersa/coersa/Quote" = some m.cls := findClass_of_methodNamed Bd.named
  have hnm := (name_of_methodNamed Bd.named Bd.method).1
  have X0 : Stand p l e ({ frames := 0, cells := 0, slots := 0, locals := 0 } : Room) s m #[(.int ch)] below meth c s₁ [] 0 0 := Stand.of_body Bd
  have e0 : s₁.heap = h0 := by rw [← hh, Bd.state]; rfl
  have N0 := Fr.nil n0
  generalize hS0 : s₁.setTop (entryFrame m #[(.int ch)] 1) = S0
  have c0 : Steps p.tables e below S0 (s₁.setTop (mkF m 0 #[.val (.int ch)] [])) := by rw [← hS0]; exact castTop (own_opn34_ef m ch) (Steps.refl _)
  have K0 : Keep h0 h0 [] := Keep.refl _ _
  subst hc
  have c1 : Steps p.tables e below S0 (s₁.setTop (mkF m 1 #[.val (.int (34 : Int32))] [(.int (34 : Int32))])) := c0.trans (by
    refine XS.iloadN X0.here hx rfl (hb hby own_d23_0) rfl ?_
    exact Steps.refl _)
  have c2 : Steps p.tables e below S0 (s₁.setTop (mkF m 42 #[.val (.int (34 : Int32))] [])) := c1.trans (by
    refine X0.lookupswitchHit hx (g := (mkF m 1 #[.val (.int (34 : Int32))] [(.int (34 : Int32))])) rfl rfl (hb hby own_d23_1) (by decide) (a := 34) (off := 41) (by decide) (by show (0 : Int) ≤ ((1 : Nat) : Int) + 41; decide) _ ?_
    exact Steps.refl _)
  obtain ⟨T3, X3, e3, st3⟩ := getS2 X0 hx hZ hown (host := "") (Or.inl (hw _ (List.mem_of_getElem? (i := 150) rfl))) Via.refl e0 (S_qD.ext O.2) (g := (mkF m 42 #[.val (.int (34 : Int32))] [])) rfl (hb hby own_d23_42)
  have c4 : Steps p.tables e below S0 (T3.setTop (mkF m 45 #[.val (.int (34 : Int32))] [(.ref qD)])) := c2.trans (by
    refine st3 _ ?_
    exact Steps.refl _)
  have c5 : Steps p.tables e below S0 (T3.setTop (mkF m 55 #[.val (.int (34 : Int32))] [(.ref qD)])) := c4.trans (by
    refine XS.goto X3.here hx rfl (pc0 := 45) (pc' := 55) rfl (hb hby own_d23_45) (by decide) (by decide) ?_
    exact Steps.refl _)
  obtain ⟨fs, hr, hrun, hended, hW, hsame⟩ := X3.leave (v := some (.ref qD)) (fun h => by rw [Bd.returns] at h; cases h)
  exact ⟨_, _, c5.trans (retOut X3 hx (t := (.object "com/example/coersa/coersa/Quote")) (i := .areturn) Bd.returns rfl (Or.inr (Or.inr (Or.inr (Or.inr ⟨rfl, rfl, rfl⟩)))) (hb hby own_d23_55) hr), hrun, hended, _, _, rfl, ⟨rfl, N0, e3⟩, ⟨_, rfl⟩, hW, hsame.mono (by decide) (by decide)⟩
theorem own_opn96_pn : plainName "com/example/coersa/coersa/Quote" = true := by first | (simp [plainName, overriddenIn]; done) | decide +kernel
theorem own_opn96_ef (m : MethodId) (ch : Int32) : entryFrame m #[(.int ch)] 1 = mkF m 0 #[.val (.int ch)] [] := by first | (simp [entryFrame, mkF, argsToLocals, Value.category]; done) | rfl
def own_opn96_Q (Z : State) (ch : Int32) (qB : Addr) (h0 : Heap) (n0 : Nat) (v : Option Value) (h : Heap) (L : List Loc) : Prop := v = some (.ref qB) ∧ Fr n0 L ∧ h = h0
set_option maxRecDepth 65536 in
set_option maxHeartbeats 40000000 in
theorem own_opn96 (l : Launch) (Z : State) (a0 : Array Value) (hw : ∀ d ∈ tables_1, d.before a0 Z = true) (ws : List Jvm.Cond) (ch : Int32) (qB : Addr) (h0 : Heap) (n0 : Nat) (Z0 : n0 ≤ h0.size) (S_qB : Sta Z Z.heap "com/example/coersa/coersa/Quote" "BACKQUOTE" "Lcom/example/coersa/coersa/Quote;" (.ref qB)) (O : Old Z n0 h0) (hc : ch = 96) :
    MetFree l (⟨"com/example/coersa/coersa/Quote", "openedBy", "(C)Lcom/example/coersa/coersa/Quote;"⟩ : MethodName) (head1 (Jvm.Cond.code (⟨"com/example/coersa/coersa/Quote", "openedBy", "(C)Lcom/example/coersa/coersa/Quote;"⟩ : MethodName) prog_237_method_5_code 1 (some (.object "com/example/coersa/coersa/Quote")) :: ws) ({ frames := 0, cells := 0, slots := 0, locals := 0 } : Room)) (fun ars U => ars = #[(.int ch)] ∧ Z.Warmed39 U.vm ∧ U.heap = h0) (fun _ _ _ _ _ => True) (fun _ U o U' => ∃ v L, o = .returned v ∧ own_opn96_Q Z ch qB h0 n0 v U'.heap L ∧ FrameEnd U o U' L ({ frames := 0, cells := 0, slots := 0, locals := 0 } : Room).cells ({ frames := 0, cells := 0, slots := 0, locals := 0 } : Room).slots) := by
  refine MetFree.of_bodySF (plainFor_of_name own_opn96_pn) hisR ?_
  intro p e s m args below meth c s₁ Bd hml0 hP hK
  obtain ⟨rfl, hZ, hh⟩ := hP
  have hx := Bd.exec
  have hby := Bd.bytes
  have hml : c.maxLocals = 1 := hml0
  have hown : s.vm.findClass "com/example/coersa/coersa/Quote" = some m.cls := findClass_of_methodNamed Bd.named
  have hnm := (name_of_methodNamed Bd.named Bd.method).1
  have X0 : Stand p l e ({ frames := 0, cells := 0, slots := 0, locals := 0 } : Room) s m #[(.int ch)] below meth c s₁ [] 0 0 := Stand.of_body Bd
  have e0 : s₁.heap = h0 := by rw [← hh, Bd.state]; rfl
  have N0 := Fr.nil n0
  generalize hS0 : s₁.setTop (entryFrame m #[(.int ch)] 1) = S0
  have c0 : Steps p.tables e below S0 (s₁.setTop (mkF m 0 #[.val (.int ch)] [])) := by rw [← hS0]; exact castTop (own_opn96_ef m ch) (Steps.refl _)
  have K0 : Keep h0 h0 [] := Keep.refl _ _
  subst hc
  have c1 : Steps p.tables e below S0 (s₁.setTop (mkF m 1 #[.val (.int (96 : Int32))] [(.int (96 : Int32))])) := c0.trans (by
    refine XS.iloadN X0.here hx rfl (hb hby own_d23_0) rfl ?_
    exact Steps.refl _)
  have c2 : Steps p.tables e below S0 (s₁.setTop (mkF m 48 #[.val (.int (96 : Int32))] [])) := c1.trans (by
    refine X0.lookupswitchHit hx (g := (mkF m 1 #[.val (.int (96 : Int32))] [(.int (96 : Int32))])) rfl rfl (hb hby own_d23_1) (by decide) (a := 96) (off := 47) (by decide) (by show (0 : Int) ≤ ((1 : Nat) : Int) + 47; decide) _ ?_
    exact Steps.refl _)
  obtain ⟨T3, X3, e3, st3⟩ := getS2 X0 hx hZ hown (host := "") (Or.inl (hw _ (List.mem_of_getElem? (i := 148) rfl))) Via.refl e0 (S_qB.ext O.2) (g := (mkF m 48 #[.val (.int (96 : Int32))] [])) rfl (hb hby own_d23_48)
  have c4 : Steps p.tables e below S0 (T3.setTop (mkF m 51 #[.val (.int (96 : Int32))] [(.ref qB)])) := c2.trans (by
    refine st3 _ ?_
    exact Steps.refl _)
  have c5 : Steps p.tables e below S0 (T3.setTop (mkF m 55 #[.val (.int (96 : Int32))] [(.ref qB)])) := c4.trans (by
    refine XS.goto X3.here hx rfl (pc0 := 51) (pc' := 55) rfl (hb hby own_d23_51) (by decide) (by decide) ?_
    exact Steps.refl _)
  obtain ⟨fs, hr, hrun, hended, hW, hsame⟩ := X3.leave (v := some (.ref qB)) (fun h => by rw [Bd.returns] at h; cases h)
  exact ⟨_, _, c5.trans (retOut X3 hx (t := (.object "com/example/coersa/coersa/Quote")) (i := .areturn) Bd.returns rfl (Or.inr (Or.inr (Or.inr (Or.inr ⟨rfl, rfl, rfl⟩)))) (hb hby own_d23_55) hr), hrun, hended, _, _, rfl, ⟨rfl, N0, e3⟩, ⟨_, rfl⟩, hW, hsame.mono (by decide) (by decide)⟩
theorem own_opnN_pn : plainName "com/example/coersa/coersa/Quote" = true := by first | (simp [plainName, overriddenIn]; done) | decide +kernel
theorem own_opnN_ef (m : MethodId) (ch : Int32) : entryFrame m #[(.int ch)] 1 = mkF m 0 #[.val (.int ch)] [] := by first | (simp [entryFrame, mkF, argsToLocals, Value.category]; done) | rfl
def own_opnN_Q (Z : State) (ch : Int32) (h0 : Heap) (n0 : Nat) (v : Option Value) (h : Heap) (L : List Loc) : Prop := v = some .null ∧ Fr n0 L ∧ h = h0
set_option maxRecDepth 65536 in
set_option maxHeartbeats 40000000 in
theorem own_opnN (l : Launch) (Z : State) (a0 : Array Value) (hw : ∀ d ∈ tables_1, d.before a0 Z = true) (ws : List Jvm.Cond) (ch : Int32) (h0 : Heap) (n0 : Nat) (Z0 : n0 ≤ h0.size) (h39 : ¬ ch = 39) (h34 : ¬ ch = 34) (h96 : ¬ ch = 96) :
    MetFree l (⟨"com/example/coersa/coersa/Quote", "openedBy", "(C)Lcom/example/coersa/coersa/Quote;"⟩ : MethodName) (head1 (Jvm.Cond.code (⟨"com/example/coersa/coersa/Quote", "openedBy", "(C)Lcom/example/coersa/coersa/Quote;"⟩ : MethodName) prog_237_method_5_code 1 (some (.object "com/example/coersa/coersa/Quote")) :: ws) ({ frames := 0, cells := 0, slots := 0, locals := 0 } : Room)) (fun ars U => ars = #[(.int ch)] ∧ Z.Warmed39 U.vm ∧ U.heap = h0) (fun _ _ _ _ _ => True) (fun _ U o U' => ∃ v L, o = .returned v ∧ own_opnN_Q Z ch  h0 n0 v U'.heap L ∧ FrameEnd U o U' L ({ frames := 0, cells := 0, slots := 0, locals := 0 } : Room).cells ({ frames := 0, cells := 0, slots := 0, locals := 0 } : Room).slots) := by
  refine MetFree.of_bodySF (plainFor_of_name own_opnN_pn) hisR ?_
  intro p e s m args below meth c s₁ Bd hml0 hP hK
  obtain ⟨rfl, hZ, hh⟩ := hP
  have hx := Bd.exec
  have hby := Bd.bytes
  have hml : c.maxLocals = 1 := hml0
  have hown : s.vm.findClass "com/example/coersa/coersa/Quote" = some m.cls := findClass_of_methodNamed Bd.named
  have hnm := (name_of_methodNamed Bd.named Bd.method).1
  have X0 : Stand p l e ({ frames := 0, cells := 0, slots := 0, locals := 0 } : Room) s m #[(.int ch)] below meth c s₁ [] 0 0 := Stand.of_body Bd
  have e0 : s₁.heap = h0 := by rw [← hh, Bd.state]; rfl
  have N0 := Fr.nil n0
  generalize hS0 : s₁.setTop (entryFrame m #[(.int ch)] 1) = S0
  have c0 : Steps p.tables e below S0 (s₁.setTop (mkF m 0 #[.val (.int ch)] [])) := by rw [← hS0]; exact castTop (own_opnN_ef m ch) (Steps.refl _)
  have K0 : Keep h0 h0 [] := Keep.refl _ _
  have c1 : Steps p.tables e below S0 (s₁.setTop (mkF m 1 #[.val (.int ch)] [(.int ch)])) := c0.trans (by
    refine XS.iloadN X0.here hx rfl (hb hby own_d23_0) rfl ?_
    exact Steps.refl _)
  have c2 : Steps p.tables e below S0 (s₁.setTop (mkF m 54 #[.val (.int ch)] [])) := c1.trans (by
    refine X0.lookupswitchMiss hx (g := (mkF m 1 #[.val (.int ch)] [(.int ch)])) rfl rfl (hb hby own_d23_1) (by decide) (own_miss h39 h34 h96) (by show (0 : Int) ≤ ((1 : Nat) : Int) + 53; decide) _ ?_
    exact Steps.refl _)
  have c3 : Steps p.tables e below S0 (s₁.setTop (mkF m 55 #[.val (.int ch)] [.null])) := c2.trans (by
    refine XS.aconstNull X0.here hx rfl (hb hby own_d23_54) ?_
    exact Steps.refl _)
  obtain ⟨fs, hr, hrun, hended, hW, hsame⟩ := X0.leave (v := some .null) (fun h => by rw [Bd.returns] at h; cases h)
  exact ⟨_, _, c3.trans (retOut X0 hx (t := (.object "com/example/coersa/coersa/Quote")) (i := .areturn) Bd.returns rfl (Or.inr (Or.inr (Or.inr (Or.inr ⟨rfl, rfl, rfl⟩)))) (hb hby own_d23_55) hr), hrun, hended, _, _, rfl, ⟨rfl, N0, e0⟩, ⟨_, rfl⟩, hW, hsame.mono (by decide) (by decide)⟩
theorem own_d24_0 : decode prog_237_method_4_code 0 = .ok (.aload_n 0, 1) := by decide +kernel
theorem own_d24_1 : decode prog_237_method_4_code 1 = .ok (.getstatic 10, 3) := by decide +kernel
theorem own_d24_4 : decode prog_237_method_4_code 4 = .ok (.if_acmp .ne 7, 3) := by decide +kernel
theorem own_d24_7 : decode prog_237_method_4_code 7 = .ok (.iconst 1, 1) := by decide +kernel
theorem own_d24_8 : decode prog_237_method_4_code 8 = .ok (.goto 4, 3) := by decide +kernel
theorem own_d24_11 : decode prog_237_method_4_code 11 = .ok (.iconst 0, 1) := by decide +kernel
theorem own_d24_12 : decode prog_237_method_4_code 12 = .ok (.ireturn, 1) := by decide +kernel
theorem own_isn0_pn : plainName "com/example/coersa/coersa/Quote" = true := by first | (simp [plainName, overriddenIn]; done) | decide +kernel
theorem own_isn0_ef (m : MethodId) (a : Addr) : entryFrame m #[(.ref a)] 1 = mkF m 0 #[.val (.ref a)] [] := by first | (simp [entryFrame, mkF, argsToLocals, Value.category]; done) | rfl
def own_isn0_Q (Z : State) (a : Addr) (qB : Addr) (h0 : Heap) (n0 : Nat) (v : Option Value) (h : Heap) (L : List Loc) : Prop := v = some (.int (0 : Int32)) ∧ Fr n0 L ∧ h = h0
set_option maxRecDepth 65536 in
set_option maxHeartbeats 40000000 in
theorem own_isn0 (l : Launch) (Z : State) (a0 : Array Value) (hw : ∀ d ∈ tables_1, d.before a0 Z = true) (ws : List Jvm.Cond) (a : Addr) (qB : Addr) (h0 : Heap) (n0 : Nat) (Z0 : n0 ≤ h0.size) (S_qB : Sta Z Z.heap "com/example/coersa/coersa/Quote" "BACKQUOTE" "Lcom/example/coersa/coersa/Quote;" (.ref qB)) (O : Old Z n0 h0) (ha : ¬ a = qB) :
    MetFree l (⟨"com/example/coersa/coersa/Quote", "isName", "()Z"⟩ : MethodName) (head1 (Jvm.Cond.code (⟨"com/example/coersa/coersa/Quote", "isName", "()Z"⟩ : MethodName) prog_237_method_4_code 1 (some .boolean) :: ws) ({ frames := 0, cells := 0, slots := 0, locals := 0 } : Room)) (fun ars U => ars = #[(.ref a)] ∧ Z.Warmed39 U.vm ∧ U.heap = h0) (fun _ _ _ _ _ => True) (fun _ U o U' => ∃ v L, o = .returned v ∧ own_isn0_Q Z a qB h0 n0 v U'.heap L ∧ FrameEnd U o U' L ({ frames := 0, cells := 0, slots := 0, locals := 0 } : Room).cells ({ frames := 0, cells := 0, slots := 0, locals := 0 } : Room).slots) := by
  refine MetFree.of_bodySF (plainFor_of_name own_isn0_pn) hisR ?_
  intro p e s m args below meth c s₁ Bd hml0 hP hK
  obtain ⟨rfl, hZ, hh⟩ := hP
  have hx := Bd.exec
  have hby := Bd.bytes
  have hml : c.maxLocals = 1 := hml0
  have hown : s.vm.findClass "com/example/coersa/coersa/Quote" = some m.cls := findClass_of_methodNamed Bd.named
  have hnm := (name_of_methodNamed Bd.named Bd.method).1
  have X0 : Stand p l e ({ frames := 0, cells := 0, slots := 0, locals := 0 } : Room) s m #[(.ref a)] below meth c s₁ [] 0 0 := Stand.of_body Bd
  have e0 : s₁.heap = h0 := by rw [← hh, Bd.state]; rfl
  have N0 := Fr.nil n0
  generalize hS0 : s₁.setTop (entryFrame m #[(.ref a)] 1) = S0
  have c0 : Steps p.tables e below S0 (s₁.setTop (mkF m 0 #[.val (.ref a)] [])) := by rw [← hS0]; exact castTop (own_isn0_ef m a) (Steps.refl _)
  have K0 : Keep h0 h0 [] := Keep.refl _ _
  have c1 : Steps p.tables e below S0 (s₁.setTop (mkF m 1 #[.val (.ref a)] [(.ref a)])) := c0.trans (by
    refine XS.aloadN X0.here hx rfl (hb hby own_d24_0) rfl rfl ?_
    exact Steps.refl _)
  obtain ⟨T2, X2, e2, st2⟩ := getS2 X0 hx hZ hown (host := "") (Or.inl (hw _ (List.mem_of_getElem? (i := 148) rfl))) Via.refl e0 (S_qB.ext O.2) (g := (mkF m 1 #[.val (.ref a)] [(.ref a)])) rfl (hb hby own_d24_1)
  have c3 : Steps p.tables e below S0 (T2.setTop (mkF m 4 #[.val (.ref a)] [(.ref qB), (.ref a)])) := c1.trans (by
    refine st2 _ ?_
    exact Steps.refl _)
  have c4 : Steps p.tables e below S0 (T2.setTop (mkF m 11 #[.val (.ref a)] [])) := c3.trans (by
    refine Jvm.RoadKit.acmp (g := (mkF m 4 #[.val (.ref a)] [(.ref qB), (.ref a)])) X2 hx rfl rfl rfl (pc0 := 4) (pc' := 11) (same := false) rfl (hb hby own_d24_4) rfl (decide_eq_false fun q => ha (Value.ref.inj q)) (by decide) (by decide) ?_
    exact Steps.refl _)
  have c5 : Steps p.tables e below S0 (T2.setTop (mkF m 12 #[.val (.ref a)] [(.int (0 : Int32))])) := c4.trans (by
    refine XS.iconst X2.here hx rfl (hb hby own_d24_11) ?_
    exact Steps.refl _)
  obtain ⟨fs, hr, hrun, hended, hW, hsame⟩ := X2.leave (v := some (.int (0 : Int32))) (fun h => by rw [Bd.returns] at h; cases h)
  exact ⟨_, _, c5.trans (retN X2 hx (t := .boolean) Bd.returns (by simp) (hb hby own_d24_12) hr), hrun, hended, _, _, rfl, ⟨rfl, N0, e2⟩, ⟨_, rfl⟩, hW, hsame.mono (by decide) (by decide)⟩
theorem own_isn1_pn : plainName "com/example/coersa/coersa/Quote" = true := by first | (simp [plainName, overriddenIn]; done) | decide +kernel
theorem own_isn1_ef (m : MethodId) (a : Addr) : entryFrame m #[(.ref a)] 1 = mkF m 0 #[.val (.ref a)] [] := by first | (simp [entryFrame, mkF, argsToLocals, Value.category]; done) | rfl
def own_isn1_Q (Z : State) (a : Addr) (qB : Addr) (h0 : Heap) (n0 : Nat) (v : Option Value) (h : Heap) (L : List Loc) : Prop := v = some (.int (1 : Int32)) ∧ Fr n0 L ∧ h = h0
set_option maxRecDepth 65536 in
set_option maxHeartbeats 40000000 in
theorem own_isn1 (l : Launch) (Z : State) (a0 : Array Value) (hw : ∀ d ∈ tables_1, d.before a0 Z = true) (ws : List Jvm.Cond) (a : Addr) (qB : Addr) (h0 : Heap) (n0 : Nat) (Z0 : n0 ≤ h0.size) (S_qB : Sta Z Z.heap "com/example/coersa/coersa/Quote" "BACKQUOTE" "Lcom/example/coersa/coersa/Quote;" (.ref qB)) (O : Old Z n0 h0) (ha : a = qB) :
    MetFree l (⟨"com/example/coersa/coersa/Quote", "isName", "()Z"⟩ : MethodName) (head1 (Jvm.Cond.code (⟨"com/example/coersa/coersa/Quote", "isName", "()Z"⟩ : MethodName) prog_237_method_4_code 1 (some .boolean) :: ws) ({ frames := 0, cells := 0, slots := 0, locals := 0 } : Room)) (fun ars U => ars = #[(.ref a)] ∧ Z.Warmed39 U.vm ∧ U.heap = h0) (fun _ _ _ _ _ => True) (fun _ U o U' => ∃ v L, o = .returned v ∧ own_isn1_Q Z a qB h0 n0 v U'.heap L ∧ FrameEnd U o U' L ({ frames := 0, cells := 0, slots := 0, locals := 0 } : Room).cells ({ frames := 0, cells := 0, slots := 0, locals := 0 } : Room).slots) := by
  refine MetFree.of_bodySF (plainFor_of_name own_isn1_pn) hisR ?_
  intro p e s m args below meth c s₁ Bd hml0 hP hK
  obtain ⟨rfl, hZ, hh⟩ := hP
  have hx := Bd.exec
  have hby := Bd.bytes
  have hml : c.maxLocals = 1 := hml0
  have hown : s.vm.findClass "com/example/coersa/coersa/Quote" = some m.cls := findClass_of_methodNamed Bd.named
  have hnm := (name_of_methodNamed Bd.named Bd.method).1
  have X0 : Stand p l e ({ frames := 0, cells := 0, slots := 0, locals := 0 } : Room) s m #[(.ref a)] below meth c s₁ [] 0 0 := Stand.of_body Bd
  have e0 : s₁.heap = h0 := by rw [← hh, Bd.state]; rfl
  have N0 := Fr.nil n0
  generalize hS0 : s₁.setTop (entryFrame m #[(.ref a)] 1) = S0
  have c0 : Steps p.tables e below S0 (s₁.setTop (mkF m 0 #[.val (.ref a)] [])) := by rw [← hS0]; exact castTop (own_isn1_ef m a) (Steps.refl _)
  have K0 : Keep h0 h0 [] := Keep.refl _ _
  have c1 : Steps p.tables e below S0 (s₁.setTop (mkF m 1 #[.val (.ref a)] [(.ref a)])) := c0.trans (by
    refine XS.aloadN X0.here hx rfl (hb hby own_d24_0) rfl rfl ?_
    exact Steps.refl _)
  obtain ⟨T2, X2, e2, st2⟩ := getS2 X0 hx hZ hown (host := "") (Or.inl (hw _ (List.mem_of_getElem? (i := 148) rfl))) Via.refl e0 (S_qB.ext O.2) (g := (mkF m 1 #[.val (.ref a)] [(.ref a)])) rfl (hb hby own_d24_1)
  have c3 : Steps p.tables e below S0 (T2.setTop (mkF m 4 #[.val (.ref a)] [(.ref qB), (.ref a)])) := c1.trans (by
    refine st2 _ ?_
    exact Steps.refl _)
  have c4 : Steps p.tables e below S0 (T2.setTop (mkF m 7 #[.val (.ref a)] [])) := c3.trans (by
    refine Jvm.RoadKit.acmp (g := (mkF m 4 #[.val (.ref a)] [(.ref qB), (.ref a)])) X2 hx rfl rfl rfl (pc0 := 4) (pc' := 7) (same := true) rfl (hb hby own_d24_4) rfl (decide_eq_true (congrArg Value.ref ha)) (by decide) (by decide) ?_
    exact Steps.refl _)
  have c5 : Steps p.tables e below S0 (T2.setTop (mkF m 12 #[.val (.ref a)] [(.int (1 : Int32))])) := c4.trans (by
    refine XS.iconst X2.here hx rfl (hb hby own_d24_7) ?_
    show Steps p.tables e below (T2.setTop (mkF m 8 #[.val (.ref a)] [(.int (1 : Int32))])) _
    refine XS.goto X2.here hx rfl (pc0 := 8) (pc' := 12) rfl (hb hby own_d24_8) (by decide) (by decide) ?_
    exact Steps.refl _)
  obtain ⟨fs, hr, hrun, hended, hW, hsame⟩ := X2.leave (v := some (.int (1 : Int32))) (fun h => by rw [Bd.returns] at h; cases h)
  exact ⟨_, _, c5.trans (retN X2 hx (t := .boolean) Bd.returns (by simp) (hb hby own_d24_12) hr), hrun, hended, _, _, rfl, ⟨rfl, N0, e2⟩, ⟨_, rfl⟩, hW, hsame.mono (by decide) (by decide)⟩
theorem own_law_pn : plainName "com/example/coersa/coersa/QuoteOpenedByPinLaw" = true := by first | (simp [plainName, overriddenIn]; done) | decide +kernel
theorem own_law_ef (m : MethodId) (sel raw : Int32) : entryFrame m #[(.int sel), (.int raw)] maxLocals = mkF m 0 #[.val (.int sel), .val (.int raw), .unset, .unset, .unset, .unset, .unset] [] := by first | (simp [entryFrame, mkF, argsToLocals, Value.category, maxLocals]; done) | rfl
set_option maxRecDepth 65536 in
set_option maxHeartbeats 40000000 in
theorem own_law (l : Launch) (Z : State) (a0 : Array Value) (hw : ∀ d ∈ tables_1, d.before a0 Z = true) (ws : List Jvm.Cond) (sel raw cs : Int32) (f : Value) (qS qD qB : Addr) (S_qS : Sta Z Z.heap "com/example/coersa/coersa/Quote" "SINGLE" "Lcom/example/coersa/coersa/Quote;" (.ref qS)) (S_qD : Sta Z Z.heap "com/example/coersa/coersa/Quote" "DOUBLE" "Lcom/example/coersa/coersa/Quote;" (.ref qD)) (S_qB : Sta Z Z.heap "com/example/coersa/coersa/Quote" "BACKQUOTE" "Lcom/example/coersa/coersa/Quote;" (.ref qB)) (E_qS : Exa Z Z.heap qS "com/example/coersa/coersa/Quote") (M_qS : Fld Z Z.heap qS "com/example/coersa/coersa/Quote" "mark" "C" (.int (39 : Int32))) (E_qD : Exa Z Z.heap qD "com/example/coersa/coersa/Quote") (M_qD : Fld Z Z.heap qD "com/example/coersa/coersa/Quote" "mark" "C" (.int (34 : Int32))) (E_qB : Exa Z Z.heap qB "com/example/coersa/coersa/Quote") (M_qB : Fld Z Z.heap qB "com/example/coersa/coersa/Quote" "mark" "C" (.int (96 : Int32))) (hSB : ¬ qS = qB) (hDB : ¬ qD = qB) (SC : Sta Z Z.heap "java/lang/String" "COMPACT_STRINGS" "Z" (.int cs)) (hcs : ¬ cs = 0) (SF : Sta Z Z.heap "jdk/internal/util/Preconditions" "SIOOBE_FORMATTER" "Ljava/util/function/BiFunction;" f) (hgv : f.isRef = true) (hheld : Jvm.Lit.constHeld Z "com/example/coersa/coersa/QuoteOpenedByPinLaw" 14) (hcw : Jvm.Lit.compactW.before a0 Z = true) :
    MetFree l x (head1 (Jvm.Cond.code x code maxLocals ret :: ws) room_1) (fun a U => a = #[(.int sel), (.int raw)] ∧ U = Z) (fun _ _ _ _ _ => True) (fun _ U o U' => ∃ v L, o = .returned v ∧ (v = some (.int 1) ∧ Fr Z.heap.size L) ∧ ReturnedEndW U o U' L 24 1152) := by
  refine MetFree.of_bodySF (plainFor_of_name own_law_pn) hisR ?_
  intro p e s m args below meth c s₁ Bd hml0 hP hK
  obtain ⟨rfl, hUZ⟩ := hP
  subst hUZ
  have hx := Bd.exec
  have hby := Bd.bytes
  have hml : c.maxLocals = 7 := hml0
  have hown : s.vm.findClass "com/example/coersa/coersa/QuoteOpenedByPinLaw" = some m.cls := findClass_of_methodNamed Bd.named
  have hnm := (name_of_methodNamed Bd.named Bd.method).1
  obtain ⟨Z, hsZ⟩ : ∃ Z, Z = s := ⟨_, rfl⟩
  rw [← hsZ] at hw S_qS E_qS M_qS S_qD E_qD M_qD S_qB E_qB M_qB SC SF hheld hcw
  have hZ : Z.Warmed39 s.vm := by rw [hsZ]; exact State.Warmed39.refl s
  have X0 : Stand p l e room_1 s m #[(.int sel), (.int raw)] below meth c s₁ [] 0 0 := Stand.of_body Bd
  obtain ⟨h0, hh0⟩ : ∃ h, h = s.heap := ⟨_, rfl⟩
  have e0 : s₁.heap = h0 := by rw [hh0, Bd.state]; rfl
  obtain ⟨n0, hn0⟩ : ∃ n, n = s.heap.size := ⟨_, rfl⟩
  have Z0 : n0 ≤ h0.size := by rw [hn0, hh0]; exact Nat.le_refl _
  have N0 := Fr.nil n0
  have eZh : Z.heap = h0 := by rw [hsZ, hh0]
  have O : Old Z n0 h0 := ⟨by rw [eZh, hh0, hn0], by rw [eZh]; exact ⟨Nat.le_refl _, fun _ _ q => q⟩⟩
  rw [eZh] at E_qS M_qS
  rw [eZh] at E_qD M_qD
  rw [eZh] at E_qB M_qB
  generalize hS0 : s₁.setTop (entryFrame m #[(.int sel), (.int raw)] maxLocals) = S0
  have c0 : Steps p.tables e below S0 (s₁.setTop (mkF m 0 #[.val (.int sel), .val (.int raw), .unset, .unset, .unset, .unset, .unset] [])) := by rw [← hS0]; exact castTop (own_law_ef m sel raw) (Steps.refl _)
  have K0 : Keep h0 h0 [] := Keep.refl _ _
  have c1 : Steps p.tables e below S0 (s₁.setTop (mkF m 3 #[.val (.int sel), .val (.int raw), .unset, .unset, .unset, .unset, .unset] [(.int (sel &&& (3 : Int32)))])) := c0.trans (by
    refine XS.iloadN X0.here hx rfl (hb hby at_0) rfl ?_
    show Steps p.tables e below (s₁.setTop (mkF m 1 #[.val (.int sel), .val (.int raw), .unset, .unset, .unset, .unset, .unset] [(.int sel)])) _
    refine XS.iconst X0.here hx rfl (hb hby at_1) ?_
    show Steps p.tables e below (s₁.setTop (mkF m 2 #[.val (.int sel), .val (.int raw), .unset, .unset, .unset, .unset, .unset] [(.int (3 : Int32)), (.int sel)])) _
    refine XS.iand X0.here hx rfl (hb hby at_2) rfl ?_
    exact Steps.refl _)
  obtain ⟨ss, hss⟩ : ∃ z : Int32, z = (sel &&& (3 : Int32)) := ⟨_, rfl⟩
  rw [← hss] at c1
  have c2 : Steps p.tables e below S0 (s₁.setTop (mkF m 5 #[.val (.int sel), .val (.int raw), .unset, .val (.int ss), .unset, .unset, .unset] [(.int ss)])) := c1.trans (by
    refine XS.istoreN X0.here hx rfl (hb hby at_3) rfl (l' := #[.val (.int sel), .val (.int raw), .unset, .val (.int ss), .unset, .unset, .unset]) rfl ?_
    show Steps p.tables e below (s₁.setTop (mkF m 4 #[.val (.int sel), .val (.int raw), .unset, .val (.int ss), .unset, .unset, .unset] [])) _
    refine XS.iloadN X0.here hx rfl (hb hby at_4) rfl ?_
    exact Steps.refl _)
  have key : ∃ cc : Int32, Steps p.tables e below S0 (s₁.setTop (mkF m 42 #[.val (.int sel), .val (.int raw), .val (.int cc), .val (.int ss), .unset, .unset, .unset] [])) := by
    by_cases hs0 : ss = (0 : Int32)
    · have c3 : Steps p.tables e below S0 (s₁.setTop (mkF m 8 #[.val (.int sel), .val (.int raw), .unset, .val (.int ss), .unset, .unset, .unset] [])) := c2.trans (by
        refine XS.ifNo X0.here hx rfl (hb hby at_5) rfl ((if0 _ _).trans (teq hs0).2) ?_
        exact Steps.refl _)
      have c4 : Steps p.tables e below S0 (s₁.setTop (mkF m 42 #[.val (.int sel), .val (.int raw), .val (.int (39 : Int32)), .val (.int ss), .unset, .unset, .unset] [])) := c3.trans (by
        refine XS.bipush X0.here hx rfl (hb hby at_8) ?_
        show Steps p.tables e below (s₁.setTop (mkF m 10 #[.val (.int sel), .val (.int raw), .unset, .val (.int ss), .unset, .unset, .unset] [(.int (39 : Int32))])) _
        refine XS.istoreN X0.here hx rfl (hb hby at_10) rfl (l' := #[.val (.int sel), .val (.int raw), .val (.int (39 : Int32)), .val (.int ss), .unset, .unset, .unset]) rfl ?_
        show Steps p.tables e below (s₁.setTop (mkF m 11 #[.val (.int sel), .val (.int raw), .val (.int (39 : Int32)), .val (.int ss), .unset, .unset, .unset] [])) _
        refine XS.goto X0.here hx rfl (pc0 := 11) (pc' := 42) rfl (hb hby at_11) (by decide) (by decide) ?_
        exact Steps.refl _)
      exact ⟨_, c4⟩
    · have c5 : Steps p.tables e below S0 (s₁.setTop (mkF m 14 #[.val (.int sel), .val (.int raw), .unset, .val (.int ss), .unset, .unset, .unset] [])) := c2.trans (by
        refine XS.ifYes X0.here hx rfl (pc0 := 5) (pc' := 14) rfl (hb hby at_5) rfl ((if0 _ _).trans (feq hs0).2) (by decide) (by decide) ?_
        exact Steps.refl _)
      have c6 : Steps p.tables e below S0 (s₁.setTop (mkF m 16 #[.val (.int sel), .val (.int raw), .unset, .val (.int ss), .unset, .unset, .unset] [(.int (1 : Int32)), (.int ss)])) := c5.trans (by
        refine XS.iloadN X0.here hx rfl (hb hby at_14) rfl ?_
        show Steps p.tables e below (s₁.setTop (mkF m 15 #[.val (.int sel), .val (.int raw), .unset, .val (.int ss), .unset, .unset, .unset] [(.int ss)])) _
        refine XS.iconst X0.here hx rfl (hb hby at_15) ?_
        exact Steps.refl _)
      by_cases hs1 : ss = (1 : Int32)
      · have c7 : Steps p.tables e below S0 (s₁.setTop (mkF m 19 #[.val (.int sel), .val (.int raw), .unset, .val (.int ss), .unset, .unset, .unset] [])) := c6.trans (by
          refine XS.icmpNo X0.here hx rfl (hb hby at_16) rfl (teq hs1).2 ?_
          exact Steps.refl _)
        have c8 : Steps p.tables e below S0 (s₁.setTop (mkF m 42 #[.val (.int sel), .val (.int raw), .val (.int (34 : Int32)), .val (.int ss), .unset, .unset, .unset] [])) := c7.trans (by
          refine XS.bipush X0.here hx rfl (hb hby at_19) ?_
          show Steps p.tables e below (s₁.setTop (mkF m 21 #[.val (.int sel), .val (.int raw), .unset, .val (.int ss), .unset, .unset, .unset] [(.int (34 : Int32))])) _
          refine XS.istoreN X0.here hx rfl (hb hby at_21) rfl (l' := #[.val (.int sel), .val (.int raw), .val (.int (34 : Int32)), .val (.int ss), .unset, .unset, .unset]) rfl ?_
          show Steps p.tables e below (s₁.setTop (mkF m 22 #[.val (.int sel), .val (.int raw), .val (.int (34 : Int32)), .val (.int ss), .unset, .unset, .unset] [])) _
          refine XS.goto X0.here hx rfl (pc0 := 22) (pc' := 42) rfl (hb hby at_22) (by decide) (by decide) ?_
          exact Steps.refl _)
        exact ⟨_, c8⟩
      · have c9 : Steps p.tables e below S0 (s₁.setTop (mkF m 25 #[.val (.int sel), .val (.int raw), .unset, .val (.int ss), .unset, .unset, .unset] [])) := c6.trans (by
          refine XS.icmpYes X0.here hx rfl (pc0 := 16) (pc' := 25) rfl (hb hby at_16) rfl (feq hs1).2 (by decide) (by decide) ?_
          exact Steps.refl _)
        have c10 : Steps p.tables e below S0 (s₁.setTop (mkF m 27 #[.val (.int sel), .val (.int raw), .unset, .val (.int ss), .unset, .unset, .unset] [(.int (2 : Int32)), (.int ss)])) := c9.trans (by
          refine XS.iloadN X0.here hx rfl (hb hby at_25) rfl ?_
          show Steps p.tables e below (s₁.setTop (mkF m 26 #[.val (.int sel), .val (.int raw), .unset, .val (.int ss), .unset, .unset, .unset] [(.int ss)])) _
          refine XS.iconst X0.here hx rfl (hb hby at_26) ?_
          exact Steps.refl _)
        by_cases hs2 : ss = (2 : Int32)
        · have c11 : Steps p.tables e below S0 (s₁.setTop (mkF m 30 #[.val (.int sel), .val (.int raw), .unset, .val (.int ss), .unset, .unset, .unset] [])) := c10.trans (by
            refine XS.icmpNo X0.here hx rfl (hb hby at_27) rfl (teq hs2).2 ?_
            exact Steps.refl _)
          have c12 : Steps p.tables e below S0 (s₁.setTop (mkF m 42 #[.val (.int sel), .val (.int raw), .val (.int (96 : Int32)), .val (.int ss), .unset, .unset, .unset] [])) := c11.trans (by
            refine XS.bipush X0.here hx rfl (hb hby at_30) ?_
            show Steps p.tables e below (s₁.setTop (mkF m 32 #[.val (.int sel), .val (.int raw), .unset, .val (.int ss), .unset, .unset, .unset] [(.int (96 : Int32))])) _
            refine XS.istoreN X0.here hx rfl (hb hby at_32) rfl (l' := #[.val (.int sel), .val (.int raw), .val (.int (96 : Int32)), .val (.int ss), .unset, .unset, .unset]) rfl ?_
            show Steps p.tables e below (s₁.setTop (mkF m 33 #[.val (.int sel), .val (.int raw), .val (.int (96 : Int32)), .val (.int ss), .unset, .unset, .unset] [])) _
            refine XS.goto X0.here hx rfl (pc0 := 33) (pc' := 42) rfl (hb hby at_33) (by decide) (by decide) ?_
            exact Steps.refl _)
          exact ⟨_, c12⟩
        · have c13 : Steps p.tables e below S0 (s₁.setTop (mkF m 36 #[.val (.int sel), .val (.int raw), .unset, .val (.int ss), .unset, .unset, .unset] [])) := c10.trans (by
            refine XS.icmpYes X0.here hx rfl (pc0 := 27) (pc' := 36) rfl (hb hby at_27) rfl (feq hs2).2 (by decide) (by decide) ?_
            exact Steps.refl _)
          have c14 : Steps p.tables e below S0 (s₁.setTop (mkF m 42 #[.val (.int sel), .val (.int raw), .val (.int ((raw &&& (65535 : Int32)).toUInt32.toUInt16.toUInt32.toInt32)), .val (.int ss), .unset, .unset, .unset] [])) := c13.trans (by
            refine XS.iloadN X0.here hx rfl (hb hby at_36) rfl ?_
            show Steps p.tables e below (s₁.setTop (mkF m 37 #[.val (.int sel), .val (.int raw), .unset, .val (.int ss), .unset, .unset, .unset] [(.int raw)])) _
            refine X0.ldcInt hx hown (mvT hZ (hw _ (List.mem_of_getElem? (i := 152) rfl))) (g := (mkF m 37 #[.val (.int sel), .val (.int raw), .unset, .val (.int ss), .unset, .unset, .unset] [(.int raw)])) rfl (hb hby at_37) _ ?_
            show Steps p.tables e below (s₁.setTop (mkF m 39 #[.val (.int sel), .val (.int raw), .unset, .val (.int ss), .unset, .unset, .unset] [(.int (65535 : Int32)), (.int raw)])) _
            refine XS.iand X0.here hx rfl (hb hby at_39) rfl ?_
            show Steps p.tables e below (s₁.setTop (mkF m 40 #[.val (.int sel), .val (.int raw), .unset, .val (.int ss), .unset, .unset, .unset] [(.int (raw &&& (65535 : Int32)))])) _
            refine XS.i2c X0.here hx rfl (hb hby at_40) rfl ?_
            show Steps p.tables e below (s₁.setTop (mkF m 41 #[.val (.int sel), .val (.int raw), .unset, .val (.int ss), .unset, .unset, .unset] [(.int ((raw &&& (65535 : Int32)).toUInt32.toUInt16.toUInt32.toInt32))])) _
            refine XS.istoreN X0.here hx rfl (hb hby at_41) rfl (l' := #[.val (.int sel), .val (.int raw), .val (.int ((raw &&& (65535 : Int32)).toUInt32.toUInt16.toUInt32.toInt32)), .val (.int ss), .unset, .unset, .unset]) rfl ?_
            exact Steps.refl _)
          exact ⟨_, c14⟩
  obtain ⟨cc, ck⟩ := key
  have c15 : Steps p.tables e below S0 (s₁.setTop (mkF m 43 #[.val (.int sel), .val (.int raw), .val (.int cc), .val (.int ss), .unset, .unset, .unset] [(.int cc)])) := ck.trans (by
    refine XS.iloadN X0.here hx rfl (hb hby at_42) rfl ?_
    exact Steps.refl _)
  by_cases h39 : cc = 39
  · rw [h39] at c15
    obtain ⟨_, _, ⟨T16, L16, k16, n16⟩, -, X16, ⟨Lc16, hQ16, l16, y16, z16⟩, st16⟩ := Jvm.LawKit.callS X0 hx (y := (⟨"com/example/coersa/coersa/Quote", "openedBy", "(C)Lcom/example/coersa/coersa/Quote;"⟩ : MethodName)) hown (mvT hZ (hw _ (List.mem_of_getElem? (i := 0) rfl))) (mvT hZ (hw _ (List.mem_of_getElem? (i := 1) rfl))) (mvT hZ (hw _ (List.mem_of_getElem? (i := 2) rfl))) (mvT hZ (hw _ (List.mem_of_getElem? (i := 3) rfl))) (by decide) (backOf (W := 0) (own_opn39 l Z a0 hw [] 39 qS h0 n0 Z0 S_qS O rfl) hZ (hw _ (List.mem_of_getElem? (i := 3) rfl)) (hw _ (List.mem_of_getElem? (i := 2) rfl)) (by decide) (by decide)) (g := (mkF m 43 #[.val (.int sel), .val (.int raw), .val (.int (39 : Int32)), .val (.int ss), .unset, .unset, .unset] [(.int (39 : Int32))])) rfl (by rw [hml]; rfl) (argsL := [(.int (39 : Int32))]) (rest := []) (lenOf own_pd15 rfl) rfl (by show 2 * 0 + _ ≤ _; exact Nat.le_of_eq rfl) (hb hby at_43) (fun _ _ => ⟨rfl, e0, (Nat.le_of_ble_eq_true rfl), (Nat.le_of_ble_eq_true rfl)⟩)
    dsimp only [Pt.U, Pt.locs, Pt.cells, Pt.slots] at X16 l16 y16 z16 st16 hQ16
    subst l16 y16 z16
    obtain ⟨rfl, N16q, eo⟩ := hQ16
    have N16 := Fr.app N0 N16q
    have c17 : Steps p.tables e below S0 (T16.setTop (mkF m 46 #[.val (.int sel), .val (.int raw), .val (.int (39 : Int32)), .val (.int ss), .unset, .unset, .unset] [(.ref qS)])) := c15.trans (by
      refine st16 _ ?_
      exact Steps.refl _)
    have c18 : Steps p.tables e below S0 (T16.setTop (mkF m 51 #[.val (.int sel), .val (.int raw), .val (.int (39 : Int32)), .val (.int ss), .val (.ref qS), .unset, .unset] [(.int (39 : Int32)), (.int (39 : Int32))])) := c17.trans (by
      refine XS.astore X16.here hx rfl (hb hby at_46) rfl rfl (l' := #[.val (.int sel), .val (.int raw), .val (.int (39 : Int32)), .val (.int ss), .val (.ref qS), .unset, .unset]) rfl ?_
      show Steps p.tables e below (T16.setTop (mkF m 48 #[.val (.int sel), .val (.int raw), .val (.int (39 : Int32)), .val (.int ss), .val (.ref qS), .unset, .unset] [])) _
      refine XS.iloadN X16.here hx rfl (hb hby at_48) rfl ?_
      show Steps p.tables e below (T16.setTop (mkF m 49 #[.val (.int sel), .val (.int raw), .val (.int (39 : Int32)), .val (.int ss), .val (.ref qS), .unset, .unset] [(.int (39 : Int32))])) _
      refine XS.bipush X16.here hx rfl (hb hby at_49) ?_
      exact Steps.refl _)
    have c19 : Steps p.tables e below S0 (T16.setTop (mkF m 66 #[.val (.int sel), .val (.int raw), .val (.int (39 : Int32)), .val (.int ss), .val (.ref qS), .unset, .unset] [])) := c18.trans (by
      refine XS.icmpYes X16.here hx rfl (pc0 := 51) (pc' := 66) rfl (hb hby at_51) rfl (teq rfl).1 (by decide) (by decide) ?_
      exact Steps.refl _)
    have c20 : Steps p.tables e below S0 (T16.setTop (mkF m 75 #[.val (.int sel), .val (.int raw), .val (.int (39 : Int32)), .val (.int ss), .val (.ref qS), .val (.int (1 : Int32)), .unset] [(.int (1 : Int32))])) := c19.trans (by
      refine XS.iconst X16.here hx rfl (hb hby at_66) ?_
      show Steps p.tables e below (T16.setTop (mkF m 67 #[.val (.int sel), .val (.int raw), .val (.int (39 : Int32)), .val (.int ss), .val (.ref qS), .unset, .unset] [(.int (1 : Int32))])) _
      refine XS.goto X16.here hx rfl (pc0 := 67) (pc' := 71) rfl (hb hby at_67) (by decide) (by decide) ?_
      show Steps p.tables e below (T16.setTop (mkF m 71 #[.val (.int sel), .val (.int raw), .val (.int (39 : Int32)), .val (.int ss), .val (.ref qS), .unset, .unset] [(.int (1 : Int32))])) _
      refine XS.istore X16.here hx rfl (hb hby at_71) rfl (l' := #[.val (.int sel), .val (.int raw), .val (.int (39 : Int32)), .val (.int ss), .val (.ref qS), .val (.int (1 : Int32)), .unset]) rfl ?_
      show Steps p.tables e below (T16.setTop (mkF m 73 #[.val (.int sel), .val (.int raw), .val (.int (39 : Int32)), .val (.int ss), .val (.ref qS), .val (.int (1 : Int32)), .unset] [])) _
      refine XS.iload X16.here hx rfl (hb hby at_73) rfl ?_
      exact Steps.refl _)
    have c21 : Steps p.tables e below S0 (T16.setTop (mkF m 89 #[.val (.int sel), .val (.int raw), .val (.int (39 : Int32)), .val (.int ss), .val (.ref qS), .val (.int (1 : Int32)), .unset] [])) := c20.trans (by
      refine XS.ifYes X16.here hx rfl (pc0 := 75) (pc' := 89) rfl (hb hby at_75) rfl ((if0 _ _).trans (feq (by decide)).2) (by decide) (by decide) ?_
      exact Steps.refl _)
    have c22 : Steps p.tables e below S0 (T16.setTop (mkF m 91 #[.val (.int sel), .val (.int raw), .val (.int (39 : Int32)), .val (.int ss), .val (.ref qS), .val (.int (1 : Int32)), .unset] [(.ref qS)])) := c21.trans (by
      refine XS.aload X16.here hx rfl (hb hby at_89) rfl rfl ?_
      exact Steps.refl _)
    have c23 : Steps p.tables e below S0 (T16.setTop (mkF m 96 #[.val (.int sel), .val (.int raw), .val (.int (39 : Int32)), .val (.int ss), .val (.ref qS), .val (.int (1 : Int32)), .unset] [])) := c22.trans (by
      refine XS.ifnonnullYes X16.here hx rfl (pc0 := 91) (pc' := 96) rfl (hb hby at_91) rfl (by decide) (by decide) ?_
      exact Steps.refl _)
    have c24 : Steps p.tables e below S0 (T16.setTop (mkF m 98 #[.val (.int sel), .val (.int raw), .val (.int (39 : Int32)), .val (.int ss), .val (.ref qS), .val (.int (1 : Int32)), .unset] [(.ref qS)])) := c23.trans (by
      refine XS.aload X16.here hx rfl (hb hby at_96) rfl rfl ?_
      exact Steps.refl _)
    have Xs : Stand p l e room_1 (s.setVm s.vm) m #[(.int sel), (.int raw)] below meth c T16 _ 0 0 := X16
    obtain ⟨t, T25, h25, k1, b0, k0, X25, e25, E25, hS1, hk1, hZ, hown, Te, Tc, Tv, Ta, -, -, -, st25⟩ := ldcSV (Z := Z) Xs hx hZ hown (hw _ (List.mem_of_getElem? (i := 6) rfl)) (fun d hd => by
          simp only [Bundle.stringAtoms, Bundle.sN, List.mem_cons, List.not_mem_nil, or_false] at hd
          rcases hd with rfl | rfl | rfl | rfl | rfl | rfl | rfl
          · exact (hw _ (List.mem_of_getElem? (i := 7) rfl))
          · exact (hw _ (List.mem_of_getElem? (i := 8) rfl))
          · exact (hw _ (List.mem_of_getElem? (i := 9) rfl))
          · exact (hw _ (List.mem_of_getElem? (i := 10) rfl))
          · exact (hw _ (List.mem_of_getElem? (i := 11) rfl))
          · exact (hw _ (List.mem_of_getElem? (i := 12) rfl))
          · exact (hw _ (List.mem_of_getElem? (i := 13) rfl))) eo ((State.WarmedH.refl s).since n0) Z0 (by rw [← hn0]; exact N16) (fun b cl q => by rw [← hsZ]; exact q) (by rw [hsZ]; exact IB.start) (by simp) hheld hcw (vs := []) (z := 0) ⟨by decide, rfl⟩ (by decide) rfl (g := (mkF m 98 #[.val (.int sel), .val (.int raw), .val (.int (39 : Int32)), .val (.int ss), .val (.ref qS), .val (.int (1 : Int32)), .unset] [(.ref qS)])) rfl (hb hby at_98) (n := 0) (by decide) (by decide) (by decide) (by decide)
    have c26 : Steps p.tables e below S0 (T25.setTop (mkF m 100 #[.val (.int sel), .val (.int raw), .val (.int (39 : Int32)), .val (.int ss), .val (.ref qS), .val (.int (1 : Int32)), .unset] [(.ref t), (.ref qS)])) := c24.trans (by
      refine st25 _ ?_
      exact Steps.refl _)
    have f25_Ex := E_qS.ext E25
    have f25_Mx := M_qS.ext E25
    have K25 := K0.ext E25
    have O25 := O.ext E25
    obtain ⟨cq27, kq27, q27a, q27b, q27c⟩ := isOf hZ e25 f25_Ex
    obtain ⟨_, _, ⟨T27, L27, k27, n27⟩, -, X27, ⟨Lc27, hQ27, l27, y27, z27⟩, st27⟩ := X25.virtualBack hx (y := (⟨"com/example/coersa/coersa/Quote", "enclose", "(Ljava/lang/String;)Ljava/lang/String;"⟩ : MethodName)) (z := (⟨"com/example/coersa/coersa/Quote", "enclose", "(Ljava/lang/String;)Ljava/lang/String;"⟩ : MethodName)) hown (mvT hZ (hw _ (List.mem_of_getElem? (i := 14) rfl))) (mvT hZ (hw _ (List.mem_of_getElem? (i := 15) rfl))) (notFace_of_selects (args := #[]) (mvT hZ (hw _ (List.mem_of_getElem? (i := 17) rfl)))) (mvT hZ (hw _ (List.mem_of_getElem? (i := 17) rfl))) (mvT hZ (hw _ (List.mem_of_getElem? (i := 16) rfl))) (by decide) (backOf (W := 0) (own_enc l Z a0 hw [] qS t 39 cs b0 k0 h25 n0 (Nat.le_trans Z0 K25.1) SC hcs O25 Te Tc Tv Ta f25_Mx (by unfold own_ch; decide)) hZ (hw _ (List.mem_of_getElem? (i := 18) rfl)) (hw _ (List.mem_of_getElem? (i := 2) rfl)) (by decide) (by decide)) q27a q27c (g := (mkF m 100 #[.val (.int sel), .val (.int raw), .val (.int (39 : Int32)), .val (.int ss), .val (.ref qS), .val (.int (1 : Int32)), .unset] [(.ref t), (.ref qS)])) rfl (by rw [hml]; rfl) (Steps.refl _) (argsL := [(.ref t)]) (rest := []) (lenOf own_pd16 rfl) rfl (by show 2 * 0 + _ ≤ _; exact Nat.le_of_eq rfl) (hb hby at_100) (fun _ _ => ⟨rfl, e25, (Nat.le_of_ble_eq_true rfl), (Nat.le_of_ble_eq_true rfl)⟩)
    dsimp only [Pt.U, Pt.locs, Pt.cells, Pt.slots] at X27 l27 y27 z27 st27 hQ27
    subst l27 y27 z27
    obtain ⟨r, rfl, N27q, Kr, d, k, Re, Rv, Rc, Ra⟩ := hQ27
    have N27 := Fr.app N16 N27q
    have c28 : Steps p.tables e below S0 (T27.setTop (mkF m 103 #[.val (.int sel), .val (.int raw), .val (.int (39 : Int32)), .val (.int ss), .val (.ref qS), .val (.int (1 : Int32)), .unset] [(.ref r)])) := c26.trans (by
      refine st27.trans ?_
      exact Steps.refl _)
    have hk2 : k1 ≤ T27.heap.size := Nat.le_trans hk1 Kr.1
    have f27_Ex := f25_Ex.keep Kr
    have f27_Mx := f25_Mx.keep Kr nin0
    have f27_Te := Te.keep Kr
    have f27_Tc := Tc.keep Kr nin0
    have f27_Tv := Tv.keep Kr nin0
    have f27_Ta := Ta.keep Kr nin0
    have K27 := K25.trans Kr all0
    have O27 := O25.keep Kr all0
    have c29 : Steps p.tables e below S0 (T27.setTop (mkF m 107 #[.val (.int sel), .val (.int raw), .val (.int (39 : Int32)), .val (.int ss), .val (.ref qS), .val (.int (1 : Int32)), .val (.ref r)] [(.ref r)])) := c28.trans (by
      refine XS.astore X27.here hx rfl (hb hby at_103) rfl rfl (l' := #[.val (.int sel), .val (.int raw), .val (.int (39 : Int32)), .val (.int ss), .val (.ref qS), .val (.int (1 : Int32)), .val (.ref r)]) rfl ?_
      show Steps p.tables e below (T27.setTop (mkF m 105 #[.val (.int sel), .val (.int raw), .val (.int (39 : Int32)), .val (.int ss), .val (.ref qS), .val (.int (1 : Int32)), .val (.ref r)] [])) _
      refine XS.aload X27.here hx rfl (hb hby at_105) rfl rfl ?_
      exact Steps.refl _)
    obtain ⟨cq30, kq30, q30a, q30b, q30c⟩ := isOf hZ rfl Re
    obtain ⟨_, _, ⟨T30, L30, k30, n30⟩, -, X30, ⟨Lc30, hQ30, l30, y30, z30⟩, st30⟩ := X27.virtualBack hx (y := (⟨"java/lang/String", "length", "()I"⟩ : MethodName)) (z := (⟨"java/lang/String", "length", "()I"⟩ : MethodName)) hown (mvT hZ (hw _ (List.mem_of_getElem? (i := 121) rfl))) (mvT hZ (hw _ (List.mem_of_getElem? (i := 23) rfl))) (notFace_of_selects (args := #[]) (mvT hZ (hw _ (List.mem_of_getElem? (i := 25) rfl)))) (mvT hZ (hw _ (List.mem_of_getElem? (i := 25) rfl))) (mvT hZ (hw _ (List.mem_of_getElem? (i := 24) rfl))) (by decide) (backOf (W := 0) (own_len l Z a0 hw [] r cs d k 2 _ T27.heap n0 (Nat.le_trans Z0 K27.1) SC hcs O27 Re Rc Rv Ra) hZ (hw _ (List.mem_of_getElem? (i := 26) rfl)) (hw _ (List.mem_of_getElem? (i := 7) rfl)) (by decide) (by decide)) q30a q30c (g := (mkF m 107 #[.val (.int sel), .val (.int raw), .val (.int (39 : Int32)), .val (.int ss), .val (.ref qS), .val (.int (1 : Int32)), .val (.ref r)] [(.ref r)])) rfl (by rw [hml]; rfl) (Steps.refl _) (argsL := []) (rest := []) (lenOf own_pd8 rfl) rfl (by show 2 * 0 + _ ≤ _; exact Nat.le_of_eq rfl) (hb hby at_107) (fun _ _ => ⟨rfl, rfl, (Nat.le_of_ble_eq_true rfl), (Nat.le_of_ble_eq_true rfl)⟩)
    dsimp only [Pt.U, Pt.locs, Pt.cells, Pt.slots] at X30 l30 y30 z30 st30 hQ30
    subst l30 y30 z30
    obtain ⟨rfl, N30q, el⟩ := hQ30
    have N30 := Fr.app N27 N30q
    have c31 : Steps p.tables e below S0 (T30.setTop (mkF m 110 #[.val (.int sel), .val (.int raw), .val (.int (39 : Int32)), .val (.int ss), .val (.ref qS), .val (.int (1 : Int32)), .val (.ref r)] [(.int (2 : Int32))])) := c29.trans (by
      refine st30.trans ?_
      exact Steps.refl _)
    have c32 : Steps p.tables e below S0 (T30.setTop (mkF m 111 #[.val (.int sel), .val (.int raw), .val (.int (39 : Int32)), .val (.int ss), .val (.ref qS), .val (.int (1 : Int32)), .val (.ref r)] [(.int (2 : Int32)), (.int (2 : Int32))])) := c31.trans (by
      refine XS.iconst X30.here hx rfl (hb hby at_110) ?_
      exact Steps.refl _)
    have c33 : Steps p.tables e below S0 (T30.setTop (mkF m 114 #[.val (.int sel), .val (.int raw), .val (.int (39 : Int32)), .val (.int ss), .val (.ref qS), .val (.int (1 : Int32)), .val (.ref r)] [])) := c32.trans (by
      refine XS.icmpNo X30.here hx rfl (hb hby at_111) rfl (teq rfl).2 ?_
      exact Steps.refl _)
    have c34 : Steps p.tables e below S0 (T30.setTop (mkF m 117 #[.val (.int sel), .val (.int raw), .val (.int (39 : Int32)), .val (.int ss), .val (.ref qS), .val (.int (1 : Int32)), .val (.ref r)] [(.int (0 : Int32)), (.ref r)])) := c33.trans (by
      refine XS.aload X30.here hx rfl (hb hby at_114) rfl rfl ?_
      show Steps p.tables e below (T30.setTop (mkF m 116 #[.val (.int sel), .val (.int raw), .val (.int (39 : Int32)), .val (.int ss), .val (.ref qS), .val (.int (1 : Int32)), .val (.ref r)] [(.ref r)])) _
      refine XS.iconst X30.here hx rfl (hb hby at_116) ?_
      exact Steps.refl _)
    obtain ⟨cq35, kq35, q35a, q35b, q35c⟩ := isOf hZ el Re
    obtain ⟨_, _, ⟨T35, L35, k35, n35⟩, -, X35, ⟨Lc35, hQ35, l35, y35, z35⟩, st35⟩ := X30.virtualBack hx (y := (⟨"java/lang/String", "charAt", "(I)C"⟩ : MethodName)) (z := (⟨"java/lang/String", "charAt", "(I)C"⟩ : MethodName)) hown (mvT hZ (hw _ (List.mem_of_getElem? (i := 122) rfl))) (mvT hZ (hw _ (List.mem_of_getElem? (i := 123) rfl))) (notFace_of_selects (args := #[]) (mvT hZ (hw _ (List.mem_of_getElem? (i := 125) rfl)))) (mvT hZ (hw _ (List.mem_of_getElem? (i := 125) rfl))) (mvT hZ (hw _ (List.mem_of_getElem? (i := 124) rfl))) (by decide) (backOf (W := 0) (own_cha l Z a0 hw [] r 0 cs f d k 2 _ 39 39 T27.heap n0 (Nat.le_trans Z0 K27.1) SC hcs O27 SF hgv Re Rc Rv Ra (by decide) (by decide) rfl (by decide) (by decide)) hZ (hw _ (List.mem_of_getElem? (i := 126) rfl)) (hw _ (List.mem_of_getElem? (i := 7) rfl)) (by decide) (by decide)) q35a q35c (g := (mkF m 117 #[.val (.int sel), .val (.int raw), .val (.int (39 : Int32)), .val (.int ss), .val (.ref qS), .val (.int (1 : Int32)), .val (.ref r)] [(.int (0 : Int32)), (.ref r)])) rfl (by rw [hml]; rfl) (Steps.refl _) (argsL := [(.int (0 : Int32))]) (rest := []) (lenOf own_pd17 rfl) rfl (by show 2 * 0 + _ ≤ _; exact Nat.le_of_eq rfl) (hb hby at_117) (fun _ _ => ⟨rfl, el, (Nat.le_of_ble_eq_true rfl), (Nat.le_of_ble_eq_true rfl)⟩)
    dsimp only [Pt.U, Pt.locs, Pt.cells, Pt.slots] at X35 l35 y35 z35 st35 hQ35
    subst l35 y35 z35
    obtain ⟨rfl, N35q, ei0⟩ := hQ35
    have N35 := Fr.app N30 N35q
    have c36 : Steps p.tables e below S0 (T35.setTop (mkF m 120 #[.val (.int sel), .val (.int raw), .val (.int (39 : Int32)), .val (.int ss), .val (.ref qS), .val (.int (1 : Int32)), .val (.ref r)] [(.int (39 : Int32))])) := c34.trans (by
      refine st35.trans ?_
      exact Steps.refl _)
    have c37 : Steps p.tables e below S0 (T35.setTop (mkF m 121 #[.val (.int sel), .val (.int raw), .val (.int (39 : Int32)), .val (.int ss), .val (.ref qS), .val (.int (1 : Int32)), .val (.ref r)] [(.int (39 : Int32)), (.int (39 : Int32))])) := c36.trans (by
      refine XS.iloadN X35.here hx rfl (hb hby at_120) rfl ?_
      exact Steps.refl _)
    have c38 : Steps p.tables e below S0 (T35.setTop (mkF m 124 #[.val (.int sel), .val (.int raw), .val (.int (39 : Int32)), .val (.int ss), .val (.ref qS), .val (.int (1 : Int32)), .val (.ref r)] [])) := c37.trans (by
      refine XS.icmpNo X35.here hx rfl (hb hby at_121) rfl (teq rfl).2 ?_
      exact Steps.refl _)
    have c39 : Steps p.tables e below S0 (T35.setTop (mkF m 127 #[.val (.int sel), .val (.int raw), .val (.int (39 : Int32)), .val (.int ss), .val (.ref qS), .val (.int (1 : Int32)), .val (.ref r)] [(.int (1 : Int32)), (.ref r)])) := c38.trans (by
      refine XS.aload X35.here hx rfl (hb hby at_124) rfl rfl ?_
      show Steps p.tables e below (T35.setTop (mkF m 126 #[.val (.int sel), .val (.int raw), .val (.int (39 : Int32)), .val (.int ss), .val (.ref qS), .val (.int (1 : Int32)), .val (.ref r)] [(.ref r)])) _
      refine XS.iconst X35.here hx rfl (hb hby at_126) ?_
      exact Steps.refl _)
    obtain ⟨cq40, kq40, q40a, q40b, q40c⟩ := isOf hZ ei0 Re
    obtain ⟨_, _, ⟨T40, L40, k40, n40⟩, -, X40, ⟨Lc40, hQ40, l40, y40, z40⟩, st40⟩ := X35.virtualBack hx (y := (⟨"java/lang/String", "charAt", "(I)C"⟩ : MethodName)) (z := (⟨"java/lang/String", "charAt", "(I)C"⟩ : MethodName)) hown (mvT hZ (hw _ (List.mem_of_getElem? (i := 122) rfl))) (mvT hZ (hw _ (List.mem_of_getElem? (i := 123) rfl))) (notFace_of_selects (args := #[]) (mvT hZ (hw _ (List.mem_of_getElem? (i := 125) rfl)))) (mvT hZ (hw _ (List.mem_of_getElem? (i := 125) rfl))) (mvT hZ (hw _ (List.mem_of_getElem? (i := 124) rfl))) (by decide) (backOf (W := 0) (own_cha l Z a0 hw [] r 1 cs f d k 2 _ 39 39 T27.heap n0 (Nat.le_trans Z0 K27.1) SC hcs O27 SF hgv Re Rc Rv Ra (by decide) (by decide) rfl (by decide) (by decide)) hZ (hw _ (List.mem_of_getElem? (i := 126) rfl)) (hw _ (List.mem_of_getElem? (i := 7) rfl)) (by decide) (by decide)) q40a q40c (g := (mkF m 127 #[.val (.int sel), .val (.int raw), .val (.int (39 : Int32)), .val (.int ss), .val (.ref qS), .val (.int (1 : Int32)), .val (.ref r)] [(.int (1 : Int32)), (.ref r)])) rfl (by rw [hml]; rfl) (Steps.refl _) (argsL := [(.int (1 : Int32))]) (rest := []) (lenOf own_pd17 rfl) rfl (by show 2 * 0 + _ ≤ _; exact Nat.le_of_eq rfl) (hb hby at_127) (fun _ _ => ⟨rfl, ei0, (Nat.le_of_ble_eq_true rfl), (Nat.le_of_ble_eq_true rfl)⟩)
    dsimp only [Pt.U, Pt.locs, Pt.cells, Pt.slots] at X40 l40 y40 z40 st40 hQ40
    subst l40 y40 z40
    obtain ⟨rfl, N40q, ei1⟩ := hQ40
    have N40 := Fr.app N35 N40q
    have c41 : Steps p.tables e below S0 (T40.setTop (mkF m 130 #[.val (.int sel), .val (.int raw), .val (.int (39 : Int32)), .val (.int ss), .val (.ref qS), .val (.int (1 : Int32)), .val (.ref r)] [(.int (39 : Int32))])) := c39.trans (by
      refine st40.trans ?_
      exact Steps.refl _)
    have c42 : Steps p.tables e below S0 (T40.setTop (mkF m 131 #[.val (.int sel), .val (.int raw), .val (.int (39 : Int32)), .val (.int ss), .val (.ref qS), .val (.int (1 : Int32)), .val (.ref r)] [(.int (39 : Int32)), (.int (39 : Int32))])) := c41.trans (by
      refine XS.iloadN X40.here hx rfl (hb hby at_130) rfl ?_
      exact Steps.refl _)
    have c43 : Steps p.tables e below S0 (T40.setTop (mkF m 134 #[.val (.int sel), .val (.int raw), .val (.int (39 : Int32)), .val (.int ss), .val (.ref qS), .val (.int (1 : Int32)), .val (.ref r)] [])) := c42.trans (by
      refine XS.icmpNo X40.here hx rfl (hb hby at_131) rfl (teq rfl).2 ?_
      exact Steps.refl _)
    have c44 : Steps p.tables e below S0 (T40.setTop (mkF m 136 #[.val (.int sel), .val (.int raw), .val (.int (39 : Int32)), .val (.int ss), .val (.ref qS), .val (.int (1 : Int32)), .val (.ref r)] [(.ref qS)])) := c43.trans (by
      refine XS.aload X40.here hx rfl (hb hby at_134) rfl rfl ?_
      exact Steps.refl _)
    obtain ⟨cq45, kq45, q45a, q45b, q45c⟩ := isOf hZ ei1 f27_Ex
    obtain ⟨_, _, ⟨T45, L45, k45, n45⟩, -, X45, ⟨Lc45, hQ45, l45, y45, z45⟩, st45⟩ := X40.virtualBack hx (y := (⟨"com/example/coersa/coersa/Quote", "isName", "()Z"⟩ : MethodName)) (z := (⟨"com/example/coersa/coersa/Quote", "isName", "()Z"⟩ : MethodName)) hown (mvT hZ (hw _ (List.mem_of_getElem? (i := 143) rfl))) (mvT hZ (hw _ (List.mem_of_getElem? (i := 144) rfl))) (notFace_of_selects (args := #[]) (mvT hZ (hw _ (List.mem_of_getElem? (i := 146) rfl)))) (mvT hZ (hw _ (List.mem_of_getElem? (i := 146) rfl))) (mvT hZ (hw _ (List.mem_of_getElem? (i := 145) rfl))) (by decide) (backOf (W := 0) (own_isn0 l Z a0 hw [] qS qB T27.heap n0 (Nat.le_trans Z0 K27.1) S_qB O27 hSB) hZ (hw _ (List.mem_of_getElem? (i := 147) rfl)) (hw _ (List.mem_of_getElem? (i := 2) rfl)) (by decide) (by decide)) q45a q45c (g := (mkF m 136 #[.val (.int sel), .val (.int raw), .val (.int (39 : Int32)), .val (.int ss), .val (.ref qS), .val (.int (1 : Int32)), .val (.ref r)] [(.ref qS)])) rfl (by rw [hml]; rfl) (Steps.refl _) (argsL := []) (rest := []) (lenOf own_pd3 rfl) rfl (by show 2 * 0 + _ ≤ _; exact Nat.le_of_eq rfl) (hb hby at_136) (fun _ _ => ⟨rfl, ei1, (Nat.le_of_ble_eq_true rfl), (Nat.le_of_ble_eq_true rfl)⟩)
    dsimp only [Pt.U, Pt.locs, Pt.cells, Pt.slots] at X45 l45 y45 z45 st45 hQ45
    subst l45 y45 z45
    obtain ⟨rfl, N45q, en⟩ := hQ45
    have N45 := Fr.app N40 N45q
    have c46 : Steps p.tables e below S0 (T45.setTop (mkF m 139 #[.val (.int sel), .val (.int raw), .val (.int (39 : Int32)), .val (.int ss), .val (.ref qS), .val (.int (1 : Int32)), .val (.ref r)] [(.int (0 : Int32))])) := c44.trans (by
      refine st45.trans ?_
      exact Steps.refl _)
    have c47 : Steps p.tables e below S0 (T45.setTop (mkF m 142 #[.val (.int sel), .val (.int raw), .val (.int (39 : Int32)), .val (.int ss), .val (.ref qS), .val (.int (1 : Int32)), .val (.ref r)] [(.int (96 : Int32)), (.int (39 : Int32)), (.int (0 : Int32))])) := c46.trans (by
      refine XS.iloadN X45.here hx rfl (hb hby at_139) rfl ?_
      show Steps p.tables e below (T45.setTop (mkF m 140 #[.val (.int sel), .val (.int raw), .val (.int (39 : Int32)), .val (.int ss), .val (.ref qS), .val (.int (1 : Int32)), .val (.ref r)] [(.int (39 : Int32)), (.int (0 : Int32))])) _
      refine XS.bipush X45.here hx rfl (hb hby at_140) ?_
      exact Steps.refl _)
    have c48 : Steps p.tables e below S0 (T45.setTop (mkF m 149 #[.val (.int sel), .val (.int raw), .val (.int (39 : Int32)), .val (.int ss), .val (.ref qS), .val (.int (1 : Int32)), .val (.ref r)] [(.int (0 : Int32))])) := c47.trans (by
      refine XS.icmpYes X45.here hx rfl (pc0 := 142) (pc' := 149) rfl (hb hby at_142) rfl (feq (by decide)).2 (by decide) (by decide) ?_
      exact Steps.refl _)
    have c49 : Steps p.tables e below S0 (T45.setTop (mkF m 150 #[.val (.int sel), .val (.int raw), .val (.int (39 : Int32)), .val (.int ss), .val (.ref qS), .val (.int (1 : Int32)), .val (.ref r)] [(.int (0 : Int32)), (.int (0 : Int32))])) := c48.trans (by
      refine XS.iconst X45.here hx rfl (hb hby at_149) ?_
      exact Steps.refl _)
    have c50 : Steps p.tables e below S0 (T45.setTop (mkF m 153 #[.val (.int sel), .val (.int raw), .val (.int (39 : Int32)), .val (.int ss), .val (.ref qS), .val (.int (1 : Int32)), .val (.ref r)] [])) := c49.trans (by
      refine XS.icmpNo X45.here hx rfl (hb hby at_150) rfl (teq rfl).2 ?_
      exact Steps.refl _)
    have c51 : Steps p.tables e below S0 (T45.setTop (mkF m 158 #[.val (.int sel), .val (.int raw), .val (.int (39 : Int32)), .val (.int ss), .val (.ref qS), .val (.int (1 : Int32)), .val (.ref r)] [(.int (1 : Int32))])) := c50.trans (by
      refine XS.iconst X45.here hx rfl (hb hby at_153) ?_
      show Steps p.tables e below (T45.setTop (mkF m 154 #[.val (.int sel), .val (.int raw), .val (.int (39 : Int32)), .val (.int ss), .val (.ref qS), .val (.int (1 : Int32)), .val (.ref r)] [(.int (1 : Int32))])) _
      refine XS.goto X45.here hx rfl (pc0 := 154) (pc' := 158) rfl (hb hby at_154) (by decide) (by decide) ?_
      exact Steps.refl _)
    have hk3 : k1 ≤ T45.heap.size := by rw [en]; exact hk2
    obtain ⟨fs, hr, hrun, hended, hW⟩ := X45.leaveW (v := some (.int (1 : Int32))) hS1 hk3 (fun h => by rw [Bd.returns] at h; cases h)
    exact ⟨_, _, c51.trans (retN X45 hx (t := .boolean) Bd.returns (by simp) (hb hby at_158) hr), hrun, hended, _, _, rfl, ⟨rfl, hn0 ▸ N45⟩, hW.1, hW.2.1, hW.2.2.1, hW.2.2.2.mono (by decide) (by decide)⟩
  · by_cases h34 : cc = 34
    · rw [h34] at c15
      obtain ⟨_, _, ⟨T52, L52, k52, n52⟩, -, X52, ⟨Lc52, hQ52, l52, y52, z52⟩, st52⟩ := Jvm.LawKit.callS X0 hx (y := (⟨"com/example/coersa/coersa/Quote", "openedBy", "(C)Lcom/example/coersa/coersa/Quote;"⟩ : MethodName)) hown (mvT hZ (hw _ (List.mem_of_getElem? (i := 0) rfl))) (mvT hZ (hw _ (List.mem_of_getElem? (i := 1) rfl))) (mvT hZ (hw _ (List.mem_of_getElem? (i := 2) rfl))) (mvT hZ (hw _ (List.mem_of_getElem? (i := 3) rfl))) (by decide) (backOf (W := 0) (own_opn34 l Z a0 hw [] 34 qD h0 n0 Z0 S_qD O rfl) hZ (hw _ (List.mem_of_getElem? (i := 3) rfl)) (hw _ (List.mem_of_getElem? (i := 2) rfl)) (by decide) (by decide)) (g := (mkF m 43 #[.val (.int sel), .val (.int raw), .val (.int (34 : Int32)), .val (.int ss), .unset, .unset, .unset] [(.int (34 : Int32))])) rfl (by rw [hml]; rfl) (argsL := [(.int (34 : Int32))]) (rest := []) (lenOf own_pd15 rfl) rfl (by show 2 * 0 + _ ≤ _; exact Nat.le_of_eq rfl) (hb hby at_43) (fun _ _ => ⟨rfl, e0, (Nat.le_of_ble_eq_true rfl), (Nat.le_of_ble_eq_true rfl)⟩)
      dsimp only [Pt.U, Pt.locs, Pt.cells, Pt.slots] at X52 l52 y52 z52 st52 hQ52
      subst l52 y52 z52
      obtain ⟨rfl, N52q, eo⟩ := hQ52
      have N52 := Fr.app N0 N52q
      have c53 : Steps p.tables e below S0 (T52.setTop (mkF m 46 #[.val (.int sel), .val (.int raw), .val (.int (34 : Int32)), .val (.int ss), .unset, .unset, .unset] [(.ref qD)])) := c15.trans (by
        refine st52 _ ?_
        exact Steps.refl _)
      have c54 : Steps p.tables e below S0 (T52.setTop (mkF m 51 #[.val (.int sel), .val (.int raw), .val (.int (34 : Int32)), .val (.int ss), .val (.ref qD), .unset, .unset] [(.int (39 : Int32)), (.int (34 : Int32))])) := c53.trans (by
        refine XS.astore X52.here hx rfl (hb hby at_46) rfl rfl (l' := #[.val (.int sel), .val (.int raw), .val (.int (34 : Int32)), .val (.int ss), .val (.ref qD), .unset, .unset]) rfl ?_
        show Steps p.tables e below (T52.setTop (mkF m 48 #[.val (.int sel), .val (.int raw), .val (.int (34 : Int32)), .val (.int ss), .val (.ref qD), .unset, .unset] [])) _
        refine XS.iloadN X52.here hx rfl (hb hby at_48) rfl ?_
        show Steps p.tables e below (T52.setTop (mkF m 49 #[.val (.int sel), .val (.int raw), .val (.int (34 : Int32)), .val (.int ss), .val (.ref qD), .unset, .unset] [(.int (34 : Int32))])) _
        refine XS.bipush X52.here hx rfl (hb hby at_49) ?_
        exact Steps.refl _)
      have c55 : Steps p.tables e below S0 (T52.setTop (mkF m 54 #[.val (.int sel), .val (.int raw), .val (.int (34 : Int32)), .val (.int ss), .val (.ref qD), .unset, .unset] [])) := c54.trans (by
        refine XS.icmpNo X52.here hx rfl (hb hby at_51) rfl (feq (by decide)).1 ?_
        exact Steps.refl _)
      have c56 : Steps p.tables e below S0 (T52.setTop (mkF m 57 #[.val (.int sel), .val (.int raw), .val (.int (34 : Int32)), .val (.int ss), .val (.ref qD), .unset, .unset] [(.int (34 : Int32)), (.int (34 : Int32))])) := c55.trans (by
        refine XS.iloadN X52.here hx rfl (hb hby at_54) rfl ?_
        show Steps p.tables e below (T52.setTop (mkF m 55 #[.val (.int sel), .val (.int raw), .val (.int (34 : Int32)), .val (.int ss), .val (.ref qD), .unset, .unset] [(.int (34 : Int32))])) _
        refine XS.bipush X52.here hx rfl (hb hby at_55) ?_
        exact Steps.refl _)
      have c57 : Steps p.tables e below S0 (T52.setTop (mkF m 66 #[.val (.int sel), .val (.int raw), .val (.int (34 : Int32)), .val (.int ss), .val (.ref qD), .unset, .unset] [])) := c56.trans (by
        refine XS.icmpYes X52.here hx rfl (pc0 := 57) (pc' := 66) rfl (hb hby at_57) rfl (teq rfl).1 (by decide) (by decide) ?_
        exact Steps.refl _)
      have c58 : Steps p.tables e below S0 (T52.setTop (mkF m 75 #[.val (.int sel), .val (.int raw), .val (.int (34 : Int32)), .val (.int ss), .val (.ref qD), .val (.int (1 : Int32)), .unset] [(.int (1 : Int32))])) := c57.trans (by
        refine XS.iconst X52.here hx rfl (hb hby at_66) ?_
        show Steps p.tables e below (T52.setTop (mkF m 67 #[.val (.int sel), .val (.int raw), .val (.int (34 : Int32)), .val (.int ss), .val (.ref qD), .unset, .unset] [(.int (1 : Int32))])) _
        refine XS.goto X52.here hx rfl (pc0 := 67) (pc' := 71) rfl (hb hby at_67) (by decide) (by decide) ?_
        show Steps p.tables e below (T52.setTop (mkF m 71 #[.val (.int sel), .val (.int raw), .val (.int (34 : Int32)), .val (.int ss), .val (.ref qD), .unset, .unset] [(.int (1 : Int32))])) _
        refine XS.istore X52.here hx rfl (hb hby at_71) rfl (l' := #[.val (.int sel), .val (.int raw), .val (.int (34 : Int32)), .val (.int ss), .val (.ref qD), .val (.int (1 : Int32)), .unset]) rfl ?_
        show Steps p.tables e below (T52.setTop (mkF m 73 #[.val (.int sel), .val (.int raw), .val (.int (34 : Int32)), .val (.int ss), .val (.ref qD), .val (.int (1 : Int32)), .unset] [])) _
        refine XS.iload X52.here hx rfl (hb hby at_73) rfl ?_
        exact Steps.refl _)
      have c59 : Steps p.tables e below S0 (T52.setTop (mkF m 89 #[.val (.int sel), .val (.int raw), .val (.int (34 : Int32)), .val (.int ss), .val (.ref qD), .val (.int (1 : Int32)), .unset] [])) := c58.trans (by
        refine XS.ifYes X52.here hx rfl (pc0 := 75) (pc' := 89) rfl (hb hby at_75) rfl ((if0 _ _).trans (feq (by decide)).2) (by decide) (by decide) ?_
        exact Steps.refl _)
      have c60 : Steps p.tables e below S0 (T52.setTop (mkF m 91 #[.val (.int sel), .val (.int raw), .val (.int (34 : Int32)), .val (.int ss), .val (.ref qD), .val (.int (1 : Int32)), .unset] [(.ref qD)])) := c59.trans (by
        refine XS.aload X52.here hx rfl (hb hby at_89) rfl rfl ?_
        exact Steps.refl _)
      have c61 : Steps p.tables e below S0 (T52.setTop (mkF m 96 #[.val (.int sel), .val (.int raw), .val (.int (34 : Int32)), .val (.int ss), .val (.ref qD), .val (.int (1 : Int32)), .unset] [])) := c60.trans (by
        refine XS.ifnonnullYes X52.here hx rfl (pc0 := 91) (pc' := 96) rfl (hb hby at_91) rfl (by decide) (by decide) ?_
        exact Steps.refl _)
      have c62 : Steps p.tables e below S0 (T52.setTop (mkF m 98 #[.val (.int sel), .val (.int raw), .val (.int (34 : Int32)), .val (.int ss), .val (.ref qD), .val (.int (1 : Int32)), .unset] [(.ref qD)])) := c61.trans (by
        refine XS.aload X52.here hx rfl (hb hby at_96) rfl rfl ?_
        exact Steps.refl _)
      have Xs : Stand p l e room_1 (s.setVm s.vm) m #[(.int sel), (.int raw)] below meth c T52 _ 0 0 := X52
      obtain ⟨t, T63, h63, k1, b0, k0, X63, e63, E63, hS1, hk1, hZ, hown, Te, Tc, Tv, Ta, -, -, -, st63⟩ := ldcSV (Z := Z) Xs hx hZ hown (hw _ (List.mem_of_getElem? (i := 6) rfl)) (fun d hd => by
            simp only [Bundle.stringAtoms, Bundle.sN, List.mem_cons, List.not_mem_nil, or_false] at hd
            rcases hd with rfl | rfl | rfl | rfl | rfl | rfl | rfl
            · exact (hw _ (List.mem_of_getElem? (i := 7) rfl))
            · exact (hw _ (List.mem_of_getElem? (i := 8) rfl))
            · exact (hw _ (List.mem_of_getElem? (i := 9) rfl))
            · exact (hw _ (List.mem_of_getElem? (i := 10) rfl))
            · exact (hw _ (List.mem_of_getElem? (i := 11) rfl))
            · exact (hw _ (List.mem_of_getElem? (i := 12) rfl))
            · exact (hw _ (List.mem_of_getElem? (i := 13) rfl))) eo ((State.WarmedH.refl s).since n0) Z0 (by rw [← hn0]; exact N52) (fun b cl q => by rw [← hsZ]; exact q) (by rw [hsZ]; exact IB.start) (by simp) hheld hcw (vs := []) (z := 0) ⟨by decide, rfl⟩ (by decide) rfl (g := (mkF m 98 #[.val (.int sel), .val (.int raw), .val (.int (34 : Int32)), .val (.int ss), .val (.ref qD), .val (.int (1 : Int32)), .unset] [(.ref qD)])) rfl (hb hby at_98) (n := 0) (by decide) (by decide) (by decide) (by decide)
      have c64 : Steps p.tables e below S0 (T63.setTop (mkF m 100 #[.val (.int sel), .val (.int raw), .val (.int (34 : Int32)), .val (.int ss), .val (.ref qD), .val (.int (1 : Int32)), .unset] [(.ref t), (.ref qD)])) := c62.trans (by
        refine st63 _ ?_
        exact Steps.refl _)
      have f63_Ex := E_qD.ext E63
      have f63_Mx := M_qD.ext E63
      have K63 := K0.ext E63
      have O63 := O.ext E63
      obtain ⟨cq65, kq65, q65a, q65b, q65c⟩ := isOf hZ e63 f63_Ex
      obtain ⟨_, _, ⟨T65, L65, k65, n65⟩, -, X65, ⟨Lc65, hQ65, l65, y65, z65⟩, st65⟩ := X63.virtualBack hx (y := (⟨"com/example/coersa/coersa/Quote", "enclose", "(Ljava/lang/String;)Ljava/lang/String;"⟩ : MethodName)) (z := (⟨"com/example/coersa/coersa/Quote", "enclose", "(Ljava/lang/String;)Ljava/lang/String;"⟩ : MethodName)) hown (mvT hZ (hw _ (List.mem_of_getElem? (i := 14) rfl))) (mvT hZ (hw _ (List.mem_of_getElem? (i := 15) rfl))) (notFace_of_selects (args := #[]) (mvT hZ (hw _ (List.mem_of_getElem? (i := 17) rfl)))) (mvT hZ (hw _ (List.mem_of_getElem? (i := 17) rfl))) (mvT hZ (hw _ (List.mem_of_getElem? (i := 16) rfl))) (by decide) (backOf (W := 0) (own_enc l Z a0 hw [] qD t 34 cs b0 k0 h63 n0 (Nat.le_trans Z0 K63.1) SC hcs O63 Te Tc Tv Ta f63_Mx (by unfold own_ch; decide)) hZ (hw _ (List.mem_of_getElem? (i := 18) rfl)) (hw _ (List.mem_of_getElem? (i := 2) rfl)) (by decide) (by decide)) q65a q65c (g := (mkF m 100 #[.val (.int sel), .val (.int raw), .val (.int (34 : Int32)), .val (.int ss), .val (.ref qD), .val (.int (1 : Int32)), .unset] [(.ref t), (.ref qD)])) rfl (by rw [hml]; rfl) (Steps.refl _) (argsL := [(.ref t)]) (rest := []) (lenOf own_pd16 rfl) rfl (by show 2 * 0 + _ ≤ _; exact Nat.le_of_eq rfl) (hb hby at_100) (fun _ _ => ⟨rfl, e63, (Nat.le_of_ble_eq_true rfl), (Nat.le_of_ble_eq_true rfl)⟩)
      dsimp only [Pt.U, Pt.locs, Pt.cells, Pt.slots] at X65 l65 y65 z65 st65 hQ65
      subst l65 y65 z65
      obtain ⟨r, rfl, N65q, Kr, d, k, Re, Rv, Rc, Ra⟩ := hQ65
      have N65 := Fr.app N52 N65q
      have c66 : Steps p.tables e below S0 (T65.setTop (mkF m 103 #[.val (.int sel), .val (.int raw), .val (.int (34 : Int32)), .val (.int ss), .val (.ref qD), .val (.int (1 : Int32)), .unset] [(.ref r)])) := c64.trans (by
        refine st65.trans ?_
        exact Steps.refl _)
      have hk2 : k1 ≤ T65.heap.size := Nat.le_trans hk1 Kr.1
      have f65_Ex := f63_Ex.keep Kr
      have f65_Mx := f63_Mx.keep Kr nin0
      have f65_Te := Te.keep Kr
      have f65_Tc := Tc.keep Kr nin0
      have f65_Tv := Tv.keep Kr nin0
      have f65_Ta := Ta.keep Kr nin0
      have K65 := K63.trans Kr all0
      have O65 := O63.keep Kr all0
      have c67 : Steps p.tables e below S0 (T65.setTop (mkF m 107 #[.val (.int sel), .val (.int raw), .val (.int (34 : Int32)), .val (.int ss), .val (.ref qD), .val (.int (1 : Int32)), .val (.ref r)] [(.ref r)])) := c66.trans (by
        refine XS.astore X65.here hx rfl (hb hby at_103) rfl rfl (l' := #[.val (.int sel), .val (.int raw), .val (.int (34 : Int32)), .val (.int ss), .val (.ref qD), .val (.int (1 : Int32)), .val (.ref r)]) rfl ?_
        show Steps p.tables e below (T65.setTop (mkF m 105 #[.val (.int sel), .val (.int raw), .val (.int (34 : Int32)), .val (.int ss), .val (.ref qD), .val (.int (1 : Int32)), .val (.ref r)] [])) _
        refine XS.aload X65.here hx rfl (hb hby at_105) rfl rfl ?_
        exact Steps.refl _)
      obtain ⟨cq68, kq68, q68a, q68b, q68c⟩ := isOf hZ rfl Re
      obtain ⟨_, _, ⟨T68, L68, k68, n68⟩, -, X68, ⟨Lc68, hQ68, l68, y68, z68⟩, st68⟩ := X65.virtualBack hx (y := (⟨"java/lang/String", "length", "()I"⟩ : MethodName)) (z := (⟨"java/lang/String", "length", "()I"⟩ : MethodName)) hown (mvT hZ (hw _ (List.mem_of_getElem? (i := 121) rfl))) (mvT hZ (hw _ (List.mem_of_getElem? (i := 23) rfl))) (notFace_of_selects (args := #[]) (mvT hZ (hw _ (List.mem_of_getElem? (i := 25) rfl)))) (mvT hZ (hw _ (List.mem_of_getElem? (i := 25) rfl))) (mvT hZ (hw _ (List.mem_of_getElem? (i := 24) rfl))) (by decide) (backOf (W := 0) (own_len l Z a0 hw [] r cs d k 2 _ T65.heap n0 (Nat.le_trans Z0 K65.1) SC hcs O65 Re Rc Rv Ra) hZ (hw _ (List.mem_of_getElem? (i := 26) rfl)) (hw _ (List.mem_of_getElem? (i := 7) rfl)) (by decide) (by decide)) q68a q68c (g := (mkF m 107 #[.val (.int sel), .val (.int raw), .val (.int (34 : Int32)), .val (.int ss), .val (.ref qD), .val (.int (1 : Int32)), .val (.ref r)] [(.ref r)])) rfl (by rw [hml]; rfl) (Steps.refl _) (argsL := []) (rest := []) (lenOf own_pd8 rfl) rfl (by show 2 * 0 + _ ≤ _; exact Nat.le_of_eq rfl) (hb hby at_107) (fun _ _ => ⟨rfl, rfl, (Nat.le_of_ble_eq_true rfl), (Nat.le_of_ble_eq_true rfl)⟩)
      dsimp only [Pt.U, Pt.locs, Pt.cells, Pt.slots] at X68 l68 y68 z68 st68 hQ68
      subst l68 y68 z68
      obtain ⟨rfl, N68q, el⟩ := hQ68
      have N68 := Fr.app N65 N68q
      have c69 : Steps p.tables e below S0 (T68.setTop (mkF m 110 #[.val (.int sel), .val (.int raw), .val (.int (34 : Int32)), .val (.int ss), .val (.ref qD), .val (.int (1 : Int32)), .val (.ref r)] [(.int (2 : Int32))])) := c67.trans (by
        refine st68.trans ?_
        exact Steps.refl _)
      have c70 : Steps p.tables e below S0 (T68.setTop (mkF m 111 #[.val (.int sel), .val (.int raw), .val (.int (34 : Int32)), .val (.int ss), .val (.ref qD), .val (.int (1 : Int32)), .val (.ref r)] [(.int (2 : Int32)), (.int (2 : Int32))])) := c69.trans (by
        refine XS.iconst X68.here hx rfl (hb hby at_110) ?_
        exact Steps.refl _)
      have c71 : Steps p.tables e below S0 (T68.setTop (mkF m 114 #[.val (.int sel), .val (.int raw), .val (.int (34 : Int32)), .val (.int ss), .val (.ref qD), .val (.int (1 : Int32)), .val (.ref r)] [])) := c70.trans (by
        refine XS.icmpNo X68.here hx rfl (hb hby at_111) rfl (teq rfl).2 ?_
        exact Steps.refl _)
      have c72 : Steps p.tables e below S0 (T68.setTop (mkF m 117 #[.val (.int sel), .val (.int raw), .val (.int (34 : Int32)), .val (.int ss), .val (.ref qD), .val (.int (1 : Int32)), .val (.ref r)] [(.int (0 : Int32)), (.ref r)])) := c71.trans (by
        refine XS.aload X68.here hx rfl (hb hby at_114) rfl rfl ?_
        show Steps p.tables e below (T68.setTop (mkF m 116 #[.val (.int sel), .val (.int raw), .val (.int (34 : Int32)), .val (.int ss), .val (.ref qD), .val (.int (1 : Int32)), .val (.ref r)] [(.ref r)])) _
        refine XS.iconst X68.here hx rfl (hb hby at_116) ?_
        exact Steps.refl _)
      obtain ⟨cq73, kq73, q73a, q73b, q73c⟩ := isOf hZ el Re
      obtain ⟨_, _, ⟨T73, L73, k73, n73⟩, -, X73, ⟨Lc73, hQ73, l73, y73, z73⟩, st73⟩ := X68.virtualBack hx (y := (⟨"java/lang/String", "charAt", "(I)C"⟩ : MethodName)) (z := (⟨"java/lang/String", "charAt", "(I)C"⟩ : MethodName)) hown (mvT hZ (hw _ (List.mem_of_getElem? (i := 122) rfl))) (mvT hZ (hw _ (List.mem_of_getElem? (i := 123) rfl))) (notFace_of_selects (args := #[]) (mvT hZ (hw _ (List.mem_of_getElem? (i := 125) rfl)))) (mvT hZ (hw _ (List.mem_of_getElem? (i := 125) rfl))) (mvT hZ (hw _ (List.mem_of_getElem? (i := 124) rfl))) (by decide) (backOf (W := 0) (own_cha l Z a0 hw [] r 0 cs f d k 2 _ 34 34 T65.heap n0 (Nat.le_trans Z0 K65.1) SC hcs O65 SF hgv Re Rc Rv Ra (by decide) (by decide) rfl (by decide) (by decide)) hZ (hw _ (List.mem_of_getElem? (i := 126) rfl)) (hw _ (List.mem_of_getElem? (i := 7) rfl)) (by decide) (by decide)) q73a q73c (g := (mkF m 117 #[.val (.int sel), .val (.int raw), .val (.int (34 : Int32)), .val (.int ss), .val (.ref qD), .val (.int (1 : Int32)), .val (.ref r)] [(.int (0 : Int32)), (.ref r)])) rfl (by rw [hml]; rfl) (Steps.refl _) (argsL := [(.int (0 : Int32))]) (rest := []) (lenOf own_pd17 rfl) rfl (by show 2 * 0 + _ ≤ _; exact Nat.le_of_eq rfl) (hb hby at_117) (fun _ _ => ⟨rfl, el, (Nat.le_of_ble_eq_true rfl), (Nat.le_of_ble_eq_true rfl)⟩)
      dsimp only [Pt.U, Pt.locs, Pt.cells, Pt.slots] at X73 l73 y73 z73 st73 hQ73
      subst l73 y73 z73
      obtain ⟨rfl, N73q, ei0⟩ := hQ73
      have N73 := Fr.app N68 N73q
      have c74 : Steps p.tables e below S0 (T73.setTop (mkF m 120 #[.val (.int sel), .val (.int raw), .val (.int (34 : Int32)), .val (.int ss), .val (.ref qD), .val (.int (1 : Int32)), .val (.ref r)] [(.int (34 : Int32))])) := c72.trans (by
        refine st73.trans ?_
        exact Steps.refl _)
      have c75 : Steps p.tables e below S0 (T73.setTop (mkF m 121 #[.val (.int sel), .val (.int raw), .val (.int (34 : Int32)), .val (.int ss), .val (.ref qD), .val (.int (1 : Int32)), .val (.ref r)] [(.int (34 : Int32)), (.int (34 : Int32))])) := c74.trans (by
        refine XS.iloadN X73.here hx rfl (hb hby at_120) rfl ?_
        exact Steps.refl _)
      have c76 : Steps p.tables e below S0 (T73.setTop (mkF m 124 #[.val (.int sel), .val (.int raw), .val (.int (34 : Int32)), .val (.int ss), .val (.ref qD), .val (.int (1 : Int32)), .val (.ref r)] [])) := c75.trans (by
        refine XS.icmpNo X73.here hx rfl (hb hby at_121) rfl (teq rfl).2 ?_
        exact Steps.refl _)
      have c77 : Steps p.tables e below S0 (T73.setTop (mkF m 127 #[.val (.int sel), .val (.int raw), .val (.int (34 : Int32)), .val (.int ss), .val (.ref qD), .val (.int (1 : Int32)), .val (.ref r)] [(.int (1 : Int32)), (.ref r)])) := c76.trans (by
        refine XS.aload X73.here hx rfl (hb hby at_124) rfl rfl ?_
        show Steps p.tables e below (T73.setTop (mkF m 126 #[.val (.int sel), .val (.int raw), .val (.int (34 : Int32)), .val (.int ss), .val (.ref qD), .val (.int (1 : Int32)), .val (.ref r)] [(.ref r)])) _
        refine XS.iconst X73.here hx rfl (hb hby at_126) ?_
        exact Steps.refl _)
      obtain ⟨cq78, kq78, q78a, q78b, q78c⟩ := isOf hZ ei0 Re
      obtain ⟨_, _, ⟨T78, L78, k78, n78⟩, -, X78, ⟨Lc78, hQ78, l78, y78, z78⟩, st78⟩ := X73.virtualBack hx (y := (⟨"java/lang/String", "charAt", "(I)C"⟩ : MethodName)) (z := (⟨"java/lang/String", "charAt", "(I)C"⟩ : MethodName)) hown (mvT hZ (hw _ (List.mem_of_getElem? (i := 122) rfl))) (mvT hZ (hw _ (List.mem_of_getElem? (i := 123) rfl))) (notFace_of_selects (args := #[]) (mvT hZ (hw _ (List.mem_of_getElem? (i := 125) rfl)))) (mvT hZ (hw _ (List.mem_of_getElem? (i := 125) rfl))) (mvT hZ (hw _ (List.mem_of_getElem? (i := 124) rfl))) (by decide) (backOf (W := 0) (own_cha l Z a0 hw [] r 1 cs f d k 2 _ 34 34 T65.heap n0 (Nat.le_trans Z0 K65.1) SC hcs O65 SF hgv Re Rc Rv Ra (by decide) (by decide) rfl (by decide) (by decide)) hZ (hw _ (List.mem_of_getElem? (i := 126) rfl)) (hw _ (List.mem_of_getElem? (i := 7) rfl)) (by decide) (by decide)) q78a q78c (g := (mkF m 127 #[.val (.int sel), .val (.int raw), .val (.int (34 : Int32)), .val (.int ss), .val (.ref qD), .val (.int (1 : Int32)), .val (.ref r)] [(.int (1 : Int32)), (.ref r)])) rfl (by rw [hml]; rfl) (Steps.refl _) (argsL := [(.int (1 : Int32))]) (rest := []) (lenOf own_pd17 rfl) rfl (by show 2 * 0 + _ ≤ _; exact Nat.le_of_eq rfl) (hb hby at_127) (fun _ _ => ⟨rfl, ei0, (Nat.le_of_ble_eq_true rfl), (Nat.le_of_ble_eq_true rfl)⟩)
      dsimp only [Pt.U, Pt.locs, Pt.cells, Pt.slots] at X78 l78 y78 z78 st78 hQ78
      subst l78 y78 z78
      obtain ⟨rfl, N78q, ei1⟩ := hQ78
      have N78 := Fr.app N73 N78q
      have c79 : Steps p.tables e below S0 (T78.setTop (mkF m 130 #[.val (.int sel), .val (.int raw), .val (.int (34 : Int32)), .val (.int ss), .val (.ref qD), .val (.int (1 : Int32)), .val (.ref r)] [(.int (34 : Int32))])) := c77.trans (by
        refine st78.trans ?_
        exact Steps.refl _)
      have c80 : Steps p.tables e below S0 (T78.setTop (mkF m 131 #[.val (.int sel), .val (.int raw), .val (.int (34 : Int32)), .val (.int ss), .val (.ref qD), .val (.int (1 : Int32)), .val (.ref r)] [(.int (34 : Int32)), (.int (34 : Int32))])) := c79.trans (by
        refine XS.iloadN X78.here hx rfl (hb hby at_130) rfl ?_
        exact Steps.refl _)
      have c81 : Steps p.tables e below S0 (T78.setTop (mkF m 134 #[.val (.int sel), .val (.int raw), .val (.int (34 : Int32)), .val (.int ss), .val (.ref qD), .val (.int (1 : Int32)), .val (.ref r)] [])) := c80.trans (by
        refine XS.icmpNo X78.here hx rfl (hb hby at_131) rfl (teq rfl).2 ?_
        exact Steps.refl _)
      have c82 : Steps p.tables e below S0 (T78.setTop (mkF m 136 #[.val (.int sel), .val (.int raw), .val (.int (34 : Int32)), .val (.int ss), .val (.ref qD), .val (.int (1 : Int32)), .val (.ref r)] [(.ref qD)])) := c81.trans (by
        refine XS.aload X78.here hx rfl (hb hby at_134) rfl rfl ?_
        exact Steps.refl _)
      obtain ⟨cq83, kq83, q83a, q83b, q83c⟩ := isOf hZ ei1 f65_Ex
      obtain ⟨_, _, ⟨T83, L83, k83, n83⟩, -, X83, ⟨Lc83, hQ83, l83, y83, z83⟩, st83⟩ := X78.virtualBack hx (y := (⟨"com/example/coersa/coersa/Quote", "isName", "()Z"⟩ : MethodName)) (z := (⟨"com/example/coersa/coersa/Quote", "isName", "()Z"⟩ : MethodName)) hown (mvT hZ (hw _ (List.mem_of_getElem? (i := 143) rfl))) (mvT hZ (hw _ (List.mem_of_getElem? (i := 144) rfl))) (notFace_of_selects (args := #[]) (mvT hZ (hw _ (List.mem_of_getElem? (i := 146) rfl)))) (mvT hZ (hw _ (List.mem_of_getElem? (i := 146) rfl))) (mvT hZ (hw _ (List.mem_of_getElem? (i := 145) rfl))) (by decide) (backOf (W := 0) (own_isn0 l Z a0 hw [] qD qB T65.heap n0 (Nat.le_trans Z0 K65.1) S_qB O65 hDB) hZ (hw _ (List.mem_of_getElem? (i := 147) rfl)) (hw _ (List.mem_of_getElem? (i := 2) rfl)) (by decide) (by decide)) q83a q83c (g := (mkF m 136 #[.val (.int sel), .val (.int raw), .val (.int (34 : Int32)), .val (.int ss), .val (.ref qD), .val (.int (1 : Int32)), .val (.ref r)] [(.ref qD)])) rfl (by rw [hml]; rfl) (Steps.refl _) (argsL := []) (rest := []) (lenOf own_pd3 rfl) rfl (by show 2 * 0 + _ ≤ _; exact Nat.le_of_eq rfl) (hb hby at_136) (fun _ _ => ⟨rfl, ei1, (Nat.le_of_ble_eq_true rfl), (Nat.le_of_ble_eq_true rfl)⟩)
      dsimp only [Pt.U, Pt.locs, Pt.cells, Pt.slots] at X83 l83 y83 z83 st83 hQ83
      subst l83 y83 z83
      obtain ⟨rfl, N83q, en⟩ := hQ83
      have N83 := Fr.app N78 N83q
      have c84 : Steps p.tables e below S0 (T83.setTop (mkF m 139 #[.val (.int sel), .val (.int raw), .val (.int (34 : Int32)), .val (.int ss), .val (.ref qD), .val (.int (1 : Int32)), .val (.ref r)] [(.int (0 : Int32))])) := c82.trans (by
        refine st83.trans ?_
        exact Steps.refl _)
      have c85 : Steps p.tables e below S0 (T83.setTop (mkF m 142 #[.val (.int sel), .val (.int raw), .val (.int (34 : Int32)), .val (.int ss), .val (.ref qD), .val (.int (1 : Int32)), .val (.ref r)] [(.int (96 : Int32)), (.int (34 : Int32)), (.int (0 : Int32))])) := c84.trans (by
        refine XS.iloadN X83.here hx rfl (hb hby at_139) rfl ?_
        show Steps p.tables e below (T83.setTop (mkF m 140 #[.val (.int sel), .val (.int raw), .val (.int (34 : Int32)), .val (.int ss), .val (.ref qD), .val (.int (1 : Int32)), .val (.ref r)] [(.int (34 : Int32)), (.int (0 : Int32))])) _
        refine XS.bipush X83.here hx rfl (hb hby at_140) ?_
        exact Steps.refl _)
      have c86 : Steps p.tables e below S0 (T83.setTop (mkF m 149 #[.val (.int sel), .val (.int raw), .val (.int (34 : Int32)), .val (.int ss), .val (.ref qD), .val (.int (1 : Int32)), .val (.ref r)] [(.int (0 : Int32))])) := c85.trans (by
        refine XS.icmpYes X83.here hx rfl (pc0 := 142) (pc' := 149) rfl (hb hby at_142) rfl (feq (by decide)).2 (by decide) (by decide) ?_
        exact Steps.refl _)
      have c87 : Steps p.tables e below S0 (T83.setTop (mkF m 150 #[.val (.int sel), .val (.int raw), .val (.int (34 : Int32)), .val (.int ss), .val (.ref qD), .val (.int (1 : Int32)), .val (.ref r)] [(.int (0 : Int32)), (.int (0 : Int32))])) := c86.trans (by
        refine XS.iconst X83.here hx rfl (hb hby at_149) ?_
        exact Steps.refl _)
      have c88 : Steps p.tables e below S0 (T83.setTop (mkF m 153 #[.val (.int sel), .val (.int raw), .val (.int (34 : Int32)), .val (.int ss), .val (.ref qD), .val (.int (1 : Int32)), .val (.ref r)] [])) := c87.trans (by
        refine XS.icmpNo X83.here hx rfl (hb hby at_150) rfl (teq rfl).2 ?_
        exact Steps.refl _)
      have c89 : Steps p.tables e below S0 (T83.setTop (mkF m 158 #[.val (.int sel), .val (.int raw), .val (.int (34 : Int32)), .val (.int ss), .val (.ref qD), .val (.int (1 : Int32)), .val (.ref r)] [(.int (1 : Int32))])) := c88.trans (by
        refine XS.iconst X83.here hx rfl (hb hby at_153) ?_
        show Steps p.tables e below (T83.setTop (mkF m 154 #[.val (.int sel), .val (.int raw), .val (.int (34 : Int32)), .val (.int ss), .val (.ref qD), .val (.int (1 : Int32)), .val (.ref r)] [(.int (1 : Int32))])) _
        refine XS.goto X83.here hx rfl (pc0 := 154) (pc' := 158) rfl (hb hby at_154) (by decide) (by decide) ?_
        exact Steps.refl _)
      have hk3 : k1 ≤ T83.heap.size := by rw [en]; exact hk2
      obtain ⟨fs, hr, hrun, hended, hW⟩ := X83.leaveW (v := some (.int (1 : Int32))) hS1 hk3 (fun h => by rw [Bd.returns] at h; cases h)
      exact ⟨_, _, c89.trans (retN X83 hx (t := .boolean) Bd.returns (by simp) (hb hby at_158) hr), hrun, hended, _, _, rfl, ⟨rfl, hn0 ▸ N83⟩, hW.1, hW.2.1, hW.2.2.1, hW.2.2.2.mono (by decide) (by decide)⟩
    · by_cases h96 : cc = 96
      · rw [h96] at c15
        obtain ⟨_, _, ⟨T90, L90, k90, n90⟩, -, X90, ⟨Lc90, hQ90, l90, y90, z90⟩, st90⟩ := Jvm.LawKit.callS X0 hx (y := (⟨"com/example/coersa/coersa/Quote", "openedBy", "(C)Lcom/example/coersa/coersa/Quote;"⟩ : MethodName)) hown (mvT hZ (hw _ (List.mem_of_getElem? (i := 0) rfl))) (mvT hZ (hw _ (List.mem_of_getElem? (i := 1) rfl))) (mvT hZ (hw _ (List.mem_of_getElem? (i := 2) rfl))) (mvT hZ (hw _ (List.mem_of_getElem? (i := 3) rfl))) (by decide) (backOf (W := 0) (own_opn96 l Z a0 hw [] 96 qB h0 n0 Z0 S_qB O rfl) hZ (hw _ (List.mem_of_getElem? (i := 3) rfl)) (hw _ (List.mem_of_getElem? (i := 2) rfl)) (by decide) (by decide)) (g := (mkF m 43 #[.val (.int sel), .val (.int raw), .val (.int (96 : Int32)), .val (.int ss), .unset, .unset, .unset] [(.int (96 : Int32))])) rfl (by rw [hml]; rfl) (argsL := [(.int (96 : Int32))]) (rest := []) (lenOf own_pd15 rfl) rfl (by show 2 * 0 + _ ≤ _; exact Nat.le_of_eq rfl) (hb hby at_43) (fun _ _ => ⟨rfl, e0, (Nat.le_of_ble_eq_true rfl), (Nat.le_of_ble_eq_true rfl)⟩)
        dsimp only [Pt.U, Pt.locs, Pt.cells, Pt.slots] at X90 l90 y90 z90 st90 hQ90
        subst l90 y90 z90
        obtain ⟨rfl, N90q, eo⟩ := hQ90
        have N90 := Fr.app N0 N90q
        have c91 : Steps p.tables e below S0 (T90.setTop (mkF m 46 #[.val (.int sel), .val (.int raw), .val (.int (96 : Int32)), .val (.int ss), .unset, .unset, .unset] [(.ref qB)])) := c15.trans (by
          refine st90 _ ?_
          exact Steps.refl _)
        have c92 : Steps p.tables e below S0 (T90.setTop (mkF m 51 #[.val (.int sel), .val (.int raw), .val (.int (96 : Int32)), .val (.int ss), .val (.ref qB), .unset, .unset] [(.int (39 : Int32)), (.int (96 : Int32))])) := c91.trans (by
          refine XS.astore X90.here hx rfl (hb hby at_46) rfl rfl (l' := #[.val (.int sel), .val (.int raw), .val (.int (96 : Int32)), .val (.int ss), .val (.ref qB), .unset, .unset]) rfl ?_
          show Steps p.tables e below (T90.setTop (mkF m 48 #[.val (.int sel), .val (.int raw), .val (.int (96 : Int32)), .val (.int ss), .val (.ref qB), .unset, .unset] [])) _
          refine XS.iloadN X90.here hx rfl (hb hby at_48) rfl ?_
          show Steps p.tables e below (T90.setTop (mkF m 49 #[.val (.int sel), .val (.int raw), .val (.int (96 : Int32)), .val (.int ss), .val (.ref qB), .unset, .unset] [(.int (96 : Int32))])) _
          refine XS.bipush X90.here hx rfl (hb hby at_49) ?_
          exact Steps.refl _)
        have c93 : Steps p.tables e below S0 (T90.setTop (mkF m 54 #[.val (.int sel), .val (.int raw), .val (.int (96 : Int32)), .val (.int ss), .val (.ref qB), .unset, .unset] [])) := c92.trans (by
          refine XS.icmpNo X90.here hx rfl (hb hby at_51) rfl (feq (by decide)).1 ?_
          exact Steps.refl _)
        have c94 : Steps p.tables e below S0 (T90.setTop (mkF m 57 #[.val (.int sel), .val (.int raw), .val (.int (96 : Int32)), .val (.int ss), .val (.ref qB), .unset, .unset] [(.int (34 : Int32)), (.int (96 : Int32))])) := c93.trans (by
          refine XS.iloadN X90.here hx rfl (hb hby at_54) rfl ?_
          show Steps p.tables e below (T90.setTop (mkF m 55 #[.val (.int sel), .val (.int raw), .val (.int (96 : Int32)), .val (.int ss), .val (.ref qB), .unset, .unset] [(.int (96 : Int32))])) _
          refine XS.bipush X90.here hx rfl (hb hby at_55) ?_
          exact Steps.refl _)
        have c95 : Steps p.tables e below S0 (T90.setTop (mkF m 60 #[.val (.int sel), .val (.int raw), .val (.int (96 : Int32)), .val (.int ss), .val (.ref qB), .unset, .unset] [])) := c94.trans (by
          refine XS.icmpNo X90.here hx rfl (hb hby at_57) rfl (feq (by decide)).1 ?_
          exact Steps.refl _)
        have c96 : Steps p.tables e below S0 (T90.setTop (mkF m 63 #[.val (.int sel), .val (.int raw), .val (.int (96 : Int32)), .val (.int ss), .val (.ref qB), .unset, .unset] [(.int (96 : Int32)), (.int (96 : Int32))])) := c95.trans (by
          refine XS.iloadN X90.here hx rfl (hb hby at_60) rfl ?_
          show Steps p.tables e below (T90.setTop (mkF m 61 #[.val (.int sel), .val (.int raw), .val (.int (96 : Int32)), .val (.int ss), .val (.ref qB), .unset, .unset] [(.int (96 : Int32))])) _
          refine XS.bipush X90.here hx rfl (hb hby at_61) ?_
          exact Steps.refl _)
        have c97 : Steps p.tables e below S0 (T90.setTop (mkF m 66 #[.val (.int sel), .val (.int raw), .val (.int (96 : Int32)), .val (.int ss), .val (.ref qB), .unset, .unset] [])) := c96.trans (by
          refine XS.icmpNo X90.here hx rfl (hb hby at_63) rfl (teq rfl).2 ?_
          exact Steps.refl _)
        have c98 : Steps p.tables e below S0 (T90.setTop (mkF m 75 #[.val (.int sel), .val (.int raw), .val (.int (96 : Int32)), .val (.int ss), .val (.ref qB), .val (.int (1 : Int32)), .unset] [(.int (1 : Int32))])) := c97.trans (by
          refine XS.iconst X90.here hx rfl (hb hby at_66) ?_
          show Steps p.tables e below (T90.setTop (mkF m 67 #[.val (.int sel), .val (.int raw), .val (.int (96 : Int32)), .val (.int ss), .val (.ref qB), .unset, .unset] [(.int (1 : Int32))])) _
          refine XS.goto X90.here hx rfl (pc0 := 67) (pc' := 71) rfl (hb hby at_67) (by decide) (by decide) ?_
          show Steps p.tables e below (T90.setTop (mkF m 71 #[.val (.int sel), .val (.int raw), .val (.int (96 : Int32)), .val (.int ss), .val (.ref qB), .unset, .unset] [(.int (1 : Int32))])) _
          refine XS.istore X90.here hx rfl (hb hby at_71) rfl (l' := #[.val (.int sel), .val (.int raw), .val (.int (96 : Int32)), .val (.int ss), .val (.ref qB), .val (.int (1 : Int32)), .unset]) rfl ?_
          show Steps p.tables e below (T90.setTop (mkF m 73 #[.val (.int sel), .val (.int raw), .val (.int (96 : Int32)), .val (.int ss), .val (.ref qB), .val (.int (1 : Int32)), .unset] [])) _
          refine XS.iload X90.here hx rfl (hb hby at_73) rfl ?_
          exact Steps.refl _)
        have c99 : Steps p.tables e below S0 (T90.setTop (mkF m 89 #[.val (.int sel), .val (.int raw), .val (.int (96 : Int32)), .val (.int ss), .val (.ref qB), .val (.int (1 : Int32)), .unset] [])) := c98.trans (by
          refine XS.ifYes X90.here hx rfl (pc0 := 75) (pc' := 89) rfl (hb hby at_75) rfl ((if0 _ _).trans (feq (by decide)).2) (by decide) (by decide) ?_
          exact Steps.refl _)
        have c100 : Steps p.tables e below S0 (T90.setTop (mkF m 91 #[.val (.int sel), .val (.int raw), .val (.int (96 : Int32)), .val (.int ss), .val (.ref qB), .val (.int (1 : Int32)), .unset] [(.ref qB)])) := c99.trans (by
          refine XS.aload X90.here hx rfl (hb hby at_89) rfl rfl ?_
          exact Steps.refl _)
        have c101 : Steps p.tables e below S0 (T90.setTop (mkF m 96 #[.val (.int sel), .val (.int raw), .val (.int (96 : Int32)), .val (.int ss), .val (.ref qB), .val (.int (1 : Int32)), .unset] [])) := c100.trans (by
          refine XS.ifnonnullYes X90.here hx rfl (pc0 := 91) (pc' := 96) rfl (hb hby at_91) rfl (by decide) (by decide) ?_
          exact Steps.refl _)
        have c102 : Steps p.tables e below S0 (T90.setTop (mkF m 98 #[.val (.int sel), .val (.int raw), .val (.int (96 : Int32)), .val (.int ss), .val (.ref qB), .val (.int (1 : Int32)), .unset] [(.ref qB)])) := c101.trans (by
          refine XS.aload X90.here hx rfl (hb hby at_96) rfl rfl ?_
          exact Steps.refl _)
        have Xs : Stand p l e room_1 (s.setVm s.vm) m #[(.int sel), (.int raw)] below meth c T90 _ 0 0 := X90
        obtain ⟨t, T103, h103, k1, b0, k0, X103, e103, E103, hS1, hk1, hZ, hown, Te, Tc, Tv, Ta, -, -, -, st103⟩ := ldcSV (Z := Z) Xs hx hZ hown (hw _ (List.mem_of_getElem? (i := 6) rfl)) (fun d hd => by
              simp only [Bundle.stringAtoms, Bundle.sN, List.mem_cons, List.not_mem_nil, or_false] at hd
              rcases hd with rfl | rfl | rfl | rfl | rfl | rfl | rfl
              · exact (hw _ (List.mem_of_getElem? (i := 7) rfl))
              · exact (hw _ (List.mem_of_getElem? (i := 8) rfl))
              · exact (hw _ (List.mem_of_getElem? (i := 9) rfl))
              · exact (hw _ (List.mem_of_getElem? (i := 10) rfl))
              · exact (hw _ (List.mem_of_getElem? (i := 11) rfl))
              · exact (hw _ (List.mem_of_getElem? (i := 12) rfl))
              · exact (hw _ (List.mem_of_getElem? (i := 13) rfl))) eo ((State.WarmedH.refl s).since n0) Z0 (by rw [← hn0]; exact N90) (fun b cl q => by rw [← hsZ]; exact q) (by rw [hsZ]; exact IB.start) (by simp) hheld hcw (vs := []) (z := 0) ⟨by decide, rfl⟩ (by decide) rfl (g := (mkF m 98 #[.val (.int sel), .val (.int raw), .val (.int (96 : Int32)), .val (.int ss), .val (.ref qB), .val (.int (1 : Int32)), .unset] [(.ref qB)])) rfl (hb hby at_98) (n := 0) (by decide) (by decide) (by decide) (by decide)
        have c104 : Steps p.tables e below S0 (T103.setTop (mkF m 100 #[.val (.int sel), .val (.int raw), .val (.int (96 : Int32)), .val (.int ss), .val (.ref qB), .val (.int (1 : Int32)), .unset] [(.ref t), (.ref qB)])) := c102.trans (by
          refine st103 _ ?_
          exact Steps.refl _)
        have f103_Ex := E_qB.ext E103
        have f103_Mx := M_qB.ext E103
        have K103 := K0.ext E103
        have O103 := O.ext E103
        obtain ⟨cq105, kq105, q105a, q105b, q105c⟩ := isOf hZ e103 f103_Ex
        obtain ⟨_, _, ⟨T105, L105, k105, n105⟩, -, X105, ⟨Lc105, hQ105, l105, y105, z105⟩, st105⟩ := X103.virtualBack hx (y := (⟨"com/example/coersa/coersa/Quote", "enclose", "(Ljava/lang/String;)Ljava/lang/String;"⟩ : MethodName)) (z := (⟨"com/example/coersa/coersa/Quote", "enclose", "(Ljava/lang/String;)Ljava/lang/String;"⟩ : MethodName)) hown (mvT hZ (hw _ (List.mem_of_getElem? (i := 14) rfl))) (mvT hZ (hw _ (List.mem_of_getElem? (i := 15) rfl))) (notFace_of_selects (args := #[]) (mvT hZ (hw _ (List.mem_of_getElem? (i := 17) rfl)))) (mvT hZ (hw _ (List.mem_of_getElem? (i := 17) rfl))) (mvT hZ (hw _ (List.mem_of_getElem? (i := 16) rfl))) (by decide) (backOf (W := 0) (own_enc l Z a0 hw [] qB t 96 cs b0 k0 h103 n0 (Nat.le_trans Z0 K103.1) SC hcs O103 Te Tc Tv Ta f103_Mx (by unfold own_ch; decide)) hZ (hw _ (List.mem_of_getElem? (i := 18) rfl)) (hw _ (List.mem_of_getElem? (i := 2) rfl)) (by decide) (by decide)) q105a q105c (g := (mkF m 100 #[.val (.int sel), .val (.int raw), .val (.int (96 : Int32)), .val (.int ss), .val (.ref qB), .val (.int (1 : Int32)), .unset] [(.ref t), (.ref qB)])) rfl (by rw [hml]; rfl) (Steps.refl _) (argsL := [(.ref t)]) (rest := []) (lenOf own_pd16 rfl) rfl (by show 2 * 0 + _ ≤ _; exact Nat.le_of_eq rfl) (hb hby at_100) (fun _ _ => ⟨rfl, e103, (Nat.le_of_ble_eq_true rfl), (Nat.le_of_ble_eq_true rfl)⟩)
        dsimp only [Pt.U, Pt.locs, Pt.cells, Pt.slots] at X105 l105 y105 z105 st105 hQ105
        subst l105 y105 z105
        obtain ⟨r, rfl, N105q, Kr, d, k, Re, Rv, Rc, Ra⟩ := hQ105
        have N105 := Fr.app N90 N105q
        have c106 : Steps p.tables e below S0 (T105.setTop (mkF m 103 #[.val (.int sel), .val (.int raw), .val (.int (96 : Int32)), .val (.int ss), .val (.ref qB), .val (.int (1 : Int32)), .unset] [(.ref r)])) := c104.trans (by
          refine st105.trans ?_
          exact Steps.refl _)
        have hk2 : k1 ≤ T105.heap.size := Nat.le_trans hk1 Kr.1
        have f105_Ex := f103_Ex.keep Kr
        have f105_Mx := f103_Mx.keep Kr nin0
        have f105_Te := Te.keep Kr
        have f105_Tc := Tc.keep Kr nin0
        have f105_Tv := Tv.keep Kr nin0
        have f105_Ta := Ta.keep Kr nin0
        have K105 := K103.trans Kr all0
        have O105 := O103.keep Kr all0
        have c107 : Steps p.tables e below S0 (T105.setTop (mkF m 107 #[.val (.int sel), .val (.int raw), .val (.int (96 : Int32)), .val (.int ss), .val (.ref qB), .val (.int (1 : Int32)), .val (.ref r)] [(.ref r)])) := c106.trans (by
          refine XS.astore X105.here hx rfl (hb hby at_103) rfl rfl (l' := #[.val (.int sel), .val (.int raw), .val (.int (96 : Int32)), .val (.int ss), .val (.ref qB), .val (.int (1 : Int32)), .val (.ref r)]) rfl ?_
          show Steps p.tables e below (T105.setTop (mkF m 105 #[.val (.int sel), .val (.int raw), .val (.int (96 : Int32)), .val (.int ss), .val (.ref qB), .val (.int (1 : Int32)), .val (.ref r)] [])) _
          refine XS.aload X105.here hx rfl (hb hby at_105) rfl rfl ?_
          exact Steps.refl _)
        obtain ⟨cq108, kq108, q108a, q108b, q108c⟩ := isOf hZ rfl Re
        obtain ⟨_, _, ⟨T108, L108, k108, n108⟩, -, X108, ⟨Lc108, hQ108, l108, y108, z108⟩, st108⟩ := X105.virtualBack hx (y := (⟨"java/lang/String", "length", "()I"⟩ : MethodName)) (z := (⟨"java/lang/String", "length", "()I"⟩ : MethodName)) hown (mvT hZ (hw _ (List.mem_of_getElem? (i := 121) rfl))) (mvT hZ (hw _ (List.mem_of_getElem? (i := 23) rfl))) (notFace_of_selects (args := #[]) (mvT hZ (hw _ (List.mem_of_getElem? (i := 25) rfl)))) (mvT hZ (hw _ (List.mem_of_getElem? (i := 25) rfl))) (mvT hZ (hw _ (List.mem_of_getElem? (i := 24) rfl))) (by decide) (backOf (W := 0) (own_len l Z a0 hw [] r cs d k 2 _ T105.heap n0 (Nat.le_trans Z0 K105.1) SC hcs O105 Re Rc Rv Ra) hZ (hw _ (List.mem_of_getElem? (i := 26) rfl)) (hw _ (List.mem_of_getElem? (i := 7) rfl)) (by decide) (by decide)) q108a q108c (g := (mkF m 107 #[.val (.int sel), .val (.int raw), .val (.int (96 : Int32)), .val (.int ss), .val (.ref qB), .val (.int (1 : Int32)), .val (.ref r)] [(.ref r)])) rfl (by rw [hml]; rfl) (Steps.refl _) (argsL := []) (rest := []) (lenOf own_pd8 rfl) rfl (by show 2 * 0 + _ ≤ _; exact Nat.le_of_eq rfl) (hb hby at_107) (fun _ _ => ⟨rfl, rfl, (Nat.le_of_ble_eq_true rfl), (Nat.le_of_ble_eq_true rfl)⟩)
        dsimp only [Pt.U, Pt.locs, Pt.cells, Pt.slots] at X108 l108 y108 z108 st108 hQ108
        subst l108 y108 z108
        obtain ⟨rfl, N108q, el⟩ := hQ108
        have N108 := Fr.app N105 N108q
        have c109 : Steps p.tables e below S0 (T108.setTop (mkF m 110 #[.val (.int sel), .val (.int raw), .val (.int (96 : Int32)), .val (.int ss), .val (.ref qB), .val (.int (1 : Int32)), .val (.ref r)] [(.int (2 : Int32))])) := c107.trans (by
          refine st108.trans ?_
          exact Steps.refl _)
        have c110 : Steps p.tables e below S0 (T108.setTop (mkF m 111 #[.val (.int sel), .val (.int raw), .val (.int (96 : Int32)), .val (.int ss), .val (.ref qB), .val (.int (1 : Int32)), .val (.ref r)] [(.int (2 : Int32)), (.int (2 : Int32))])) := c109.trans (by
          refine XS.iconst X108.here hx rfl (hb hby at_110) ?_
          exact Steps.refl _)
        have c111 : Steps p.tables e below S0 (T108.setTop (mkF m 114 #[.val (.int sel), .val (.int raw), .val (.int (96 : Int32)), .val (.int ss), .val (.ref qB), .val (.int (1 : Int32)), .val (.ref r)] [])) := c110.trans (by
          refine XS.icmpNo X108.here hx rfl (hb hby at_111) rfl (teq rfl).2 ?_
          exact Steps.refl _)
        have c112 : Steps p.tables e below S0 (T108.setTop (mkF m 117 #[.val (.int sel), .val (.int raw), .val (.int (96 : Int32)), .val (.int ss), .val (.ref qB), .val (.int (1 : Int32)), .val (.ref r)] [(.int (0 : Int32)), (.ref r)])) := c111.trans (by
          refine XS.aload X108.here hx rfl (hb hby at_114) rfl rfl ?_
          show Steps p.tables e below (T108.setTop (mkF m 116 #[.val (.int sel), .val (.int raw), .val (.int (96 : Int32)), .val (.int ss), .val (.ref qB), .val (.int (1 : Int32)), .val (.ref r)] [(.ref r)])) _
          refine XS.iconst X108.here hx rfl (hb hby at_116) ?_
          exact Steps.refl _)
        obtain ⟨cq113, kq113, q113a, q113b, q113c⟩ := isOf hZ el Re
        obtain ⟨_, _, ⟨T113, L113, k113, n113⟩, -, X113, ⟨Lc113, hQ113, l113, y113, z113⟩, st113⟩ := X108.virtualBack hx (y := (⟨"java/lang/String", "charAt", "(I)C"⟩ : MethodName)) (z := (⟨"java/lang/String", "charAt", "(I)C"⟩ : MethodName)) hown (mvT hZ (hw _ (List.mem_of_getElem? (i := 122) rfl))) (mvT hZ (hw _ (List.mem_of_getElem? (i := 123) rfl))) (notFace_of_selects (args := #[]) (mvT hZ (hw _ (List.mem_of_getElem? (i := 125) rfl)))) (mvT hZ (hw _ (List.mem_of_getElem? (i := 125) rfl))) (mvT hZ (hw _ (List.mem_of_getElem? (i := 124) rfl))) (by decide) (backOf (W := 0) (own_cha l Z a0 hw [] r 0 cs f d k 2 _ 96 96 T105.heap n0 (Nat.le_trans Z0 K105.1) SC hcs O105 SF hgv Re Rc Rv Ra (by decide) (by decide) rfl (by decide) (by decide)) hZ (hw _ (List.mem_of_getElem? (i := 126) rfl)) (hw _ (List.mem_of_getElem? (i := 7) rfl)) (by decide) (by decide)) q113a q113c (g := (mkF m 117 #[.val (.int sel), .val (.int raw), .val (.int (96 : Int32)), .val (.int ss), .val (.ref qB), .val (.int (1 : Int32)), .val (.ref r)] [(.int (0 : Int32)), (.ref r)])) rfl (by rw [hml]; rfl) (Steps.refl _) (argsL := [(.int (0 : Int32))]) (rest := []) (lenOf own_pd17 rfl) rfl (by show 2 * 0 + _ ≤ _; exact Nat.le_of_eq rfl) (hb hby at_117) (fun _ _ => ⟨rfl, el, (Nat.le_of_ble_eq_true rfl), (Nat.le_of_ble_eq_true rfl)⟩)
        dsimp only [Pt.U, Pt.locs, Pt.cells, Pt.slots] at X113 l113 y113 z113 st113 hQ113
        subst l113 y113 z113
        obtain ⟨rfl, N113q, ei0⟩ := hQ113
        have N113 := Fr.app N108 N113q
        have c114 : Steps p.tables e below S0 (T113.setTop (mkF m 120 #[.val (.int sel), .val (.int raw), .val (.int (96 : Int32)), .val (.int ss), .val (.ref qB), .val (.int (1 : Int32)), .val (.ref r)] [(.int (96 : Int32))])) := c112.trans (by
          refine st113.trans ?_
          exact Steps.refl _)
        have c115 : Steps p.tables e below S0 (T113.setTop (mkF m 121 #[.val (.int sel), .val (.int raw), .val (.int (96 : Int32)), .val (.int ss), .val (.ref qB), .val (.int (1 : Int32)), .val (.ref r)] [(.int (96 : Int32)), (.int (96 : Int32))])) := c114.trans (by
          refine XS.iloadN X113.here hx rfl (hb hby at_120) rfl ?_
          exact Steps.refl _)
        have c116 : Steps p.tables e below S0 (T113.setTop (mkF m 124 #[.val (.int sel), .val (.int raw), .val (.int (96 : Int32)), .val (.int ss), .val (.ref qB), .val (.int (1 : Int32)), .val (.ref r)] [])) := c115.trans (by
          refine XS.icmpNo X113.here hx rfl (hb hby at_121) rfl (teq rfl).2 ?_
          exact Steps.refl _)
        have c117 : Steps p.tables e below S0 (T113.setTop (mkF m 127 #[.val (.int sel), .val (.int raw), .val (.int (96 : Int32)), .val (.int ss), .val (.ref qB), .val (.int (1 : Int32)), .val (.ref r)] [(.int (1 : Int32)), (.ref r)])) := c116.trans (by
          refine XS.aload X113.here hx rfl (hb hby at_124) rfl rfl ?_
          show Steps p.tables e below (T113.setTop (mkF m 126 #[.val (.int sel), .val (.int raw), .val (.int (96 : Int32)), .val (.int ss), .val (.ref qB), .val (.int (1 : Int32)), .val (.ref r)] [(.ref r)])) _
          refine XS.iconst X113.here hx rfl (hb hby at_126) ?_
          exact Steps.refl _)
        obtain ⟨cq118, kq118, q118a, q118b, q118c⟩ := isOf hZ ei0 Re
        obtain ⟨_, _, ⟨T118, L118, k118, n118⟩, -, X118, ⟨Lc118, hQ118, l118, y118, z118⟩, st118⟩ := X113.virtualBack hx (y := (⟨"java/lang/String", "charAt", "(I)C"⟩ : MethodName)) (z := (⟨"java/lang/String", "charAt", "(I)C"⟩ : MethodName)) hown (mvT hZ (hw _ (List.mem_of_getElem? (i := 122) rfl))) (mvT hZ (hw _ (List.mem_of_getElem? (i := 123) rfl))) (notFace_of_selects (args := #[]) (mvT hZ (hw _ (List.mem_of_getElem? (i := 125) rfl)))) (mvT hZ (hw _ (List.mem_of_getElem? (i := 125) rfl))) (mvT hZ (hw _ (List.mem_of_getElem? (i := 124) rfl))) (by decide) (backOf (W := 0) (own_cha l Z a0 hw [] r 1 cs f d k 2 _ 96 96 T105.heap n0 (Nat.le_trans Z0 K105.1) SC hcs O105 SF hgv Re Rc Rv Ra (by decide) (by decide) rfl (by decide) (by decide)) hZ (hw _ (List.mem_of_getElem? (i := 126) rfl)) (hw _ (List.mem_of_getElem? (i := 7) rfl)) (by decide) (by decide)) q118a q118c (g := (mkF m 127 #[.val (.int sel), .val (.int raw), .val (.int (96 : Int32)), .val (.int ss), .val (.ref qB), .val (.int (1 : Int32)), .val (.ref r)] [(.int (1 : Int32)), (.ref r)])) rfl (by rw [hml]; rfl) (Steps.refl _) (argsL := [(.int (1 : Int32))]) (rest := []) (lenOf own_pd17 rfl) rfl (by show 2 * 0 + _ ≤ _; exact Nat.le_of_eq rfl) (hb hby at_127) (fun _ _ => ⟨rfl, ei0, (Nat.le_of_ble_eq_true rfl), (Nat.le_of_ble_eq_true rfl)⟩)
        dsimp only [Pt.U, Pt.locs, Pt.cells, Pt.slots] at X118 l118 y118 z118 st118 hQ118
        subst l118 y118 z118
        obtain ⟨rfl, N118q, ei1⟩ := hQ118
        have N118 := Fr.app N113 N118q
        have c119 : Steps p.tables e below S0 (T118.setTop (mkF m 130 #[.val (.int sel), .val (.int raw), .val (.int (96 : Int32)), .val (.int ss), .val (.ref qB), .val (.int (1 : Int32)), .val (.ref r)] [(.int (96 : Int32))])) := c117.trans (by
          refine st118.trans ?_
          exact Steps.refl _)
        have c120 : Steps p.tables e below S0 (T118.setTop (mkF m 131 #[.val (.int sel), .val (.int raw), .val (.int (96 : Int32)), .val (.int ss), .val (.ref qB), .val (.int (1 : Int32)), .val (.ref r)] [(.int (96 : Int32)), (.int (96 : Int32))])) := c119.trans (by
          refine XS.iloadN X118.here hx rfl (hb hby at_130) rfl ?_
          exact Steps.refl _)
        have c121 : Steps p.tables e below S0 (T118.setTop (mkF m 134 #[.val (.int sel), .val (.int raw), .val (.int (96 : Int32)), .val (.int ss), .val (.ref qB), .val (.int (1 : Int32)), .val (.ref r)] [])) := c120.trans (by
          refine XS.icmpNo X118.here hx rfl (hb hby at_131) rfl (teq rfl).2 ?_
          exact Steps.refl _)
        have c122 : Steps p.tables e below S0 (T118.setTop (mkF m 136 #[.val (.int sel), .val (.int raw), .val (.int (96 : Int32)), .val (.int ss), .val (.ref qB), .val (.int (1 : Int32)), .val (.ref r)] [(.ref qB)])) := c121.trans (by
          refine XS.aload X118.here hx rfl (hb hby at_134) rfl rfl ?_
          exact Steps.refl _)
        obtain ⟨cq123, kq123, q123a, q123b, q123c⟩ := isOf hZ ei1 f105_Ex
        obtain ⟨_, _, ⟨T123, L123, k123, n123⟩, -, X123, ⟨Lc123, hQ123, l123, y123, z123⟩, st123⟩ := X118.virtualBack hx (y := (⟨"com/example/coersa/coersa/Quote", "isName", "()Z"⟩ : MethodName)) (z := (⟨"com/example/coersa/coersa/Quote", "isName", "()Z"⟩ : MethodName)) hown (mvT hZ (hw _ (List.mem_of_getElem? (i := 143) rfl))) (mvT hZ (hw _ (List.mem_of_getElem? (i := 144) rfl))) (notFace_of_selects (args := #[]) (mvT hZ (hw _ (List.mem_of_getElem? (i := 146) rfl)))) (mvT hZ (hw _ (List.mem_of_getElem? (i := 146) rfl))) (mvT hZ (hw _ (List.mem_of_getElem? (i := 145) rfl))) (by decide) (backOf (W := 0) (own_isn1 l Z a0 hw [] qB qB T105.heap n0 (Nat.le_trans Z0 K105.1) S_qB O105 rfl) hZ (hw _ (List.mem_of_getElem? (i := 147) rfl)) (hw _ (List.mem_of_getElem? (i := 2) rfl)) (by decide) (by decide)) q123a q123c (g := (mkF m 136 #[.val (.int sel), .val (.int raw), .val (.int (96 : Int32)), .val (.int ss), .val (.ref qB), .val (.int (1 : Int32)), .val (.ref r)] [(.ref qB)])) rfl (by rw [hml]; rfl) (Steps.refl _) (argsL := []) (rest := []) (lenOf own_pd3 rfl) rfl (by show 2 * 0 + _ ≤ _; exact Nat.le_of_eq rfl) (hb hby at_136) (fun _ _ => ⟨rfl, ei1, (Nat.le_of_ble_eq_true rfl), (Nat.le_of_ble_eq_true rfl)⟩)
        dsimp only [Pt.U, Pt.locs, Pt.cells, Pt.slots] at X123 l123 y123 z123 st123 hQ123
        subst l123 y123 z123
        obtain ⟨rfl, N123q, en⟩ := hQ123
        have N123 := Fr.app N118 N123q
        have c124 : Steps p.tables e below S0 (T123.setTop (mkF m 139 #[.val (.int sel), .val (.int raw), .val (.int (96 : Int32)), .val (.int ss), .val (.ref qB), .val (.int (1 : Int32)), .val (.ref r)] [(.int (1 : Int32))])) := c122.trans (by
          refine st123.trans ?_
          exact Steps.refl _)
        have c125 : Steps p.tables e below S0 (T123.setTop (mkF m 142 #[.val (.int sel), .val (.int raw), .val (.int (96 : Int32)), .val (.int ss), .val (.ref qB), .val (.int (1 : Int32)), .val (.ref r)] [(.int (96 : Int32)), (.int (96 : Int32)), (.int (1 : Int32))])) := c124.trans (by
          refine XS.iloadN X123.here hx rfl (hb hby at_139) rfl ?_
          show Steps p.tables e below (T123.setTop (mkF m 140 #[.val (.int sel), .val (.int raw), .val (.int (96 : Int32)), .val (.int ss), .val (.ref qB), .val (.int (1 : Int32)), .val (.ref r)] [(.int (96 : Int32)), (.int (1 : Int32))])) _
          refine XS.bipush X123.here hx rfl (hb hby at_140) ?_
          exact Steps.refl _)
        have c126 : Steps p.tables e below S0 (T123.setTop (mkF m 145 #[.val (.int sel), .val (.int raw), .val (.int (96 : Int32)), .val (.int ss), .val (.ref qB), .val (.int (1 : Int32)), .val (.ref r)] [(.int (1 : Int32))])) := c125.trans (by
          refine XS.icmpNo X123.here hx rfl (hb hby at_142) rfl (teq (by decide)).2 ?_
          exact Steps.refl _)
        have c127 : Steps p.tables e below S0 (T123.setTop (mkF m 150 #[.val (.int sel), .val (.int raw), .val (.int (96 : Int32)), .val (.int ss), .val (.ref qB), .val (.int (1 : Int32)), .val (.ref r)] [(.int (1 : Int32)), (.int (1 : Int32))])) := c126.trans (by
          refine XS.iconst X123.here hx rfl (hb hby at_145) ?_
          show Steps p.tables e below (T123.setTop (mkF m 146 #[.val (.int sel), .val (.int raw), .val (.int (96 : Int32)), .val (.int ss), .val (.ref qB), .val (.int (1 : Int32)), .val (.ref r)] [(.int (1 : Int32)), (.int (1 : Int32))])) _
          refine XS.goto X123.here hx rfl (pc0 := 146) (pc' := 150) rfl (hb hby at_146) (by decide) (by decide) ?_
          exact Steps.refl _)
        have c128 : Steps p.tables e below S0 (T123.setTop (mkF m 153 #[.val (.int sel), .val (.int raw), .val (.int (96 : Int32)), .val (.int ss), .val (.ref qB), .val (.int (1 : Int32)), .val (.ref r)] [])) := c127.trans (by
          refine XS.icmpNo X123.here hx rfl (hb hby at_150) rfl (teq rfl).2 ?_
          exact Steps.refl _)
        have c129 : Steps p.tables e below S0 (T123.setTop (mkF m 158 #[.val (.int sel), .val (.int raw), .val (.int (96 : Int32)), .val (.int ss), .val (.ref qB), .val (.int (1 : Int32)), .val (.ref r)] [(.int (1 : Int32))])) := c128.trans (by
          refine XS.iconst X123.here hx rfl (hb hby at_153) ?_
          show Steps p.tables e below (T123.setTop (mkF m 154 #[.val (.int sel), .val (.int raw), .val (.int (96 : Int32)), .val (.int ss), .val (.ref qB), .val (.int (1 : Int32)), .val (.ref r)] [(.int (1 : Int32))])) _
          refine XS.goto X123.here hx rfl (pc0 := 154) (pc' := 158) rfl (hb hby at_154) (by decide) (by decide) ?_
          exact Steps.refl _)
        have hk3 : k1 ≤ T123.heap.size := by rw [en]; exact hk2
        obtain ⟨fs, hr, hrun, hended, hW⟩ := X123.leaveW (v := some (.int (1 : Int32))) hS1 hk3 (fun h => by rw [Bd.returns] at h; cases h)
        exact ⟨_, _, c129.trans (retN X123 hx (t := .boolean) Bd.returns (by simp) (hb hby at_158) hr), hrun, hended, _, _, rfl, ⟨rfl, hn0 ▸ N123⟩, hW.1, hW.2.1, hW.2.2.1, hW.2.2.2.mono (by decide) (by decide)⟩
      · obtain ⟨_, _, ⟨T130, L130, k130, n130⟩, -, X130, ⟨Lc130, hQ130, l130, y130, z130⟩, st130⟩ := Jvm.LawKit.callS X0 hx (y := (⟨"com/example/coersa/coersa/Quote", "openedBy", "(C)Lcom/example/coersa/coersa/Quote;"⟩ : MethodName)) hown (mvT hZ (hw _ (List.mem_of_getElem? (i := 0) rfl))) (mvT hZ (hw _ (List.mem_of_getElem? (i := 1) rfl))) (mvT hZ (hw _ (List.mem_of_getElem? (i := 2) rfl))) (mvT hZ (hw _ (List.mem_of_getElem? (i := 3) rfl))) (by decide) (backOf (W := 0) (own_opnN l Z a0 hw [] cc h0 n0 Z0 h39 h34 h96) hZ (hw _ (List.mem_of_getElem? (i := 3) rfl)) (hw _ (List.mem_of_getElem? (i := 2) rfl)) (by decide) (by decide)) (g := (mkF m 43 #[.val (.int sel), .val (.int raw), .val (.int cc), .val (.int ss), .unset, .unset, .unset] [(.int cc)])) rfl (by rw [hml]; rfl) (argsL := [(.int cc)]) (rest := []) (lenOf own_pd15 rfl) rfl (by show 2 * 0 + _ ≤ _; exact Nat.le_of_eq rfl) (hb hby at_43) (fun _ _ => ⟨rfl, e0, (Nat.le_of_ble_eq_true rfl), (Nat.le_of_ble_eq_true rfl)⟩)
        dsimp only [Pt.U, Pt.locs, Pt.cells, Pt.slots] at X130 l130 y130 z130 st130 hQ130
        subst l130 y130 z130
        obtain ⟨rfl, N130q, eo⟩ := hQ130
        have N130 := Fr.app N0 N130q
        have c131 : Steps p.tables e below S0 (T130.setTop (mkF m 46 #[.val (.int sel), .val (.int raw), .val (.int cc), .val (.int ss), .unset, .unset, .unset] [.null])) := c15.trans (by
          refine st130 _ ?_
          exact Steps.refl _)
        have c132 : Steps p.tables e below S0 (T130.setTop (mkF m 51 #[.val (.int sel), .val (.int raw), .val (.int cc), .val (.int ss), .val .null, .unset, .unset] [(.int (39 : Int32)), (.int cc)])) := c131.trans (by
          refine XS.astore X130.here hx rfl (hb hby at_46) rfl rfl (l' := #[.val (.int sel), .val (.int raw), .val (.int cc), .val (.int ss), .val .null, .unset, .unset]) rfl ?_
          show Steps p.tables e below (T130.setTop (mkF m 48 #[.val (.int sel), .val (.int raw), .val (.int cc), .val (.int ss), .val .null, .unset, .unset] [])) _
          refine XS.iloadN X130.here hx rfl (hb hby at_48) rfl ?_
          show Steps p.tables e below (T130.setTop (mkF m 49 #[.val (.int sel), .val (.int raw), .val (.int cc), .val (.int ss), .val .null, .unset, .unset] [(.int cc)])) _
          refine XS.bipush X130.here hx rfl (hb hby at_49) ?_
          exact Steps.refl _)
        have c133 : Steps p.tables e below S0 (T130.setTop (mkF m 54 #[.val (.int sel), .val (.int raw), .val (.int cc), .val (.int ss), .val .null, .unset, .unset] [])) := c132.trans (by
          refine XS.icmpNo X130.here hx rfl (hb hby at_51) rfl (feq h39).1 ?_
          exact Steps.refl _)
        have c134 : Steps p.tables e below S0 (T130.setTop (mkF m 57 #[.val (.int sel), .val (.int raw), .val (.int cc), .val (.int ss), .val .null, .unset, .unset] [(.int (34 : Int32)), (.int cc)])) := c133.trans (by
          refine XS.iloadN X130.here hx rfl (hb hby at_54) rfl ?_
          show Steps p.tables e below (T130.setTop (mkF m 55 #[.val (.int sel), .val (.int raw), .val (.int cc), .val (.int ss), .val .null, .unset, .unset] [(.int cc)])) _
          refine XS.bipush X130.here hx rfl (hb hby at_55) ?_
          exact Steps.refl _)
        have c135 : Steps p.tables e below S0 (T130.setTop (mkF m 60 #[.val (.int sel), .val (.int raw), .val (.int cc), .val (.int ss), .val .null, .unset, .unset] [])) := c134.trans (by
          refine XS.icmpNo X130.here hx rfl (hb hby at_57) rfl (feq h34).1 ?_
          exact Steps.refl _)
        have c136 : Steps p.tables e below S0 (T130.setTop (mkF m 63 #[.val (.int sel), .val (.int raw), .val (.int cc), .val (.int ss), .val .null, .unset, .unset] [(.int (96 : Int32)), (.int cc)])) := c135.trans (by
          refine XS.iloadN X130.here hx rfl (hb hby at_60) rfl ?_
          show Steps p.tables e below (T130.setTop (mkF m 61 #[.val (.int sel), .val (.int raw), .val (.int cc), .val (.int ss), .val .null, .unset, .unset] [(.int cc)])) _
          refine XS.bipush X130.here hx rfl (hb hby at_61) ?_
          exact Steps.refl _)
        have c137 : Steps p.tables e below S0 (T130.setTop (mkF m 70 #[.val (.int sel), .val (.int raw), .val (.int cc), .val (.int ss), .val .null, .unset, .unset] [])) := c136.trans (by
          refine XS.icmpYes X130.here hx rfl (pc0 := 63) (pc' := 70) rfl (hb hby at_63) rfl (feq h96).2 (by decide) (by decide) ?_
          exact Steps.refl _)
        have c138 : Steps p.tables e below S0 (T130.setTop (mkF m 75 #[.val (.int sel), .val (.int raw), .val (.int cc), .val (.int ss), .val .null, .val (.int (0 : Int32)), .unset] [(.int (0 : Int32))])) := c137.trans (by
          refine XS.iconst X130.here hx rfl (hb hby at_70) ?_
          show Steps p.tables e below (T130.setTop (mkF m 71 #[.val (.int sel), .val (.int raw), .val (.int cc), .val (.int ss), .val .null, .unset, .unset] [(.int (0 : Int32))])) _
          refine XS.istore X130.here hx rfl (hb hby at_71) rfl (l' := #[.val (.int sel), .val (.int raw), .val (.int cc), .val (.int ss), .val .null, .val (.int (0 : Int32)), .unset]) rfl ?_
          show Steps p.tables e below (T130.setTop (mkF m 73 #[.val (.int sel), .val (.int raw), .val (.int cc), .val (.int ss), .val .null, .val (.int (0 : Int32)), .unset] [])) _
          refine XS.iload X130.here hx rfl (hb hby at_73) rfl ?_
          exact Steps.refl _)
        have c139 : Steps p.tables e below S0 (T130.setTop (mkF m 78 #[.val (.int sel), .val (.int raw), .val (.int cc), .val (.int ss), .val .null, .val (.int (0 : Int32)), .unset] [])) := c138.trans (by
          refine XS.ifNo X130.here hx rfl (hb hby at_75) rfl ((if0 _ _).trans (teq rfl).2) ?_
          exact Steps.refl _)
        have c140 : Steps p.tables e below S0 (T130.setTop (mkF m 80 #[.val (.int sel), .val (.int raw), .val (.int cc), .val (.int ss), .val .null, .val (.int (0 : Int32)), .unset] [.null])) := c139.trans (by
          refine XS.aload X130.here hx rfl (hb hby at_78) rfl rfl ?_
          exact Steps.refl _)
        have c141 : Steps p.tables e below S0 (T130.setTop (mkF m 83 #[.val (.int sel), .val (.int raw), .val (.int cc), .val (.int ss), .val .null, .val (.int (0 : Int32)), .unset] [])) := c140.trans (by
          refine XS.ifnonnullNo X130.here hx rfl (hb hby at_80) rfl ?_
          exact Steps.refl _)
        have c142 : Steps p.tables e below S0 (T130.setTop (mkF m 88 #[.val (.int sel), .val (.int raw), .val (.int cc), .val (.int ss), .val .null, .val (.int (0 : Int32)), .unset] [(.int (1 : Int32))])) := c141.trans (by
          refine XS.iconst X130.here hx rfl (hb hby at_83) ?_
          show Steps p.tables e below (T130.setTop (mkF m 84 #[.val (.int sel), .val (.int raw), .val (.int cc), .val (.int ss), .val .null, .val (.int (0 : Int32)), .unset] [(.int (1 : Int32))])) _
          refine XS.goto X130.here hx rfl (pc0 := 84) (pc' := 88) rfl (hb hby at_84) (by decide) (by decide) ?_
          exact Steps.refl _)
        obtain ⟨fs, hr, hrun, hended, hW, hsame⟩ := X130.leave (v := some (.int (1 : Int32))) (fun h => by rw [Bd.returns] at h; cases h)
        exact ⟨_, _, c142.trans (retN X130 hx (t := .boolean) Bd.returns (by simp) (hb hby at_88) hr), hrun, hended, _, _, rfl, ⟨rfl, hn0 ▸ N130⟩, ReturnedEndW.of_narrow ⟨_, rfl⟩ hW (hsame.mono (by decide) (by decide))⟩
set_option maxRecDepth 65536 in
set_option maxHeartbeats 40000000 in
theorem own_comes {Post : Tables → Env → Array Value → State → Outcome → State → Prop} (hpost : ∀ tb e args s v u, (limb_1_1.after args s (.returned v) u = true ∧ limb_1_2.after args s (.returned v) u = true) → ReturnedEndW s (.returned v) u (Jvm.fieldLocs frame_1_writes args s ++ Jvm.arrayLocs frame_1_arrays args s ++ Jvm.staticLocs frame_1_statics s) 24 1152 → Post tb e args s (.returned v) u) :
    ArmFor flags0 classFile x code maxLocals ret World_1 tables_1 room_1 Calls_1 rest_1 Pre_1 Post := by
  intro l hfl _ _ p e ha hc hk s m args below hf hA hF happ hP
  obtain ⟨hcalls, hrest, hpre⟩ := hP
  obtain ⟨-, -, -, hnamed, -, -, -, hat⟩ := (Spec.applies_iff hf).mp happ
  obtain ⟨hg, hn⟩ := and_e (Cond.before_iff.mp (show (Jvm.Cond.and given_1 narrow_1).before args s = true from hpre))
  obtain ⟨hcount, hgs⟩ := and_e hg
  obtain ⟨hi0, hgs0⟩ := and_e hgs
  obtain ⟨w0, w1, rfl⟩ : ∃ w0 w1 : Value, args = #[w0, w1] := by
    have hs : args.size = 2 := by simpa [Cond.value, given_1] using hcount
    obtain ⟨L⟩ := args
    match L, hs with
    | [w0, w1], _ => exact ⟨w0, w1, rfl⟩
  have hw := fun d (hd : d ∈ tables_1) => atoms_spec (ws := Jvm.Cond.code x code maxLocals ret :: tables_1) hat d (List.mem_cons_of_mem _ hd)
  have hfit : Fit s := fun {y c} hc i hi => by
    obtain ⟨ha, rfl⟩ := Array.getElem?_eq_some_iff.mp hc
    have q := List.all_eq_true.mp ((Array.all_eq_true_iff_forall_mem.mp hF) _ (Array.getElem_mem ha)) i (List.mem_range.mpr hi)
    simpa [Array.getElem?_eq_getElem hi] using q
  obtain ⟨hsets, hown0⟩ := atoms_of _ (rest_1_c_eq ▸ (show rest_1_c.before _ s = true from hrest))
  obtain ⟨i0, ei0⟩ := is_v hi0
  obtain rfl : w0 = (.int i0) := Option.some.inj ei0
  obtain ⟨i1, ei1⟩ := is_v hgs0
  obtain rfl : w1 = (.int i1) := Option.some.inj ei1
  obtain ⟨n1, m1⟩ := and_e hn
  obtain ⟨n2, m2⟩ := and_e m1
  obtain ⟨n3, m3⟩ := and_e m2
  obtain ⟨n4, m4⟩ := and_e m3
  obtain ⟨n5, m5⟩ := and_e m4
  obtain ⟨n6, m6⟩ := and_e m5
  obtain ⟨n7, m7⟩ := and_e m6
  obtain ⟨n8, n9⟩ := and_e m7
  obtain ⟨qS, eS⟩ := exa_v n1
  obtain ⟨qB, eB⟩ := exa_v n3
  obtain ⟨qD, eD⟩ := exa_v n7
  have S_qS := Sta.start eS (Or.inr ⟨(hw _ (List.mem_of_getElem? (i := 2) rfl)), (hw _ (List.mem_of_getElem? (i := 5) rfl))⟩)
  have E_qS := Exa.start eS n1
  have M_qS := own_fldI eS n2
  have S_qB := Sta.start eB (Or.inr ⟨(hw _ (List.mem_of_getElem? (i := 2) rfl)), (hw _ (List.mem_of_getElem? (i := 149) rfl))⟩)
  have E_qB := Exa.start eB n3
  have M_qB := own_fldI eB n6
  have S_qD := Sta.start eD (Or.inr ⟨(hw _ (List.mem_of_getElem? (i := 2) rfl)), (hw _ (List.mem_of_getElem? (i := 151) rfl))⟩)
  have E_qD := Exa.start eD n7
  have M_qD := own_fldI eD n8
  have hSB : ¬ qS = qB := own_ne eS eB n4 n5 (by decide)
  have hDB : ¬ qD = qB := own_ne eD eB n9 n5 (by decide)
  obtain ⟨cs, ecs⟩ := is_v (Cond.before_iff.mp (hsets _ (List.mem_of_getElem? (i := 1) rfl)))
  have SC := Sta.start ecs (Or.inl (hsets _ (List.mem_of_getElem? (i := 0) rfl)))
  have hcs : ¬ cs = 0 := own_neq ecs (Cond.before_iff.mp (hsets _ (List.mem_of_getElem? (i := 2) rfl)))
  obtain ⟨f, ef, hgv⟩ := isR_v (Cond.before_iff.mp (hsets _ (List.mem_of_getElem? (i := 8) rfl)))
  have SF := Sta.start ef (Or.inl (hsets _ (List.mem_of_getElem? (i := 7) rfl)))
  have hheld : Jvm.Lit.constHeld s "com/example/coersa/coersa/QuoteOpenedByPinLaw" 14 := hcalls.1 ("com/example/coersa/coersa/QuoteOpenedByPinLaw", 14) (List.mem_cons_self ..)
  have hcw : Jvm.Lit.compactW.before #[(.int i0), (.int i1)] s = true := (hsets _ (List.mem_of_getElem? (i := 2) rfl))
  obtain ⟨n, o, h1, h2, h3, _, L, rfl, ⟨rfl, N⟩, hq⟩ := own_law l s _ hw tables_1 i0 i1 cs f qS qD qB S_qS S_qD S_qB E_qS M_qS E_qD M_qD E_qB M_qB hSB hDB SC hcs SF hgv hheld hcw p e ha hc hk s m _ below hf ((Spec.applies_iff_loose hf).mp happ).1 ⟨rfl, rfl⟩ trivial
  exact ⟨n, _, h1, h2, h3, hpost _ _ _ _ _ _ ⟨Cond.after_iff.mpr rfl, Cond.after_iff.mpr (eq_i res_at (Term.int_eval (1)) rfl)⟩ ⟨hq.1, hq.2.1, hq.2.2.1, (hq.2.2.2.sift fun y hy => Or.inr (N y hy)).mono (by decide) (by decide)⟩⟩
theorem main_1_1 : Claimed_1_1 := own_comes fun _ _ _ _ _ _ h hF => ⟨h.1, hF⟩
theorem main_1_2 : Claimed_1_2 := own_comes fun _ _ _ _ _ _ h hF => ⟨h.2, hF⟩
end Jvm.Pilot.@@N@@
namespace Jvm.Pilot.@@N@@
open Jvm Jvm.ClassFile Sem Op Lib Jvm.Free Jvm.Stand Jvm.Pilot.@@N@@.Jvm.D
/-! MADE BY PROGRAM (witnessworld.py) out of the Statement's table words and the real class files: 22 classes; the members and pool entries that the words name. The judged class is class 1, her method 1. -/
namespace start1
open Jvm.ClassFile
def u (s : String) : CpInfo := .utf8 (stringToUtf16 s)
/-- a pool by its gaps: so many unusable entries, then the entry; so many at the end -/
def gap : Nat → List CpInfo → List CpInfo
  | 0, r => r
  | n + 1, r => .unusable :: gap n r
def poolList (es : List (Nat × CpInfo)) (last : Nat) : List CpInfo := es.foldr (fun e r => gap e.1 (e.2 :: r)) (gap last [])
def pool (es : List (Nat × CpInfo)) (last : Nat) : Array CpInfo := ⟨poolList es last⟩
def fileOf (pool : Array CpInfo) (this : Nat) (attrs : Array Attribute := #[]) (ms : Array MethodInfo := #[]) (fl : Nat := 33) (sup : Nat := 0) (ifs : Array Nat := #[]) (fds : Array FieldInfo := #[]) : ClassFile where
  minorVersion := 0
  majorVersion := 65
  constantPool := pool
  accessFlags := fl
  thisClass := this
  superClass := sup
  interfaces := ifs
  fields := fds
  methods := ms
  attributes := attrs
def plain (name : String) (sup : Option ClassId) : Class where
  name := name
  kind := .ordinary
  loader := none
  accessFlags := 33
  super := sup
  interfaces := #[]
  cf := none
  fields := #[]
  methods := #[]
  instanceTypes := #[]
  staticTypes := #[]
  resolved := #[]
  callSites := []
  init := .initialized
  statics := none
  mirror := none

def pool0 : Array CpInfo := pool [(5, u "<init>"), (0, u "()V"), (1, .class_ 10), (1, u "java/lang/Object"), (85, u "clone"), (0, u "()Ljava/lang/Object;")] 26

def k0c0 : Code := { maxStack := 0, maxLocals := 1, code := object_method_1_code, exceptionTable := #[], attributes := #[] }
def k0m0 : Method := { name := "<init>", desc := "()V", sig := { parameters := [], returnType := none }, accessFlags := 1, code := some k0c0 }
def k0m1 : Method := { name := "clone", desc := "()Ljava/lang/Object;", sig := { parameters := [], returnType := some (.object "java/lang/Object") }, accessFlags := 260, code := none }
/-- java/lang/Object -/
def k0 : Class := { plain "java/lang/Object" none with
  accessFlags := 33
  interfaces := #[]
  cf := some (fileOf pool0 8 #[] #[{ accessFlags := 1, nameIndex := 5, descriptorIndex := 6, attributes := #[] }, { accessFlags := 260, nameIndex := 96, descriptorIndex := 97, attributes := #[] }] 33 0 #[] #[])
  fields := #[]
  methods := #[k0m0, k0m1]
  instanceTypes := #[]
  staticTypes := #[]
  resolved := Array.replicate 124 none
  statics := none }

def pool1 : Array CpInfo := pool [(2, .class_ 4), (1, u "java/lang/Object"), (0, u "<init>"), (0, u "()V"), (0, .integer 65535), (0, .methodref 9 10), (0, .class_ 11), (0, .nameAndType 12 13), (0, u "com/example/coersa/coersa/Quote"), (0, u "openedBy"), (0, u "(C)Lcom/example/coersa/coersa/Quote;"), (0, .string 15), (0, u ""), (0, .methodref 9 17), (0, .nameAndType 18 19), (0, u "enclose"), (0, u "(Ljava/lang/String;)Ljava/lang/String;"), (0, .methodref 21 22), (0, .class_ 23), (0, .nameAndType 24 25), (0, u "java/lang/String"), (0, u "length"), (0, u "()I"), (0, .methodref 21 27), (0, .nameAndType 28 29), (0, u "charAt"), (0, u "(I)C"), (0, .methodref 9 31), (0, .nameAndType 32 33), (0, u "isName"), (0, u "()Z"), (0, .class_ 35), (0, u "com/example/coersa/coersa/QuoteOpenedByPinLaw"), (2, u "law"), (0, u "(II)Z")] 3

def k1m0 : Method := { name := "<init>", desc := "()V", sig := { parameters := [], returnType := none }, accessFlags := 2, code := none }
def k1c1 : Code := { maxStack := 3, maxLocals := 7, code := code, exceptionTable := #[], attributes := #[] }
def k1m1 : Method := { name := "law", desc := "(II)Z", sig := { parameters := [.int, .int], returnType := some .boolean }, accessFlags := 9, code := some k1c1 }
/-- com/example/coersa/coersa/QuoteOpenedByPinLaw -/
def k1 : Class := { plain "com/example/coersa/coersa/QuoteOpenedByPinLaw" (some 0) with
  accessFlags := 49
  interfaces := #[]
  cf := some (fileOf pool1 34 #[] #[{ accessFlags := 2, nameIndex := 5, descriptorIndex := 6, attributes := #[] }, { accessFlags := 9, nameIndex := 38, descriptorIndex := 39, attributes := #[] }] 49 2 #[] #[])
  fields := #[]
  methods := #[k1m0, k1m1]
  instanceTypes := #[]
  staticTypes := #[]
  resolved := Array.replicate 43 none
  statics := none }

def pool2 : Array CpInfo := pool [(1, .class_ 2), (0, u "java/lang/constant/Constable"), (0, .class_ 4), (0, u "java/lang/Object")] 6

/-- java/lang/constant/Constable -/
def k2 : Class := { plain "java/lang/constant/Constable" (some 0) with
  accessFlags := 1537
  interfaces := #[]
  cf := some (fileOf pool2 1 #[] #[] 1537 3 #[] #[])
  fields := #[]
  methods := #[]
  instanceTypes := #[]
  staticTypes := #[]
  resolved := Array.replicate 11 none
  statics := none }

def pool3 : Array CpInfo := pool [(1, .class_ 2), (0, u "java/lang/Comparable"), (0, .class_ 4), (0, u "java/lang/Object")] 7

/-- java/lang/Comparable -/
def k3 : Class := { plain "java/lang/Comparable" (some 0) with
  accessFlags := 1537
  interfaces := #[]
  cf := some (fileOf pool3 1 #[] #[] 1537 3 #[] #[])
  fields := #[]
  methods := #[]
  instanceTypes := #[]
  staticTypes := #[]
  resolved := Array.replicate 12 none
  statics := none }

def pool4 : Array CpInfo := pool [(1, .class_ 2), (0, u "java/io/Serializable"), (0, .class_ 4), (0, u "java/lang/Object")] 2

/-- java/io/Serializable -/
def k4 : Class := { plain "java/io/Serializable" (some 0) with
  accessFlags := 1537
  interfaces := #[]
  cf := some (fileOf pool4 1 #[] #[] 1537 3 #[] #[])
  fields := #[]
  methods := #[]
  instanceTypes := #[]
  staticTypes := #[]
  resolved := Array.replicate 7 none
  statics := none }

def pool5 : Array CpInfo := pool [(2, .class_ 4), (1, u "java/lang/Enum"), (0, u "name"), (0, u "Ljava/lang/String;"), (2, u "ordinal"), (0, u "I"), (1, .class_ 14), (1, u "java/lang/Object"), (4, u "hash"), (86, .class_ 108), (1, u "java/lang/Enum$EnumDesc"), (2, .class_ 112), (0, u "java/lang/constant/Constable"), (0, .class_ 114), (0, u "java/lang/Comparable"), (0, .class_ 116), (0, u "java/io/Serializable")] 87

/-- java/lang/Enum -/
def k5 : Class := { plain "java/lang/Enum" (some 0) with
  accessFlags := 1057
  interfaces := #[2, 3, 4]
  cf := some (fileOf pool5 2 #[.nestMembers #[106]] #[] 1057 12 #[111, 113, 115] #[{ accessFlags := 18, nameIndex := 5, descriptorIndex := 6, attributes := #[] }, { accessFlags := 18, nameIndex := 9, descriptorIndex := 10, attributes := #[] }, { accessFlags := 2, nameIndex := 19, descriptorIndex := 10, attributes := #[] }])
  fields := #[{ name := "name", type := (.object "java/lang/String"), accessFlags := 18, slot := 0, constantValue := 0 }, { name := "ordinal", type := .int, accessFlags := 18, slot := 1, constantValue := 0 }, { name := "hash", type := .int, accessFlags := 2, slot := 2, constantValue := 0 }]
  methods := #[]
  instanceTypes := #[(.object "java/lang/String"), .int, .int]
  staticTypes := #[]
  resolved := Array.replicate 204 none
  statics := none }

def pool6 : Array CpInfo := pool [(1, .class_ 2), (0, u "com/example/coersa/coersa/Quote"), (0, .fieldref 1 4), (0, .nameAndType 5 6), (0, u "SINGLE"), (0, u "Lcom/example/coersa/coersa/Quote;"), (0, .fieldref 1 8), (0, .nameAndType 9 6), (0, u "DOUBLE"), (0, .fieldref 1 11), (0, .nameAndType 12 6), (0, u "BACKQUOTE"), (2, u "$VALUES"), (0, u "[Lcom/example/coersa/coersa/Quote;"), (6, .class_ 25), (1, u "java/lang/Enum"), (4, u "<init>"), (1, .fieldref 1 33), (0, .nameAndType 34 35), (0, u "mark"), (0, u "C"), (2, .nameAndType 40 41), (1, u "charAt"), (0, u "(I)C"), (2, u "isName"), (0, u "()Z"), (1, .nameAndType 48 49), (0, u "length"), (0, u "()I"), (17, .nameAndType 68 69), (0, u "toString"), (0, u "()Ljava/lang/String;"), (0, .class_ 71), (0, u "java/lang/StringBuilder"), (0, .methodref 70 73), (0, .nameAndType 30 74), (0, u "(I)V"), (2, u "append"), (1, .methodref 70 80), (0, .nameAndType 77 81), (0, u "(C)Ljava/lang/StringBuilder;"), (4, .methodref 70 67), (0, .methodref 88 47), (0, .class_ 89), (0, u "java/lang/String"), (0, .methodref 88 38), (18, u "openedBy"), (0, u "(C)Lcom/example/coersa/coersa/Quote;"), (4, u "enclose"), (0, u "(Ljava/lang/String;)Ljava/lang/String;")] 5

def k6c0 : Code := { maxStack := 2, maxLocals := 1, code := prog_237_method_4_code, exceptionTable := #[], attributes := #[] }
def k6m0 : Method := { name := "isName", desc := "()Z", sig := { parameters := [], returnType := some .boolean }, accessFlags := 0, code := some k6c0 }
def k6c1 : Code := { maxStack := 1, maxLocals := 1, code := prog_237_method_5_code, exceptionTable := #[], attributes := #[] }
def k6m1 : Method := { name := "openedBy", desc := "(C)Lcom/example/coersa/coersa/Quote;", sig := { parameters := [.char], returnType := some (.object "com/example/coersa/coersa/Quote") }, accessFlags := 8, code := some k6c1 }
def k6c2 : Code := { maxStack := 4, maxLocals := 5, code := prog_237_method_10_code, exceptionTable := #[], attributes := #[] }
def k6m2 : Method := { name := "enclose", desc := "(Ljava/lang/String;)Ljava/lang/String;", sig := { parameters := [(.object "java/lang/String")], returnType := some (.object "java/lang/String") }, accessFlags := 0, code := some k6c2 }
/-- com/example/coersa/coersa/Quote -/
def k6 : Class := { plain "com/example/coersa/coersa/Quote" (some 5) with
  accessFlags := 16432
  interfaces := #[]
  cf := some (fileOf pool6 1 #[] #[{ accessFlags := 0, nameIndex := 44, descriptorIndex := 45, attributes := #[] }, { accessFlags := 8, nameIndex := 109, descriptorIndex := 110, attributes := #[] }, { accessFlags := 0, nameIndex := 115, descriptorIndex := 116, attributes := #[] }] 16432 23 #[] #[{ accessFlags := 16409, nameIndex := 5, descriptorIndex := 6, attributes := #[] }, { accessFlags := 16409, nameIndex := 9, descriptorIndex := 6, attributes := #[] }, { accessFlags := 16409, nameIndex := 12, descriptorIndex := 6, attributes := #[] }, { accessFlags := 18, nameIndex := 34, descriptorIndex := 35, attributes := #[] }, { accessFlags := 4122, nameIndex := 15, descriptorIndex := 16, attributes := #[] }])
  fields := #[{ name := "SINGLE", type := (.object "com/example/coersa/coersa/Quote"), accessFlags := 16409, slot := 0, constantValue := 0 }, { name := "DOUBLE", type := (.object "com/example/coersa/coersa/Quote"), accessFlags := 16409, slot := 1, constantValue := 0 }, { name := "BACKQUOTE", type := (.object "com/example/coersa/coersa/Quote"), accessFlags := 16409, slot := 2, constantValue := 0 }, { name := "mark", type := .char, accessFlags := 18, slot := 3, constantValue := 0 }, { name := "$VALUES", type := (.array (.object "com/example/coersa/coersa/Quote")), accessFlags := 4122, slot := 3, constantValue := 0 }]
  methods := #[k6m0, k6m1, k6m2]
  instanceTypes := #[(.object "java/lang/String"), .int, .int, .char]
  staticTypes := #[(.object "com/example/coersa/coersa/Quote"), (.object "com/example/coersa/coersa/Quote"), (.object "com/example/coersa/coersa/Quote"), (.array (.object "com/example/coersa/coersa/Quote"))]
  resolved := Array.replicate 122 none
  statics := some 0 }

def pool7 : Array CpInfo := pool [(2, .class_ 4), (1, u "java/lang/CharSequence"), (42, .class_ 48), (0, u "java/lang/CharSequence$1CodePointIterator"), (10, .class_ 60), (0, u "java/lang/CharSequence$1CharIterator"), (5, .class_ 67), (0, u "java/lang/Object")] 63

/-- java/lang/CharSequence -/
def k7 : Class := { plain "java/lang/CharSequence" (some 0) with
  accessFlags := 1537
  interfaces := #[]
  cf := some (fileOf pool7 2 #[.nestMembers #[47, 59]] #[] 1537 66 #[] #[])
  fields := #[]
  methods := #[]
  instanceTypes := #[]
  staticTypes := #[]
  resolved := Array.replicate 131 none
  statics := none }

def pool8 : Array CpInfo := pool [(1, .class_ 2), (0, u "java/lang/constant/ConstantDesc"), (0, .class_ 4), (0, u "java/lang/Object")] 32

/-- java/lang/constant/ConstantDesc -/
def k8 : Class := { plain "java/lang/constant/ConstantDesc" (some 0) with
  accessFlags := 1537
  interfaces := #[]
  cf := some (fileOf pool8 1 #[] #[] 1537 3 #[] #[])
  fields := #[]
  methods := #[]
  instanceTypes := #[]
  staticTypes := #[]
  resolved := Array.replicate 37 none
  statics := none }

def pool9 : Array CpInfo := pool [(1, .methodref 2 3), (0, .class_ 4), (0, .nameAndType 5 6), (0, u "java/lang/Object"), (0, u "<init>"), (0, u "()V"), (2, .fieldref 10 11), (0, .class_ 12), (0, .nameAndType 13 14), (0, u "java/lang/String"), (0, u "value"), (0, u "[B"), (0, .fieldref 10 16), (0, .nameAndType 17 18), (0, u "coder"), (0, u "B"), (2, u "hash"), (0, u "I"), (2, u "hashIsZero"), (0, u "Z"), (11, .fieldref 10 39), (0, .nameAndType 40 26), (0, u "COMPACT_STRINGS"), (13, .methodref 55 56), (0, .class_ 57), (0, .nameAndType 58 59), (0, u "java/util/Arrays"), (0, u "copyOfRange"), (0, u "([BII)[B"), (47, .class_ 109), (1, u "java/lang/StringLatin1"), (32, u "()Z"), (191, u "()I"), (0, .methodref 10 336), (0, .nameAndType 17 337), (0, u "()B"), (2, u "()[B"), (22, u "([BI)C"), (27, u "(II)V"), (35, u "(I)C"), (61, .methodref 10 490), (0, .nameAndType 5 491), (0, u "(Ljava/lang/AbstractStringBuilder;Ljava/lang/Void;)V"), (0, .methodref 10 493), (0, .nameAndType 494 142), (0, u "isLatin1"), (0, .methodref 107 496), (0, .nameAndType 497 363), (0, u "charAt"), (3, u "checkIndex"), (4, .nameAndType 507 334), (0, u "length"), (41, .methodref 550 506), (0, .class_ 551), (0, u "java/lang/AbstractStringBuilder"), (0, .methodref 550 553), (0, .nameAndType 554 340), (0, u "getValue"), (20, .class_ 576), (0, u "java/lang/CharSequence"), (22, u "CASE_INSENSITIVE_ORDER"), (0, u "Ljava/util/Comparator;"), (446, .methodref 550 493), (5, .fieldref 1054 1055), (0, .class_ 1056), (0, .nameAndType 1057 1058), (0, u "jdk/internal/util/Preconditions"), (0, u "SIOOBE_FORMATTER"), (0, u "Ljava/util/function/BiFunction;"), (0, .methodref 1054 1060), (0, .nameAndType 501 1061), (0, u "(IILjava/util/function/BiFunction;)I"), (39, u "serialPersistentFields"), (0, u "[Ljava/io/ObjectStreamField;"), (0, .class_ 1104), (0, u "java/lang/String$CaseInsensitiveComparator"), (1, .class_ 1107), (0, u "java/io/Serializable"), (0, .class_ 1109), (0, u "java/lang/Comparable"), (0, .class_ 1111), (0, u "java/lang/constant/Constable"), (0, .class_ 1113), (0, u "java/lang/constant/ConstantDesc"), (2, u "serialVersionUID"), (0, u "J"), (3, u "REPL"), (0, u "C"), (2, u "LATIN1"), (1, u "UTF16"), (105, u "(Ljava/lang/StringBuilder;)V")] 217

def k9m0 : Method := { name := "<init>", desc := "()V", sig := { parameters := [], returnType := none }, accessFlags := 1, code := none }
def k9c1 : Code := { maxStack := 3, maxLocals := 2, code := jdk_42_method_53_code, exceptionTable := #[], attributes := #[] }
def k9m1 : Method := { name := "<init>", desc := "(Ljava/lang/StringBuilder;)V", sig := { parameters := [(.object "java/lang/StringBuilder")], returnType := none }, accessFlags := 1, code := some k9c1 }
def k9c2 : Code := { maxStack := 2, maxLocals := 1, code := jdk_42_method_54_code, exceptionTable := #[], attributes := #[] }
def k9m2 : Method := { name := "length", desc := "()I", sig := { parameters := [], returnType := some .int }, accessFlags := 1, code := some k9c2 }
def k9c3 : Code := { maxStack := 2, maxLocals := 2, code := jdk_42_method_56_code, exceptionTable := #[], attributes := #[] }
def k9m3 : Method := { name := "charAt", desc := "(I)C", sig := { parameters := [.int], returnType := some .char }, accessFlags := 1, code := some k9c3 }
def k9c4 : Code := { maxStack := 5, maxLocals := 5, code := jdk_42_method_150_code, exceptionTable := #[], attributes := #[] }
def k9m4 : Method := { name := "<init>", desc := "(Ljava/lang/AbstractStringBuilder;Ljava/lang/Void;)V", sig := { parameters := [(.object "java/lang/AbstractStringBuilder"), (.object "java/lang/Void")], returnType := none }, accessFlags := 0, code := some k9c4 }
def k9c5 : Code := { maxStack := 1, maxLocals := 1, code := jdk_42_method_152_code, exceptionTable := #[], attributes := #[] }
def k9m5 : Method := { name := "coder", desc := "()B", sig := { parameters := [], returnType := some .byte }, accessFlags := 0, code := some k9c5 }
def k9c6 : Code := { maxStack := 1, maxLocals := 1, code := jdk_42_method_154_code, exceptionTable := #[], attributes := #[] }
def k9m6 : Method := { name := "isLatin1", desc := "()Z", sig := { parameters := [], returnType := some .boolean }, accessFlags := 0, code := some k9c6 }
def k9c7 : Code := { maxStack := 3, maxLocals := 2, code := jdk_42_method_155_code, exceptionTable := #[], attributes := #[] }
def k9m7 : Method := { name := "checkIndex", desc := "(II)V", sig := { parameters := [.int, .int], returnType := none }, accessFlags := 8, code := some k9c7 }
/-- java/lang/String -/
def k9 : Class := { plain "java/lang/String" (some 0) with
  accessFlags := 49
  interfaces := #[4, 3, 7, 2, 8]
  cf := some (fileOf pool9 10 #[.nestMembers #[1103]] #[{ accessFlags := 1, nameIndex := 5, descriptorIndex := 6, attributes := #[] }, { accessFlags := 1, nameIndex := 5, descriptorIndex := 1233, attributes := #[] }, { accessFlags := 1, nameIndex := 507, descriptorIndex := 334, attributes := #[] }, { accessFlags := 1, nameIndex := 497, descriptorIndex := 427, attributes := #[] }, { accessFlags := 0, nameIndex := 5, descriptorIndex := 491, attributes := #[] }, { accessFlags := 0, nameIndex := 17, descriptorIndex := 337, attributes := #[] }, { accessFlags := 0, nameIndex := 494, descriptorIndex := 142, attributes := #[] }, { accessFlags := 8, nameIndex := 501, descriptorIndex := 391, attributes := #[] }] 49 2 #[1106, 1108, 575, 1110, 1112] #[{ accessFlags := 18, nameIndex := 13, descriptorIndex := 14, attributes := #[] }, { accessFlags := 18, nameIndex := 17, descriptorIndex := 18, attributes := #[] }, { accessFlags := 2, nameIndex := 21, descriptorIndex := 22, attributes := #[] }, { accessFlags := 2, nameIndex := 25, descriptorIndex := 26, attributes := #[] }, { accessFlags := 26, nameIndex := 1116, descriptorIndex := 1117, attributes := #[] }, { accessFlags := 24, nameIndex := 40, descriptorIndex := 26, attributes := #[] }, { accessFlags := 26, nameIndex := 1101, descriptorIndex := 1102, attributes := #[] }, { accessFlags := 26, nameIndex := 1121, descriptorIndex := 1122, attributes := #[] }, { accessFlags := 25, nameIndex := 599, descriptorIndex := 600, attributes := #[] }, { accessFlags := 24, nameIndex := 1125, descriptorIndex := 18, attributes := #[] }, { accessFlags := 24, nameIndex := 1127, descriptorIndex := 18, attributes := #[] }])
  fields := #[{ name := "value", type := (.array .byte), accessFlags := 18, slot := 0, constantValue := 0 }, { name := "coder", type := .byte, accessFlags := 18, slot := 1, constantValue := 0 }, { name := "hash", type := .int, accessFlags := 2, slot := 2, constantValue := 0 }, { name := "hashIsZero", type := .boolean, accessFlags := 2, slot := 3, constantValue := 0 }, { name := "serialVersionUID", type := .long, accessFlags := 26, slot := 0, constantValue := 0 }, { name := "COMPACT_STRINGS", type := .boolean, accessFlags := 24, slot := 1, constantValue := 0 }, { name := "serialPersistentFields", type := (.array (.object "java/io/ObjectStreamField")), accessFlags := 26, slot := 2, constantValue := 0 }, { name := "REPL", type := .char, accessFlags := 26, slot := 3, constantValue := 0 }, { name := "CASE_INSENSITIVE_ORDER", type := (.object "java/util/Comparator"), accessFlags := 25, slot := 4, constantValue := 0 }, { name := "LATIN1", type := .byte, accessFlags := 24, slot := 5, constantValue := 0 }, { name := "UTF16", type := .byte, accessFlags := 24, slot := 6, constantValue := 0 }]
  methods := #[k9m0, k9m1, k9m2, k9m3, k9m4, k9m5, k9m6, k9m7]
  instanceTypes := #[(.array .byte), .byte, .int, .boolean]
  staticTypes := #[.long, .boolean, (.array (.object "java/io/ObjectStreamField")), .char, (.object "java/util/Comparator"), .byte, .byte]
  resolved := Array.replicate 1451 none
  statics := some 1 }

def pool10 : Array CpInfo := pool [(1, .class_ 2), (0, u "java/lang/Appendable"), (0, .class_ 4), (0, u "java/lang/Object")] 9

/-- java/lang/Appendable -/
def k10 : Class := { plain "java/lang/Appendable" (some 0) with
  accessFlags := 1537
  interfaces := #[]
  cf := some (fileOf pool10 1 #[] #[] 1537 3 #[] #[])
  fields := #[]
  methods := #[]
  instanceTypes := #[]
  staticTypes := #[]
  resolved := Array.replicate 14 none
  statics := none }

def pool11 : Array CpInfo := pool [(1, .class_ 2), (0, u "java/lang/String"), (0, .methodref 4 5), (0, .class_ 6), (0, .nameAndType 7 8), (0, u "java/lang/Object"), (0, u "<init>"), (0, u "()V"), (1, .class_ 12), (1, u "java/lang/AbstractStringBuilder"), (0, u "EMPTYVALUE"), (0, u "[B"), (0, .fieldref 10 16), (0, .nameAndType 17 14), (0, u "value"), (0, .fieldref 1 19), (0, .nameAndType 20 21), (0, u "COMPACT_STRINGS"), (0, u "Z"), (0, .fieldref 10 23), (0, .nameAndType 24 25), (0, u "coder"), (0, u "B"), (8, u "length"), (0, u "()I"), (9, u "append"), (2, .class_ 49), (0, u "java/lang/CharSequence"), (25, u "maybeLatin1"), (3, .fieldref 10 80), (0, .nameAndType 81 82), (0, u "count"), (0, u "I"), (0, .methodref 10 84), (0, .nameAndType 85 86), (0, u "isLatin1"), (0, u "()Z"), (1, .class_ 90), (1, u "java/lang/StringLatin1"), (9, .methodref 10 101), (0, .nameAndType 102 103), (0, u "ensureCapacityInternal"), (0, u "(I)V"), (87, .methodref 88 192), (0, .nameAndType 193 194), (0, u "canEncode"), (0, u "(C)Z"), (97, u "(C)Ljava/lang/AbstractStringBuilder;"), (110, u "()[B"), (40, .class_ 445), (0, u "java/lang/Appendable"), (106, u "getValue")] 56

def k11m0 : Method := { name := "<init>", desc := "()V", sig := { parameters := [], returnType := none }, accessFlags := 0, code := none }
def k11c1 : Code := { maxStack := 2, maxLocals := 2, code := jdk_68_method_2_code, exceptionTable := #[], attributes := #[] }
def k11m1 : Method := { name := "<init>", desc := "(I)V", sig := { parameters := [.int], returnType := none }, accessFlags := 0, code := some k11c1 }
def k11c2 : Code := { maxStack := 1, maxLocals := 1, code := jdk_68_method_6_code, exceptionTable := #[], attributes := #[] }
def k11m2 : Method := { name := "length", desc := "()I", sig := { parameters := [], returnType := some .int }, accessFlags := 1, code := some k11c2 }
def k11c3 : Code := { maxStack := 4, maxLocals := 3, code := jdk_68_method_9_code, exceptionTable := #[], attributes := #[] }
def k11m3 : Method := { name := "ensureCapacityInternal", desc := "(I)V", sig := { parameters := [.int], returnType := none }, accessFlags := 2, code := some k11c3 }
def k11c4 : Code := { maxStack := 5, maxLocals := 2, code := jdk_68_method_31_code, exceptionTable := #[], attributes := #[] }
def k11m4 : Method := { name := "append", desc := "(C)Ljava/lang/AbstractStringBuilder;", sig := { parameters := [.char], returnType := some (.object "java/lang/AbstractStringBuilder") }, accessFlags := 1, code := some k11c4 }
def k11c5 : Code := { maxStack := 1, maxLocals := 1, code := jdk_68_method_64_code, exceptionTable := #[], attributes := #[] }
def k11m5 : Method := { name := "getValue", desc := "()[B", sig := { parameters := [], returnType := some (.array .byte) }, accessFlags := 16, code := some k11c5 }
def k11c6 : Code := { maxStack := 1, maxLocals := 1, code := jdk_68_method_68_code, exceptionTable := #[], attributes := #[] }
def k11m6 : Method := { name := "isLatin1", desc := "()Z", sig := { parameters := [], returnType := some .boolean }, accessFlags := 16, code := some k11c6 }
/-- java/lang/AbstractStringBuilder -/
def k11 : Class := { plain "java/lang/AbstractStringBuilder" (some 0) with
  accessFlags := 1056
  interfaces := #[10, 7]
  cf := some (fileOf pool11 10 #[] #[{ accessFlags := 0, nameIndex := 7, descriptorIndex := 8, attributes := #[] }, { accessFlags := 0, nameIndex := 7, descriptorIndex := 103, attributes := #[] }, { accessFlags := 1, nameIndex := 34, descriptorIndex := 35, attributes := #[] }, { accessFlags := 2, nameIndex := 102, descriptorIndex := 103, attributes := #[] }, { accessFlags := 1, nameIndex := 45, descriptorIndex := 292, attributes := #[] }, { accessFlags := 16, nameIndex := 552, descriptorIndex := 403, attributes := #[] }, { accessFlags := 16, nameIndex := 85, descriptorIndex := 86, attributes := #[] }] 1056 4 #[444, 48] #[{ accessFlags := 0, nameIndex := 17, descriptorIndex := 14, attributes := #[] }, { accessFlags := 0, nameIndex := 24, descriptorIndex := 25, attributes := #[] }, { accessFlags := 0, nameIndex := 75, descriptorIndex := 21, attributes := #[] }, { accessFlags := 0, nameIndex := 81, descriptorIndex := 82, attributes := #[] }, { accessFlags := 26, nameIndex := 13, descriptorIndex := 14, attributes := #[] }])
  fields := #[{ name := "value", type := (.array .byte), accessFlags := 0, slot := 0, constantValue := 0 }, { name := "coder", type := .byte, accessFlags := 0, slot := 1, constantValue := 0 }, { name := "maybeLatin1", type := .boolean, accessFlags := 0, slot := 2, constantValue := 0 }, { name := "count", type := .int, accessFlags := 0, slot := 3, constantValue := 0 }, { name := "EMPTYVALUE", type := (.array .byte), accessFlags := 26, slot := 0, constantValue := 0 }]
  methods := #[k11m0, k11m1, k11m2, k11m3, k11m4, k11m5, k11m6]
  instanceTypes := #[(.array .byte), .byte, .boolean, .int]
  staticTypes := #[(.array .byte)]
  resolved := Array.replicate 609 none
  statics := none }

def pool12 : Array CpInfo := pool [(1, .methodref 2 3), (0, .class_ 4), (0, .nameAndType 5 6), (0, u "java/lang/AbstractStringBuilder"), (0, u "<init>"), (0, u "(I)V"), (11, .class_ 20), (1, u "java/lang/String"), (3, .class_ 26), (1, u "java/lang/StringBuilder"), (0, u "append"), (22, .methodref 2 51), (0, .nameAndType 27 52), (0, u "(C)Ljava/lang/AbstractStringBuilder;"), (84, .methodref 18 138), (0, .nameAndType 5 139), (0, u "(Ljava/lang/StringBuilder;)V"), (5, u "()V"), (10, u "()I"), (129, u "(C)Ljava/lang/StringBuilder;"), (56, .methodref 2 344), (0, .nameAndType 345 156), (0, u "length"), (3, .class_ 350), (0, u "java/lang/Appendable"), (0, .class_ 352), (0, u "java/io/Serializable"), (0, .class_ 354), (0, u "java/lang/Comparable"), (0, .class_ 356), (0, u "java/lang/CharSequence"), (0, u "serialVersionUID"), (0, u "J"), (40, u "toString"), (0, u "()Ljava/lang/String;")] 21

def k12m0 : Method := { name := "<init>", desc := "()V", sig := { parameters := [], returnType := none }, accessFlags := 1, code := none }
def k12c1 : Code := { maxStack := 2, maxLocals := 2, code := jdk_67_method_2_code, exceptionTable := #[], attributes := #[] }
def k12m1 : Method := { name := "<init>", desc := "(I)V", sig := { parameters := [.int], returnType := none }, accessFlags := 1, code := some k12c1 }
def k12c2 : Code := { maxStack := 2, maxLocals := 2, code := jdk_67_method_14_code, exceptionTable := #[], attributes := #[] }
def k12m2 : Method := { name := "append", desc := "(C)Ljava/lang/StringBuilder;", sig := { parameters := [.char], returnType := some (.object "java/lang/StringBuilder") }, accessFlags := 1, code := some k12c2 }
def k12c3 : Code := { maxStack := 3, maxLocals := 1, code := jdk_67_method_42_code, exceptionTable := #[], attributes := #[] }
def k12m3 : Method := { name := "toString", desc := "()Ljava/lang/String;", sig := { parameters := [], returnType := some (.object "java/lang/String") }, accessFlags := 1, code := some k12c3 }
def k12c4 : Code := { maxStack := 1, maxLocals := 1, code := jdk_67_method_93_code, exceptionTable := #[], attributes := #[] }
def k12m4 : Method := { name := "length", desc := "()I", sig := { parameters := [], returnType := some .int }, accessFlags := 4161, code := some k12c4 }
/-- java/lang/StringBuilder -/
def k12 : Class := { plain "java/lang/StringBuilder" (some 11) with
  accessFlags := 49
  interfaces := #[10, 4, 3, 7]
  cf := some (fileOf pool12 24 #[] #[{ accessFlags := 1, nameIndex := 5, descriptorIndex := 145, attributes := #[] }, { accessFlags := 1, nameIndex := 5, descriptorIndex := 6, attributes := #[] }, { accessFlags := 1, nameIndex := 27, descriptorIndex := 286, attributes := #[] }, { accessFlags := 1, nameIndex := 399, descriptorIndex := 400, attributes := #[] }, { accessFlags := 4161, nameIndex := 345, descriptorIndex := 156, attributes := #[] }] 49 2 #[349, 351, 353, 355] #[{ accessFlags := 24, nameIndex := 357, descriptorIndex := 358, attributes := #[] }])
  fields := #[{ name := "serialVersionUID", type := .long, accessFlags := 24, slot := 0, constantValue := 0 }]
  methods := #[k12m0, k12m1, k12m2, k12m3, k12m4]
  instanceTypes := #[(.array .byte), .byte, .boolean, .int]
  staticTypes := #[.long]
  resolved := Array.replicate 422 none
  statics := none }

def pool13 : Array CpInfo := pool [(1, .class_ 2), (0, u "java/lang/String"), (1, .class_ 6), (1, u "java/lang/Object"), (0, u "<init>"), (0, u "()V"), (0, .methodref 1 10), (0, .nameAndType 11 12), (0, u "checkIndex"), (0, u "(II)V"), (1, .class_ 16), (1, u "java/lang/StringLatin1"), (36, u "([BI)C"), (36, u "canEncode"), (14, u "(C)Z"), (15, u "$assertionsDisabled"), (0, u "Z"), (98, .class_ 223), (1, u "java/lang/StringLatin1$LinesSpliterator"), (28, u "charAt"), (137, .class_ 391), (0, u "java/lang/StringLatin1$CharsSpliterator")] 3

def k13m0 : Method := { name := "<init>", desc := "()V", sig := { parameters := [], returnType := none }, accessFlags := 0, code := none }
def k13c1 : Code := { maxStack := 2, maxLocals := 2, code := jdk_43_method_2_code, exceptionTable := #[], attributes := #[] }
def k13m1 : Method := { name := "charAt", desc := "([BI)C", sig := { parameters := [(.array .byte), .int], returnType := some .char }, accessFlags := 9, code := some k13c1 }
def k13c2 : Code := { maxStack := 2, maxLocals := 1, code := jdk_43_method_3_code, exceptionTable := #[], attributes := #[] }
def k13m2 : Method := { name := "canEncode", desc := "(C)Z", sig := { parameters := [.char], returnType := some .boolean }, accessFlags := 9, code := some k13c2 }
/-- java/lang/StringLatin1 -/
def k13 : Class := { plain "java/lang/StringLatin1" (some 0) with
  accessFlags := 48
  interfaces := #[]
  cf := some (fileOf pool13 14 #[.nestMembers #[390, 221]] #[{ accessFlags := 0, nameIndex := 7, descriptorIndex := 8, attributes := #[] }, { accessFlags := 9, nameIndex := 252, descriptorIndex := 53, attributes := #[] }, { accessFlags := 9, nameIndex := 90, descriptorIndex := 105, attributes := #[] }] 48 4 #[] #[{ accessFlags := 4120, nameIndex := 121, descriptorIndex := 122, attributes := #[] }])
  fields := #[{ name := "$assertionsDisabled", type := .boolean, accessFlags := 4120, slot := 0, constantValue := 0 }]
  methods := #[k13m0, k13m1, k13m2]
  instanceTypes := #[]
  staticTypes := #[.boolean]
  resolved := Array.replicate 395 none
  statics := none }

def pool14 : Array CpInfo := pool [(2, .class_ 4), (1, u "java/lang/Object"), (0, u "<init>"), (0, u "()V"), (7, .class_ 16), (1, u "java/util/Arrays"), (57, .class_ 76), (1, u "java/util/Arrays$NaturalOrder"), (32, u "()Ljava/lang/Object;"), (3, .class_ 115), (1, u "java/util/Arrays$LegacyMergeSort"), (1, u "Z"), (10, .nameAndType 129 109), (0, u "clone"), (9, u "copyOfRange"), (170, .methodref 311 128), (0, .class_ 312), (0, u "[B"), (29, u "([BII)[B"), (32, .class_ 376), (0, u "java/util/Arrays$ArrayList"), (68, u "$assertionsDisabled"), (269, u "MIN_ARRAY_SORT_GRAN"), (0, u "I"), (2, u "INSERTIONSORT_THRESHOLD"), (255, .class_ 976), (0, u "java/util/Arrays$ArrayItr")] 52

def k14m0 : Method := { name := "<init>", desc := "()V", sig := { parameters := [], returnType := none }, accessFlags := 2, code := none }
def k14c1 : Code := { maxStack := 3, maxLocals := 3, code := jdk_65_method_132_code, exceptionTable := #[], attributes := #[] }
def k14m1 : Method := { name := "copyOfRange", desc := "([BII)[B", sig := { parameters := [(.array .byte), .int, .int], returnType := some (.array .byte) }, accessFlags := 9, code := some k14c1 }
/-- java/util/Arrays -/
def k14 : Class := { plain "java/util/Arrays" (some 0) with
  accessFlags := 49
  interfaces := #[]
  cf := some (fileOf pool14 14 #[.nestMembers #[975, 375, 113, 74]] #[{ accessFlags := 2, nameIndex := 5, descriptorIndex := 6, attributes := #[] }, { accessFlags := 9, nameIndex := 139, descriptorIndex := 342, attributes := #[] }] 49 2 #[] #[{ accessFlags := 26, nameIndex := 715, descriptorIndex := 716, attributes := #[] }, { accessFlags := 26, nameIndex := 719, descriptorIndex := 716, attributes := #[] }, { accessFlags := 4120, nameIndex := 445, descriptorIndex := 117, attributes := #[] }])
  fields := #[{ name := "MIN_ARRAY_SORT_GRAN", type := .int, accessFlags := 26, slot := 0, constantValue := 0 }, { name := "INSERTIONSORT_THRESHOLD", type := .int, accessFlags := 26, slot := 1, constantValue := 0 }, { name := "$assertionsDisabled", type := .boolean, accessFlags := 4120, slot := 2, constantValue := 0 }]
  methods := #[k14m0, k14m1]
  instanceTypes := #[]
  staticTypes := #[.int, .int, .boolean]
  resolved := Array.replicate 1029 none
  statics := none }

def pool15 : Array CpInfo := pool [(1, .class_ 2), (0, u "java/lang/Cloneable"), (0, .class_ 4), (0, u "java/lang/Object")] 2

/-- java/lang/Cloneable -/
def k15 : Class := { plain "java/lang/Cloneable" (some 0) with
  accessFlags := 1537
  interfaces := #[]
  cf := some (fileOf pool15 1 #[] #[] 1537 3 #[] #[])
  fields := #[]
  methods := #[]
  instanceTypes := #[]
  staticTypes := #[]
  resolved := Array.replicate 7 none
  statics := none }

def pool16 : Array CpInfo := pool [(2, .class_ 4), (1, u "java/lang/Object"), (0, u "<init>"), (0, u "()V"), (17, .class_ 26), (1, u "jdk/internal/util/Preconditions"), (6, u "checkIndex"), (21, .class_ 56), (0, u "jdk/internal/util/Preconditions$4"), (57, .class_ 115), (0, u "jdk/internal/util/Preconditions$1"), (7, u "SIOOBE_FORMATTER"), (0, u "Ljava/util/function/BiFunction;"), (0, .class_ 126), (0, u "jdk/internal/util/Preconditions$2"), (3, u "AIOOBE_FORMATTER"), (0, .class_ 132), (0, u "jdk/internal/util/Preconditions$3"), (3, u "IOOBE_FORMATTER"), (41, u "(IILjava/util/function/BiFunction;)I")] 15

def k16m0 : Method := { name := "<init>", desc := "()V", sig := { parameters := [], returnType := none }, accessFlags := 1, code := none }
def k16c1 : Code := { maxStack := 3, maxLocals := 3, code := jdk_41_method_11_code, exceptionTable := #[], attributes := #[] }
def k16m1 : Method := { name := "checkIndex", desc := "(IILjava/util/function/BiFunction;)I", sig := { parameters := [.int, .int, (.object "java/util/function/BiFunction")], returnType := some .int }, accessFlags := 9, code := some k16c1 }
/-- jdk/internal/util/Preconditions -/
def k16 : Class := { plain "jdk/internal/util/Preconditions" (some 0) with
  accessFlags := 33
  interfaces := #[]
  cf := some (fileOf pool16 24 #[.nestMembers #[55, 131, 125, 114]] #[{ accessFlags := 1, nameIndex := 5, descriptorIndex := 6, attributes := #[] }, { accessFlags := 9, nameIndex := 33, descriptorIndex := 178, attributes := #[] }] 33 2 #[] #[{ accessFlags := 25, nameIndex := 123, descriptorIndex := 124, attributes := #[] }, { accessFlags := 25, nameIndex := 130, descriptorIndex := 124, attributes := #[] }, { accessFlags := 25, nameIndex := 136, descriptorIndex := 124, attributes := #[] }])
  fields := #[{ name := "SIOOBE_FORMATTER", type := (.object "java/util/function/BiFunction"), accessFlags := 25, slot := 0, constantValue := 0 }, { name := "AIOOBE_FORMATTER", type := (.object "java/util/function/BiFunction"), accessFlags := 25, slot := 1, constantValue := 0 }, { name := "IOOBE_FORMATTER", type := (.object "java/util/function/BiFunction"), accessFlags := 25, slot := 2, constantValue := 0 }]
  methods := #[k16m0, k16m1]
  instanceTypes := #[]
  staticTypes := #[(.object "java/util/function/BiFunction"), (.object "java/util/function/BiFunction"), (.object "java/util/function/BiFunction")]
  resolved := Array.replicate 194 none
  statics := some 2 }

def pool17 : Array CpInfo := pool [(9, u "<init>"), (6, .class_ 18), (1, u "java/lang/Object"), (0, u "()V"), (1, .class_ 23), (1, u "jdk/internal/util/ArraysSupport"), (0, u "LOG2_ARRAY_LONG_INDEX_SCALE"), (0, u "I"), (2, u "U"), (0, u "Ljdk/internal/misc/Unsafe;"), (8, u "BIG_ENDIAN"), (0, u "Z"), (8, u "LOG2_BYTE_BIT_SIZE"), (4, u "LOG2_ARRAY_INT_INDEX_SCALE"), (54, u "JLA"), (0, u "Ljdk/internal/access/JavaLangAccess;"), (11, u "LOG2_ARRAY_BOOLEAN_INDEX_SCALE"), (9, u "LOG2_ARRAY_BYTE_INDEX_SCALE"), (5, u "LOG2_ARRAY_CHAR_INDEX_SCALE"), (5, u "LOG2_ARRAY_SHORT_INDEX_SCALE"), (18, u "LOG2_ARRAY_FLOAT_INDEX_SCALE"), (24, u "LOG2_ARRAY_DOUBLE_INDEX_SCALE"), (89, u "T_BOOLEAN"), (2, u "T_CHAR"), (1, u "T_FLOAT"), (1, u "T_DOUBLE"), (1, u "T_BYTE"), (1, u "T_SHORT"), (1, u "T_INT"), (1, u "T_LONG"), (1, u "SOFT_MAX_ARRAY_LENGTH")] 83

def k17m0 : Method := { name := "<init>", desc := "()V", sig := { parameters := [], returnType := none }, accessFlags := 2, code := none }
/-- jdk/internal/util/ArraysSupport -/
def k17 : Class := { plain "jdk/internal/util/ArraysSupport" (some 0) with
  accessFlags := 33
  interfaces := #[]
  cf := some (fileOf pool17 21 #[] #[{ accessFlags := 2, nameIndex := 9, descriptorIndex := 19, attributes := #[] }] 33 16 #[] #[{ accessFlags := 24, nameIndex := 28, descriptorIndex := 29, attributes := #[] }, { accessFlags := 26, nameIndex := 38, descriptorIndex := 39, attributes := #[] }, { accessFlags := 25, nameIndex := 121, descriptorIndex := 25, attributes := #[] }, { accessFlags := 25, nameIndex := 131, descriptorIndex := 25, attributes := #[] }, { accessFlags := 25, nameIndex := 137, descriptorIndex := 25, attributes := #[] }, { accessFlags := 25, nameIndex := 143, descriptorIndex := 25, attributes := #[] }, { accessFlags := 25, nameIndex := 53, descriptorIndex := 25, attributes := #[] }, { accessFlags := 25, nameIndex := 24, descriptorIndex := 25, attributes := #[] }, { accessFlags := 25, nameIndex := 162, descriptorIndex := 25, attributes := #[] }, { accessFlags := 25, nameIndex := 187, descriptorIndex := 25, attributes := #[] }, { accessFlags := 26, nameIndex := 48, descriptorIndex := 25, attributes := #[] }, { accessFlags := 25, nameIndex := 277, descriptorIndex := 25, attributes := #[] }, { accessFlags := 25, nameIndex := 280, descriptorIndex := 25, attributes := #[] }, { accessFlags := 25, nameIndex := 282, descriptorIndex := 25, attributes := #[] }, { accessFlags := 25, nameIndex := 284, descriptorIndex := 25, attributes := #[] }, { accessFlags := 25, nameIndex := 286, descriptorIndex := 25, attributes := #[] }, { accessFlags := 25, nameIndex := 288, descriptorIndex := 25, attributes := #[] }, { accessFlags := 25, nameIndex := 290, descriptorIndex := 25, attributes := #[] }, { accessFlags := 25, nameIndex := 292, descriptorIndex := 25, attributes := #[] }, { accessFlags := 26, nameIndex := 108, descriptorIndex := 109, attributes := #[] }, { accessFlags := 25, nameIndex := 294, descriptorIndex := 25, attributes := #[] }])
  fields := #[{ name := "U", type := (.object "jdk/internal/misc/Unsafe"), accessFlags := 24, slot := 0, constantValue := 0 }, { name := "BIG_ENDIAN", type := .boolean, accessFlags := 26, slot := 1, constantValue := 0 }, { name := "LOG2_ARRAY_BOOLEAN_INDEX_SCALE", type := .int, accessFlags := 25, slot := 2, constantValue := 0 }, { name := "LOG2_ARRAY_BYTE_INDEX_SCALE", type := .int, accessFlags := 25, slot := 3, constantValue := 0 }, { name := "LOG2_ARRAY_CHAR_INDEX_SCALE", type := .int, accessFlags := 25, slot := 4, constantValue := 0 }, { name := "LOG2_ARRAY_SHORT_INDEX_SCALE", type := .int, accessFlags := 25, slot := 5, constantValue := 0 }, { name := "LOG2_ARRAY_INT_INDEX_SCALE", type := .int, accessFlags := 25, slot := 6, constantValue := 0 }, { name := "LOG2_ARRAY_LONG_INDEX_SCALE", type := .int, accessFlags := 25, slot := 7, constantValue := 0 }, { name := "LOG2_ARRAY_FLOAT_INDEX_SCALE", type := .int, accessFlags := 25, slot := 8, constantValue := 0 }, { name := "LOG2_ARRAY_DOUBLE_INDEX_SCALE", type := .int, accessFlags := 25, slot := 9, constantValue := 0 }, { name := "LOG2_BYTE_BIT_SIZE", type := .int, accessFlags := 26, slot := 10, constantValue := 0 }, { name := "T_BOOLEAN", type := .int, accessFlags := 25, slot := 11, constantValue := 0 }, { name := "T_CHAR", type := .int, accessFlags := 25, slot := 12, constantValue := 0 }, { name := "T_FLOAT", type := .int, accessFlags := 25, slot := 13, constantValue := 0 }, { name := "T_DOUBLE", type := .int, accessFlags := 25, slot := 14, constantValue := 0 }, { name := "T_BYTE", type := .int, accessFlags := 25, slot := 15, constantValue := 0 }, { name := "T_SHORT", type := .int, accessFlags := 25, slot := 16, constantValue := 0 }, { name := "T_INT", type := .int, accessFlags := 25, slot := 17, constantValue := 0 }, { name := "T_LONG", type := .int, accessFlags := 25, slot := 18, constantValue := 0 }, { name := "JLA", type := (.object "jdk/internal/access/JavaLangAccess"), accessFlags := 26, slot := 19, constantValue := 0 }, { name := "SOFT_MAX_ARRAY_LENGTH", type := .int, accessFlags := 25, slot := 20, constantValue := 0 }]
  methods := #[k17m0]
  instanceTypes := #[]
  staticTypes := #[(.object "jdk/internal/misc/Unsafe"), .boolean, .int, .int, .int, .int, .int, .int, .int, .int, .int, .int, .int, .int, .int, .int, .int, .int, .int, (.object "jdk/internal/access/JavaLangAccess"), .int]
  resolved := Array.replicate 378 none
  statics := none }

/-- the primitive byte -/
def k18 : Class := { plain "byte" none with kind := .primitive 'B', accessFlags := 0x411 }
/-- [B -/
def k19 : Class := { plain "[B" (some 0) with kind := .array 18 .byte, interfaces := #[15, 4], accessFlags := 1041 }

/-- the primitive int -/
def k20 : Class := { plain "int" none with kind := .primitive 'I', accessFlags := 0x411 }
/-- [I -/
def k21 : Class := { plain "[I" (some 0) with kind := .array 20 .int, interfaces := #[15, 4], accessFlags := 1041 }

def heap : Heap := #[{ cls := 6, slots := #[.ref 3, .ref 4, .ref 5, .null], vm := .statics 6 },
  { cls := 9, slots := #[.long 0, .int 1, .null, .int 0, .null, .int 0, .int 0], vm := .statics 9 },
  { cls := 16, slots := #[.null, .null, .null], vm := .statics 16 },
  { cls := 6, slots := #[.null, .int 0, .int 0, .int 39], vm := .none },
  { cls := 6, slots := #[.null, .int 1, .int 0, .int 34], vm := .none },
  { cls := 6, slots := #[.null, .int 2, .int 0, .int 96], vm := .none }]
def classes : Array Class := #[k0, k1, k2, k3, k4, k5, k6, k7, k8, k9, k10, k11, k12, k13, k14, k15, k16, k17, k18, k19, k20, k21]
def interned : List (Array UInt16 × Addr) := []
def slotsUsed : Nat := 26
def theMethod : MethodId := ⟨1, 1⟩
def args0 : Array Value := #[.int 3, .int 65]
def aboutOver (below : List Frame) : State where
  vm := { classes := classes, interned := interned.toArray }
  heap := heap
  slotsUsed := slotsUsed
  threads := #[{ frames := .invoking theMethod args0 :: below }]
def below0 : List Frame := [.native { method := ⟨0, 0⟩, args := #[] }]
def about1 : State := aboutOver below0
def p0 : Program := .bare "" "" ""
def e0 : Env := launch0.env 0 0 0
theorem w_frames : about1.frames = Frame.invoking theMethod args0 :: below0 := rfl
set_option maxRecDepth 65536 in
theorem w_args : argsFit about1.vm theMethod args0 = true := by decide +kernel
set_option maxRecDepth 65536 in
theorem w_heap : heapFits about1 = true := by decide +kernel
set_option maxRecDepth 65536 in
theorem w_runnable : about1.curStatus? = some .runnable := by decide +kernel
set_option maxRecDepth 65536 in
theorem w_alone : about1.alone = true := by decide +kernel
set_option maxRecDepth 65536 in
theorem w_named : about1.methodNamed? x = some theMethod := by decide +kernel
set_option maxRecDepth 65536 in
theorem w_hears : about1.hears theMethod below0 = true := by decide +kernel
set_option maxRecDepth 65536 in
theorem w_ripe : about1.ripe theMethod args0 below0 = true := by decide +kernel
theorem w_running : about1.status = .running := rfl
set_option maxRecDepth 65536 in
theorem w_room : about1.hasRoom e0.platform room_1 = true :=
  launch0.hasRoom_least _ room_1 (by decide +kernel) (by decide +kernel) (by decide +kernel) (by decide +kernel) (by decide +kernel) (by decide +kernel)
theorem allAtoms_all (ts : List Jvm.Cond) (a : Array Jvm.Value) (st : Jvm.State) : (allAtoms ts).before a st = ts.all (fun c => c.before a st) := by
  induction ts with
  | nil => rfl
  | cons c t ih =>
    show (Jvm.Cond.and c (allAtoms t)).before a st = _
    rw [Jvm.Cond.before_and, ih, List.all_cons]
def words1 : List Jvm.Cond := Jvm.Cond.code x code maxLocals ret :: tables_1
/-- a 'code' word, met by the world's own term for the bytes: nothing is compared byte by byte -/
theorem code_word {y : MethodName} {bytes : ByteArray} {mx : Nat} {rt : Option FieldType} {a : Array Value} {s : State} {m : MethodId} {meth : Method} {c : Code} (h1 : s.methodNamed? y = some m) (h2 : s.vm.method? m = some meth) (h3 : meth.code = some c) (h4 : c.code = bytes)
    (h5 : (c.maxLocals == mx && c.exceptionTable.isEmpty && decide (c.maxStack ≤ mostOperands) && decide (meth.sig.returnType = rt) && !meth.locks && decide (parseMethodDescriptor y.desc = some meth.sig)) = true) : (Jvm.Cond.code y bytes mx rt).before a s = true := by
  simp only [Bool.and_eq_true, beq_iff_eq, Bool.not_eq_true', decide_eq_true_eq] at h5
  obtain ⟨⟨⟨⟨⟨g1, g2⟩, g3⟩, g4⟩, g5⟩, g6⟩ := h5
  simp [Cond.before, Cond.holds, Cond.value, h1, h2, h3, h4, g1, g2, g3, g4, g5, g6]
def isCode : Jvm.Cond → Bool
  | .code _ _ _ _ => true
  | _ => false
theorem all_split {L : List Jvm.Cond} {P : Jvm.Cond → Bool} (h1 : L.all (fun c => isCode c || P c) = true) (h2 : ∀ c ∈ L.filter isCode, P c = true) : L.all P = true := by
  refine List.all_eq_true.mpr fun c hc => ?_
  have h := List.all_eq_true.mp h1 c hc
  rcases Bool.eq_false_or_eq_true (isCode c) with hi | hi
  · exact h2 c (List.mem_filter.mpr ⟨hc, hi⟩)
  · simpa [hi] using h
set_option maxRecDepth 65536 in
theorem w_c0 : (Jvm.Cond.code x code maxLocals ret).before args0 about1 = true := code_word (m := ⟨1, 1⟩) (meth := k1m1) (c := k1c1) (by decide +kernel) rfl rfl rfl (by decide +kernel)
set_option maxRecDepth 65536 in
theorem w_c1 : (Jvm.Cond.code ({ cls := "com/example/coersa/coersa/Quote", name := "openedBy", desc := "(C)Lcom/example/coersa/coersa/Quote;" } : Jvm.MethodName) prog_237_method_5_code (1 : Nat) (Option.some (Jvm.ClassFile.FieldType.object "com/example/coersa/coersa/Quote"))).before args0 about1 = true := code_word (m := ⟨6, 1⟩) (meth := k6m1) (c := k6c1) (by decide +kernel) rfl rfl rfl (by decide +kernel)
set_option maxRecDepth 65536 in
theorem w_c2 : (Jvm.Cond.code ({ cls := "com/example/coersa/coersa/Quote", name := "enclose", desc := "(Ljava/lang/String;)Ljava/lang/String;" } : Jvm.MethodName) prog_237_method_10_code (5 : Nat) (Option.some (Jvm.ClassFile.FieldType.object "java/lang/String"))).before args0 about1 = true := code_word (m := ⟨6, 2⟩) (meth := k6m2) (c := k6c2) (by decide +kernel) rfl rfl rfl (by decide +kernel)
set_option maxRecDepth 65536 in
theorem w_c3 : (Jvm.Cond.code ({ cls := "java/lang/String", name := "length", desc := "()I" } : Jvm.MethodName) jdk_42_method_54_code (1 : Nat) (Option.some Jvm.ClassFile.FieldType.int)).before args0 about1 = true := code_word (m := ⟨9, 2⟩) (meth := k9m2) (c := k9c2) (by decide +kernel) rfl rfl rfl (by decide +kernel)
set_option maxRecDepth 65536 in
theorem w_c4 : (Jvm.Cond.code ({ cls := "java/lang/String", name := "coder", desc := "()B" } : Jvm.MethodName) jdk_42_method_152_code (1 : Nat) (Option.some Jvm.ClassFile.FieldType.byte)).before args0 about1 = true := code_word (m := ⟨9, 5⟩) (meth := k9m5) (c := k9c5) (by decide +kernel) rfl rfl rfl (by decide +kernel)
set_option maxRecDepth 65536 in
theorem w_c5 : (Jvm.Cond.code ({ cls := "java/lang/StringBuilder", name := "<init>", desc := "(I)V" } : Jvm.MethodName) jdk_67_method_2_code (2 : Nat) (Option.none : Option Jvm.ClassFile.FieldType)).before args0 about1 = true := code_word (m := ⟨12, 1⟩) (meth := k12m1) (c := k12c1) (by decide +kernel) rfl rfl rfl (by decide +kernel)
set_option maxRecDepth 65536 in
theorem w_c6 : (Jvm.Cond.code ({ cls := "java/lang/AbstractStringBuilder", name := "<init>", desc := "(I)V" } : Jvm.MethodName) jdk_68_method_2_code (2 : Nat) (Option.none : Option Jvm.ClassFile.FieldType)).before args0 about1 = true := code_word (m := ⟨11, 1⟩) (meth := k11m1) (c := k11c1) (by decide +kernel) rfl rfl rfl (by decide +kernel)
set_option maxRecDepth 65536 in
theorem w_c7 : (Jvm.Cond.code ({ cls := "java/lang/Object", name := "<init>", desc := "()V" } : Jvm.MethodName) object_method_1_code (1 : Nat) (Option.none : Option Jvm.ClassFile.FieldType)).before args0 about1 = true := code_word (m := ⟨0, 0⟩) (meth := k0m0) (c := k0c0) (by decide +kernel) rfl rfl rfl (by decide +kernel)
set_option maxRecDepth 65536 in
theorem w_c8 : (Jvm.Cond.code ({ cls := "java/lang/StringBuilder", name := "append", desc := "(C)Ljava/lang/StringBuilder;" } : Jvm.MethodName) jdk_67_method_14_code (2 : Nat) (Option.some (Jvm.ClassFile.FieldType.object "java/lang/StringBuilder"))).before args0 about1 = true := code_word (m := ⟨12, 2⟩) (meth := k12m2) (c := k12c2) (by decide +kernel) rfl rfl rfl (by decide +kernel)
set_option maxRecDepth 65536 in
theorem w_c9 : (Jvm.Cond.code ({ cls := "java/lang/AbstractStringBuilder", name := "append", desc := "(C)Ljava/lang/AbstractStringBuilder;" } : Jvm.MethodName) jdk_68_method_31_code (2 : Nat) (Option.some (Jvm.ClassFile.FieldType.object "java/lang/AbstractStringBuilder"))).before args0 about1 = true := code_word (m := ⟨11, 4⟩) (meth := k11m4) (c := k11c4) (by decide +kernel) rfl rfl rfl (by decide +kernel)
set_option maxRecDepth 65536 in
theorem w_c10 : (Jvm.Cond.code ({ cls := "java/lang/AbstractStringBuilder", name := "ensureCapacityInternal", desc := "(I)V" } : Jvm.MethodName) jdk_68_method_9_code (3 : Nat) (Option.none : Option Jvm.ClassFile.FieldType)).before args0 about1 = true := code_word (m := ⟨11, 3⟩) (meth := k11m3) (c := k11c3) (by decide +kernel) rfl rfl rfl (by decide +kernel)
set_option maxRecDepth 65536 in
theorem w_c11 : (Jvm.Cond.code ({ cls := "java/lang/AbstractStringBuilder", name := "isLatin1", desc := "()Z" } : Jvm.MethodName) jdk_68_method_68_code (1 : Nat) (Option.some Jvm.ClassFile.FieldType.boolean)).before args0 about1 = true := code_word (m := ⟨11, 6⟩) (meth := k11m6) (c := k11c6) (by decide +kernel) rfl rfl rfl (by decide +kernel)
set_option maxRecDepth 65536 in
theorem w_c12 : (Jvm.Cond.code ({ cls := "java/lang/StringLatin1", name := "canEncode", desc := "(C)Z" } : Jvm.MethodName) jdk_43_method_3_code (1 : Nat) (Option.some Jvm.ClassFile.FieldType.boolean)).before args0 about1 = true := code_word (m := ⟨13, 2⟩) (meth := k13m2) (c := k13c2) (by decide +kernel) rfl rfl rfl (by decide +kernel)
set_option maxRecDepth 65536 in
theorem w_c13 : (Jvm.Cond.code ({ cls := "java/lang/StringBuilder", name := "toString", desc := "()Ljava/lang/String;" } : Jvm.MethodName) jdk_67_method_42_code (1 : Nat) (Option.some (Jvm.ClassFile.FieldType.object "java/lang/String"))).before args0 about1 = true := code_word (m := ⟨12, 3⟩) (meth := k12m3) (c := k12c3) (by decide +kernel) rfl rfl rfl (by decide +kernel)
set_option maxRecDepth 65536 in
theorem w_c14 : (Jvm.Cond.code ({ cls := "java/lang/String", name := "<init>", desc := "(Ljava/lang/StringBuilder;)V" } : Jvm.MethodName) jdk_42_method_53_code (2 : Nat) (Option.none : Option Jvm.ClassFile.FieldType)).before args0 about1 = true := code_word (m := ⟨9, 1⟩) (meth := k9m1) (c := k9c1) (by decide +kernel) rfl rfl rfl (by decide +kernel)
set_option maxRecDepth 65536 in
theorem w_c15 : (Jvm.Cond.code ({ cls := "java/lang/String", name := "<init>", desc := "(Ljava/lang/AbstractStringBuilder;Ljava/lang/Void;)V" } : Jvm.MethodName) jdk_42_method_150_code (5 : Nat) (Option.none : Option Jvm.ClassFile.FieldType)).before args0 about1 = true := code_word (m := ⟨9, 4⟩) (meth := k9m4) (c := k9c4) (by decide +kernel) rfl rfl rfl (by decide +kernel)
set_option maxRecDepth 65536 in
theorem w_c16 : (Jvm.Cond.code ({ cls := "java/lang/AbstractStringBuilder", name := "getValue", desc := "()[B" } : Jvm.MethodName) jdk_68_method_64_code (1 : Nat) (Option.some (Jvm.ClassFile.FieldType.array Jvm.ClassFile.FieldType.byte))).before args0 about1 = true := code_word (m := ⟨11, 5⟩) (meth := k11m5) (c := k11c5) (by decide +kernel) rfl rfl rfl (by decide +kernel)
set_option maxRecDepth 65536 in
theorem w_c17 : (Jvm.Cond.code ({ cls := "java/lang/StringBuilder", name := "length", desc := "()I" } : Jvm.MethodName) jdk_67_method_93_code (1 : Nat) (Option.some Jvm.ClassFile.FieldType.int)).before args0 about1 = true := code_word (m := ⟨12, 4⟩) (meth := k12m4) (c := k12c4) (by decide +kernel) rfl rfl rfl (by decide +kernel)
set_option maxRecDepth 65536 in
theorem w_c18 : (Jvm.Cond.code ({ cls := "java/lang/AbstractStringBuilder", name := "length", desc := "()I" } : Jvm.MethodName) jdk_68_method_6_code (1 : Nat) (Option.some Jvm.ClassFile.FieldType.int)).before args0 about1 = true := code_word (m := ⟨11, 2⟩) (meth := k11m2) (c := k11c2) (by decide +kernel) rfl rfl rfl (by decide +kernel)
set_option maxRecDepth 65536 in
theorem w_c19 : (Jvm.Cond.code ({ cls := "java/util/Arrays", name := "copyOfRange", desc := "([BII)[B" } : Jvm.MethodName) jdk_65_method_132_code (3 : Nat) (Option.some (Jvm.ClassFile.FieldType.array Jvm.ClassFile.FieldType.byte))).before args0 about1 = true := code_word (m := ⟨14, 1⟩) (meth := k14m1) (c := k14c1) (by decide +kernel) rfl rfl rfl (by decide +kernel)
set_option maxRecDepth 65536 in
theorem w_c20 : (Jvm.Cond.code ({ cls := "java/lang/String", name := "charAt", desc := "(I)C" } : Jvm.MethodName) jdk_42_method_56_code (2 : Nat) (Option.some Jvm.ClassFile.FieldType.char)).before args0 about1 = true := code_word (m := ⟨9, 3⟩) (meth := k9m3) (c := k9c3) (by decide +kernel) rfl rfl rfl (by decide +kernel)
set_option maxRecDepth 65536 in
theorem w_c21 : (Jvm.Cond.code ({ cls := "java/lang/String", name := "isLatin1", desc := "()Z" } : Jvm.MethodName) jdk_42_method_154_code (1 : Nat) (Option.some Jvm.ClassFile.FieldType.boolean)).before args0 about1 = true := code_word (m := ⟨9, 6⟩) (meth := k9m6) (c := k9c6) (by decide +kernel) rfl rfl rfl (by decide +kernel)
set_option maxRecDepth 65536 in
theorem w_c22 : (Jvm.Cond.code ({ cls := "java/lang/StringLatin1", name := "charAt", desc := "([BI)C" } : Jvm.MethodName) jdk_43_method_2_code (2 : Nat) (Option.some Jvm.ClassFile.FieldType.char)).before args0 about1 = true := code_word (m := ⟨13, 1⟩) (meth := k13m1) (c := k13c1) (by decide +kernel) rfl rfl rfl (by decide +kernel)
set_option maxRecDepth 65536 in
theorem w_c23 : (Jvm.Cond.code ({ cls := "java/lang/String", name := "checkIndex", desc := "(II)V" } : Jvm.MethodName) jdk_42_method_155_code (2 : Nat) (Option.none : Option Jvm.ClassFile.FieldType)).before args0 about1 = true := code_word (m := ⟨9, 7⟩) (meth := k9m7) (c := k9c7) (by decide +kernel) rfl rfl rfl (by decide +kernel)
set_option maxRecDepth 65536 in
theorem w_c24 : (Jvm.Cond.code ({ cls := "jdk/internal/util/Preconditions", name := "checkIndex", desc := "(IILjava/util/function/BiFunction;)I" } : Jvm.MethodName) jdk_41_method_11_code (3 : Nat) (Option.some Jvm.ClassFile.FieldType.int)).before args0 about1 = true := code_word (m := ⟨16, 1⟩) (meth := k16m1) (c := k16c1) (by decide +kernel) rfl rfl rfl (by decide +kernel)
set_option maxRecDepth 65536 in
theorem w_c25 : (Jvm.Cond.code ({ cls := "com/example/coersa/coersa/Quote", name := "isName", desc := "()Z" } : Jvm.MethodName) prog_237_method_4_code (1 : Nat) (Option.some Jvm.ClassFile.FieldType.boolean)).before args0 about1 = true := code_word (m := ⟨6, 0⟩) (meth := k6m0) (c := k6c0) (by decide +kernel) rfl rfl rfl (by decide +kernel)
def codes1 : List Jvm.Cond := [Jvm.Cond.code x code maxLocals ret, Jvm.Cond.code ({ cls := "com/example/coersa/coersa/Quote", name := "openedBy", desc := "(C)Lcom/example/coersa/coersa/Quote;" } : Jvm.MethodName) prog_237_method_5_code (1 : Nat) (Option.some (Jvm.ClassFile.FieldType.object "com/example/coersa/coersa/Quote")), Jvm.Cond.code ({ cls := "com/example/coersa/coersa/Quote", name := "enclose", desc := "(Ljava/lang/String;)Ljava/lang/String;" } : Jvm.MethodName) prog_237_method_10_code (5 : Nat) (Option.some (Jvm.ClassFile.FieldType.object "java/lang/String")), Jvm.Cond.code ({ cls := "java/lang/String", name := "length", desc := "()I" } : Jvm.MethodName) jdk_42_method_54_code (1 : Nat) (Option.some Jvm.ClassFile.FieldType.int), Jvm.Cond.code ({ cls := "java/lang/String", name := "coder", desc := "()B" } : Jvm.MethodName) jdk_42_method_152_code (1 : Nat) (Option.some Jvm.ClassFile.FieldType.byte), Jvm.Cond.code ({ cls := "java/lang/StringBuilder", name := "<init>", desc := "(I)V" } : Jvm.MethodName) jdk_67_method_2_code (2 : Nat) (Option.none : Option Jvm.ClassFile.FieldType), Jvm.Cond.code ({ cls := "java/lang/AbstractStringBuilder", name := "<init>", desc := "(I)V" } : Jvm.MethodName) jdk_68_method_2_code (2 : Nat) (Option.none : Option Jvm.ClassFile.FieldType), Jvm.Cond.code ({ cls := "java/lang/Object", name := "<init>", desc := "()V" } : Jvm.MethodName) object_method_1_code (1 : Nat) (Option.none : Option Jvm.ClassFile.FieldType), Jvm.Cond.code ({ cls := "java/lang/StringBuilder", name := "append", desc := "(C)Ljava/lang/StringBuilder;" } : Jvm.MethodName) jdk_67_method_14_code (2 : Nat) (Option.some (Jvm.ClassFile.FieldType.object "java/lang/StringBuilder")), Jvm.Cond.code ({ cls := "java/lang/AbstractStringBuilder", name := "append", desc := "(C)Ljava/lang/AbstractStringBuilder;" } : Jvm.MethodName) jdk_68_method_31_code (2 : Nat) (Option.some (Jvm.ClassFile.FieldType.object "java/lang/AbstractStringBuilder")), Jvm.Cond.code ({ cls := "java/lang/AbstractStringBuilder", name := "ensureCapacityInternal", desc := "(I)V" } : Jvm.MethodName) jdk_68_method_9_code (3 : Nat) (Option.none : Option Jvm.ClassFile.FieldType), Jvm.Cond.code ({ cls := "java/lang/AbstractStringBuilder", name := "isLatin1", desc := "()Z" } : Jvm.MethodName) jdk_68_method_68_code (1 : Nat) (Option.some Jvm.ClassFile.FieldType.boolean), Jvm.Cond.code ({ cls := "java/lang/StringLatin1", name := "canEncode", desc := "(C)Z" } : Jvm.MethodName) jdk_43_method_3_code (1 : Nat) (Option.some Jvm.ClassFile.FieldType.boolean), Jvm.Cond.code ({ cls := "java/lang/StringBuilder", name := "toString", desc := "()Ljava/lang/String;" } : Jvm.MethodName) jdk_67_method_42_code (1 : Nat) (Option.some (Jvm.ClassFile.FieldType.object "java/lang/String")), Jvm.Cond.code ({ cls := "java/lang/String", name := "<init>", desc := "(Ljava/lang/StringBuilder;)V" } : Jvm.MethodName) jdk_42_method_53_code (2 : Nat) (Option.none : Option Jvm.ClassFile.FieldType), Jvm.Cond.code ({ cls := "java/lang/String", name := "<init>", desc := "(Ljava/lang/AbstractStringBuilder;Ljava/lang/Void;)V" } : Jvm.MethodName) jdk_42_method_150_code (5 : Nat) (Option.none : Option Jvm.ClassFile.FieldType), Jvm.Cond.code ({ cls := "java/lang/AbstractStringBuilder", name := "getValue", desc := "()[B" } : Jvm.MethodName) jdk_68_method_64_code (1 : Nat) (Option.some (Jvm.ClassFile.FieldType.array Jvm.ClassFile.FieldType.byte)), Jvm.Cond.code ({ cls := "java/lang/StringBuilder", name := "length", desc := "()I" } : Jvm.MethodName) jdk_67_method_93_code (1 : Nat) (Option.some Jvm.ClassFile.FieldType.int), Jvm.Cond.code ({ cls := "java/lang/AbstractStringBuilder", name := "length", desc := "()I" } : Jvm.MethodName) jdk_68_method_6_code (1 : Nat) (Option.some Jvm.ClassFile.FieldType.int), Jvm.Cond.code ({ cls := "java/util/Arrays", name := "copyOfRange", desc := "([BII)[B" } : Jvm.MethodName) jdk_65_method_132_code (3 : Nat) (Option.some (Jvm.ClassFile.FieldType.array Jvm.ClassFile.FieldType.byte)), Jvm.Cond.code ({ cls := "java/lang/String", name := "charAt", desc := "(I)C" } : Jvm.MethodName) jdk_42_method_56_code (2 : Nat) (Option.some Jvm.ClassFile.FieldType.char), Jvm.Cond.code ({ cls := "java/lang/String", name := "isLatin1", desc := "()Z" } : Jvm.MethodName) jdk_42_method_154_code (1 : Nat) (Option.some Jvm.ClassFile.FieldType.boolean), Jvm.Cond.code ({ cls := "java/lang/StringLatin1", name := "charAt", desc := "([BI)C" } : Jvm.MethodName) jdk_43_method_2_code (2 : Nat) (Option.some Jvm.ClassFile.FieldType.char), Jvm.Cond.code ({ cls := "java/lang/String", name := "checkIndex", desc := "(II)V" } : Jvm.MethodName) jdk_42_method_155_code (2 : Nat) (Option.none : Option Jvm.ClassFile.FieldType), Jvm.Cond.code ({ cls := "jdk/internal/util/Preconditions", name := "checkIndex", desc := "(IILjava/util/function/BiFunction;)I" } : Jvm.MethodName) jdk_41_method_11_code (3 : Nat) (Option.some Jvm.ClassFile.FieldType.int), Jvm.Cond.code ({ cls := "com/example/coersa/coersa/Quote", name := "isName", desc := "()Z" } : Jvm.MethodName) prog_237_method_4_code (1 : Nat) (Option.some Jvm.ClassFile.FieldType.boolean)]
set_option maxRecDepth 65536 in
theorem codes_eq : words1.filter isCode = codes1 := rfl
theorem w_codes : ∀ c ∈ words1.filter isCode, c.before args0 about1 = true := by
  rw [codes_eq]
  intro c hc
  simp only [codes1, List.mem_cons, List.not_mem_nil, or_false] at hc
  rcases hc with rfl | rfl | rfl | rfl | rfl | rfl | rfl | rfl | rfl | rfl | rfl | rfl | rfl | rfl | rfl | rfl | rfl | rfl | rfl | rfl | rfl | rfl | rfl | rfl | rfl | rfl
  · exact w_c0
  · exact w_c1
  · exact w_c2
  · exact w_c3
  · exact w_c4
  · exact w_c5
  · exact w_c6
  · exact w_c7
  · exact w_c8
  · exact w_c9
  · exact w_c10
  · exact w_c11
  · exact w_c12
  · exact w_c13
  · exact w_c14
  · exact w_c15
  · exact w_c16
  · exact w_c17
  · exact w_c18
  · exact w_c19
  · exact w_c20
  · exact w_c21
  · exact w_c22
  · exact w_c23
  · exact w_c24
  · exact w_c25
set_option maxRecDepth 65536 in
theorem w_t1 : (words1.take 24).all (fun c => isCode c || c.before args0 about1) = true := by decide +kernel
set_option maxRecDepth 65536 in
theorem w_t2 : ((words1.drop 24).take 24).all (fun c => isCode c || c.before args0 about1) = true := by decide +kernel
set_option maxRecDepth 65536 in
theorem w_t3 : (((words1.drop 24).drop 24).take 24).all (fun c => isCode c || c.before args0 about1) = true := by decide +kernel
set_option maxRecDepth 65536 in
theorem w_t4 : ((((words1.drop 24).drop 24).drop 24).take 24).all (fun c => isCode c || c.before args0 about1) = true := by decide +kernel
set_option maxRecDepth 65536 in
theorem w_t5 : (((((words1.drop 24).drop 24).drop 24).drop 24).take 24).all (fun c => isCode c || c.before args0 about1) = true := by decide +kernel
set_option maxRecDepth 65536 in
theorem w_t6 : ((((((words1.drop 24).drop 24).drop 24).drop 24).drop 24).take 24).all (fun c => isCode c || c.before args0 about1) = true := by decide +kernel
set_option maxRecDepth 65536 in
theorem w_t7 : ((((((words1.drop 24).drop 24).drop 24).drop 24).drop 24).drop 24).all (fun c => isCode c || c.before args0 about1) = true := by decide +kernel
theorem w_tables : (allAtoms (Jvm.Cond.code x code maxLocals ret :: tables_1)).before args0 about1 = true := by
  rw [allAtoms_all]
  show words1.all (fun c => c.before args0 about1) = true
  refine all_split ?_ w_codes
  rw [← List.take_append_drop 24 words1, List.all_append, w_t1, ← List.take_append_drop 24 (words1.drop 24), List.all_append, w_t2, ← List.take_append_drop 24 ((words1.drop 24).drop 24), List.all_append, w_t3, ← List.take_append_drop 24 (((words1.drop 24).drop 24).drop 24), List.all_append, w_t4, ← List.take_append_drop 24 ((((words1.drop 24).drop 24).drop 24).drop 24), List.all_append, w_t5, ← List.take_append_drop 24 (((((words1.drop 24).drop 24).drop 24).drop 24).drop 24), List.all_append, w_t6, w_t7]
  rfl
set_option maxRecDepth 65536 in
theorem w_rest : rest_1_c.before args0 about1 = true := by decide +kernel
set_option maxRecDepth 65536 in
theorem w_case : (Jvm.Cond.and given_1 narrow_1).before args0 about1 = true := by decide +kernel
set_option maxRecDepth 65536 in
theorem w_consts : constsHeld consts_1 about1 := Jvm.Lit.constsHeldB_iff.mp (by decide +kernel)
theorem w_applies : (headSpec (Jvm.Cond.code x code maxLocals ret :: tables_1) room_1).applies x e0.platform about1 = true :=
  (Spec.applies_iff w_frames).mpr ⟨w_running, w_runnable, w_alone, w_named, w_hears, w_ripe, w_room, w_tables⟩
theorem atStart : AtStart classFile x code maxLocals ret World_1 tables_1 room_1 Calls_1 rest_1 Pre_1 launch0 p0 e0 about1 theMethod args0 below0 :=
  ⟨lists_1, trivial, launch0.admits_env _ _ _, launch0.least_env, fairChoices_fair.cas, fairChoices_fair.clock, w_frames, w_args, w_heap, w_applies, ⟨w_consts, trivial⟩, w_rest, w_case⟩
end start1
theorem witness_1 : WitnessClaimed_1 := ⟨start1.p0, start1.e0, start1.about1, start1.theMethod, start1.args0, start1.below0, start1.atStart⟩
end Jvm.Pilot.@@N@@
