import JvmDerived
import JvmDerived.Pilot.@@N@@Statement
import JvmDerived.Pilot.@@N@@Code
set_option linter.unusedVariables false
set_option linter.unusedSimpArgs false
namespace Jvm.Pilot.@@N@@
open Jvm Jvm.ClassFile Sem Op Lib Jvm.Free Jvm.Stand Jvm.LawKit Jvm.RoadKit Bundle Jvm.Pilot.@@N@@.Jvm.D
theorem own_b1 {v A K : Int32} (h : v < A) (d : ¬ (K < A)) : v < K := by rw [Int32.lt_iff_toInt_lt] at *; omega
theorem own_b2 {v A K : Int32} (h : v < A) (d : A.toInt ≤ K.toInt + 1) : ¬ (K < v) := by rw [Int32.lt_iff_toInt_lt] at *; omega
theorem own_b3 {v A K : Int32} (h : ¬ (v < A)) (d : ¬ (A < K)) : ¬ (v < K) := by rw [Int32.lt_iff_toInt_lt] at *; omega
theorem own_b4 {v A K : Int32} (h : ¬ (v < A)) (d : K < A) : K < v := by rw [Int32.lt_iff_toInt_lt] at *; omega
theorem own_b5 {v A K : Int32} (h : A < v) (d : K.toInt ≤ A.toInt + 1) : ¬ (v < K) := by rw [Int32.lt_iff_toInt_lt] at *; omega
theorem own_b6 {v A K : Int32} (h : A < v) (d : ¬ (A < K)) : K < v := by rw [Int32.lt_iff_toInt_lt] at *; omega
theorem own_b7 {v A K : Int32} (h : ¬ (A < v)) (d : A < K) : v < K := by rw [Int32.lt_iff_toInt_lt] at *; omega
theorem own_b8 {v A K : Int32} (h : ¬ (A < v)) (d : ¬ (K < A)) : ¬ (K < v) := by rw [Int32.lt_iff_toInt_lt] at *; omega
theorem own_w {Z : State} {a0 : Array Value} (hw : ∀ d ∈ tables_1, d.before a0 Z = true) (i : Nat) {d : Jvm.Cond} (h : tables_1[i]? = some d) : d.before a0 Z = true := hw d (List.mem_of_getElem? h)
theorem own_fldI {args : Array Value} {s : State} {t : Term} {x : Addr} {C n d : String} {k : Int32} (ht : t.eval args s none [] s = some (.ref x)) (h : (Jvm.Cond.eq (.field t C n d) (.int k)).value args s none s [] = some true) : s.fieldOf? x C n d = some (.int k) := by
  obtain ⟨u, v, e1, e2, -, -⟩ := cmp_v (Or.inl h)
  have e3 : (Term.field t C n d).eval args s none [] s = s.fieldOf? x C n d := fld_at ht
  cases (show some (Value.int k) = some v from e2)
  rw [e3] at e1
  cases u <;> simp [Jvm.Cond.value, Term.eval, ht, e1] at h
  rw [e1, h]
theorem own_fldR {args : Array Value} {s : State} {t u : Term} {x y : Addr} {C n d : String} (ht : t.eval args s none [] s = some (.ref x)) (hu : u.eval args s none [] s = some (.ref y)) (h : (Jvm.Cond.eq (.field t C n d) u).value args s none s [] = some true) : s.fieldOf? x C n d = some (.ref y) := by
  obtain ⟨v, w, e1, e2, -, -⟩ := cmp_v (Or.inl h)
  have e3 : (Term.field t C n d).eval args s none [] s = s.fieldOf? x C n d := fld_at ht
  rw [e3] at e1
  cases v <;> simp [Jvm.Cond.value, Term.eval, ht, hu, e1] at h
  rw [e1, h]
theorem d0_0 : decode prog_23_method_4_code 0 = .ok (.aload_n 0, 1) := by decide +kernel
theorem d0_1 : decode prog_23_method_4_code 1 = .ok (.getstatic 10, 3) := by decide +kernel
theorem d0_4 : decode prog_23_method_4_code 4 = .ok (.if_acmp .eq 31, 3) := by decide +kernel
theorem d0_35 : decode prog_23_method_4_code 35 = .ok (.iconst 1, 1) := by decide +kernel
theorem d0_36 : decode prog_23_method_4_code 36 = .ok (.goto 4, 3) := by decide +kernel
theorem d0_40 : decode prog_23_method_4_code 40 = .ok (.ireturn, 1) := by decide +kernel
theorem d0_7 : decode prog_23_method_4_code 7 = .ok (.aload_n 0, 1) := by decide +kernel
theorem d0_8 : decode prog_23_method_4_code 8 = .ok (.getstatic 73, 3) := by decide +kernel
theorem d0_11 : decode prog_23_method_4_code 11 = .ok (.if_acmp .eq 24, 3) := by decide +kernel
theorem d0_14 : decode prog_23_method_4_code 14 = .ok (.aload_n 0, 1) := by decide +kernel
theorem d0_15 : decode prog_23_method_4_code 15 = .ok (.getstatic 16, 3) := by decide +kernel
theorem d0_18 : decode prog_23_method_4_code 18 = .ok (.if_acmp .eq 17, 3) := by decide +kernel
theorem d0_21 : decode prog_23_method_4_code 21 = .ok (.aload_n 0, 1) := by decide +kernel
theorem d0_22 : decode prog_23_method_4_code 22 = .ok (.getstatic 19, 3) := by decide +kernel
theorem d0_25 : decode prog_23_method_4_code 25 = .ok (.if_acmp .eq 10, 3) := by decide +kernel
theorem d0_28 : decode prog_23_method_4_code 28 = .ok (.aload_n 0, 1) := by decide +kernel
theorem d0_29 : decode prog_23_method_4_code 29 = .ok (.getstatic 22, 3) := by decide +kernel
theorem d0_32 : decode prog_23_method_4_code 32 = .ok (.if_acmp .ne 7, 3) := by decide +kernel
theorem d0_39 : decode prog_23_method_4_code 39 = .ok (.iconst 0, 1) := by decide +kernel
theorem pn_0 : plainName "com/example/pico_notify/piconotify/XPathExpr$Function" = true := by first | (simp [plainName, overriddenIn]; done) | decide +kernel
theorem ef_rm_takes (m : MethodId) (x0 : Addr) : entryFrame m #[(.ref x0)] 1 = mkF m 0 #[.val (.ref x0)] [] := by first | (simp [entryFrame, mkF, argsToLocals, Value.category]; done) | rfl
def Q_rm_takes (Z : State) (a' : Addr) (w2 : Addr) (w23 : Addr) (w4 : Addr) (w5 : Addr) (w6 : Addr) (h0 : Heap) (n0 : Nat) (v : Option Value) (h : Heap) (L : List Loc) : Prop := ((a' = w2) ∧ (v = some (.int (1 : Int32))) ∧ (Fr n0 L) ∧ (h = h0)) ∨ ((¬ (a' = w2)) ∧ (a' = w23) ∧ (v = some (.int (1 : Int32))) ∧ (Fr n0 L) ∧ (h = h0)) ∨ ((¬ (a' = w2)) ∧ (¬ (a' = w23)) ∧ (a' = w4) ∧ (v = some (.int (1 : Int32))) ∧ (Fr n0 L) ∧ (h = h0)) ∨ ((¬ (a' = w2)) ∧ (¬ (a' = w23)) ∧ (¬ (a' = w4)) ∧ (a' = w5) ∧ (v = some (.int (1 : Int32))) ∧ (Fr n0 L) ∧ (h = h0)) ∨ ((¬ (a' = w2)) ∧ (¬ (a' = w23)) ∧ (¬ (a' = w4)) ∧ (¬ (a' = w5)) ∧ (a' = w6) ∧ (v = some (.int (1 : Int32))) ∧ (Fr n0 L) ∧ (h = h0)) ∨ ((¬ (a' = w2)) ∧ (¬ (a' = w23)) ∧ (¬ (a' = w4)) ∧ (¬ (a' = w5)) ∧ (¬ (a' = w6)) ∧ (v = some (.int (0 : Int32))) ∧ (Fr n0 L) ∧ (h = h0))
set_option maxRecDepth 65536 in
set_option maxHeartbeats 40000000 in
theorem rm_takes (l : Launch) (Z : State) (a0 : Array Value) (hw : ∀ d ∈ tables_1, d.before a0 Z = true) (ws : List Jvm.Cond) (a' : Addr) (w2 : Addr) (w23 : Addr) (w4 : Addr) (w5 : Addr) (w6 : Addr) (h0 : Heap) (n0 : Nat) (O0 : Old Z n0 h0) (S_COUNT : Sta Z Z.heap "com/example/pico_notify/piconotify/XPathExpr$Function" "COUNT" "Lcom/example/pico_notify/piconotify/XPathExpr$Function;" (.ref w2)) (S_SUM : Sta Z Z.heap "com/example/pico_notify/piconotify/XPathExpr$Function" "SUM" "Lcom/example/pico_notify/piconotify/XPathExpr$Function;" (.ref w23)) (S_LOCAL_NAME : Sta Z Z.heap "com/example/pico_notify/piconotify/XPathExpr$Function" "LOCAL_NAME" "Lcom/example/pico_notify/piconotify/XPathExpr$Function;" (.ref w4)) (S_NAMESPACE_URI : Sta Z Z.heap "com/example/pico_notify/piconotify/XPathExpr$Function" "NAMESPACE_URI" "Lcom/example/pico_notify/piconotify/XPathExpr$Function;" (.ref w5)) (S_NAME : Sta Z Z.heap "com/example/pico_notify/piconotify/XPathExpr$Function" "NAME" "Lcom/example/pico_notify/piconotify/XPathExpr$Function;" (.ref w6)) :
    MetFree l (⟨"com/example/pico_notify/piconotify/XPathExpr$Function", "takesNodeSets", "()Z"⟩ : MethodName) (head1 (Jvm.Cond.code (⟨"com/example/pico_notify/piconotify/XPathExpr$Function", "takesNodeSets", "()Z"⟩ : MethodName) prog_23_method_4_code 1 (some .boolean) :: ws) ({ frames := 0, cells := 0, slots := 0, locals := 0 } : Room)) (fun a U => a = #[(.ref a')] ∧ Z.Warmed39 U.vm ∧ U.heap = h0) (fun _ _ _ _ _ => True) (fun _ U o U' => ∃ v L, o = .returned v ∧ Q_rm_takes Z a' w2 w23 w4 w5 w6 h0 n0 v U'.heap L ∧ FrameEnd U o U' L ({ frames := 0, cells := 0, slots := 0, locals := 0 } : Room).cells ({ frames := 0, cells := 0, slots := 0, locals := 0 } : Room).slots) := by
  refine MetFree.of_bodySF (plainFor_of_name pn_0) hisR ?_
  intro p e s m args below meth c s₁ Bd hml0 hP hK
  obtain ⟨rfl, hZ, hh⟩ := hP
  have hx := Bd.exec
  have hby := Bd.bytes
  have hml : c.maxLocals = 1 := hml0
  have hown : s.vm.findClass "com/example/pico_notify/piconotify/XPathExpr$Function" = some m.cls := findClass_of_methodNamed Bd.named
  have hnm := (name_of_methodNamed Bd.named Bd.method).1
  have X0 : Stand p l e ({ frames := 0, cells := 0, slots := 0, locals := 0 } : Room) s m #[(.ref a')] below meth c s₁ [] 0 0 := Stand.of_body Bd
  have e0 : s₁.heap = h0 := by rw [← hh, Bd.state]; rfl
  have N0 := Fr.nil n0
  have pre0 : ∀ t, Steps p.tables e below (s₁.setTop (mkF m 0 #[.val (.ref a')] [])) t → Steps p.tables e below (s₁.setTop (entryFrame m #[(.ref a')] 1)) t := fun t k => castTop (ef_rm_takes m a') k
  obtain ⟨T1, X1, e1, st1⟩ := getS2 X0 hx hZ hown (host := "") (Or.inl (own_w hw 64 rfl)) Via.refl e0 (S_COUNT.ext O0.2) (g := (mkF m 1 #[.val (.ref a')] [(.ref a')])) rfl (hb hby d0_1)
  have S2 : ∀ t, Steps p.tables e below (T1.setTop (mkF m 4 #[.val (.ref a')] [(.ref w2), (.ref a')])) t → Steps p.tables e below (s₁.setTop (mkF m 0 #[.val (.ref a')] [])) t := by
    intro t kt
    refine XS.aloadN X0.here hx rfl (hb hby d0_0) rfl rfl ?_
    show Steps p.tables e below (s₁.setTop (mkF m 1 #[.val (.ref a')] [(.ref a')])) _
    refine st1 _ ?_
    exact kt
  rcases Decidable.em (a' = w2) with c3 | c3
  · have S4 : ∀ t, Steps p.tables e below (T1.setTop (mkF m 40 #[.val (.ref a')] [(.int (1 : Int32))])) t → Steps p.tables e below (s₁.setTop (mkF m 0 #[.val (.ref a')] [])) t := by
      intro t kt
      refine S2 t ?_
      refine Jvm.RoadKit.acmp (g := (mkF m 4 #[.val (.ref a')] [(.ref w2), (.ref a')])) X1 hx rfl rfl rfl (pc0 := 4) (pc' := 35) (same := true) rfl (hb hby d0_4) rfl (decide_eq_true (congrArg Value.ref c3)) (by decide) (by decide) ?_
      refine XS.iconst X1.here hx rfl (hb hby d0_35) ?_
      refine XS.goto X1.here hx rfl (pc0 := 36) (pc' := 40) rfl (hb hby d0_36) (by decide) (by decide) ?_
      exact kt
    obtain ⟨fs, hr, hrun, hended, hW, hsame⟩ := X1.leave (v := some (.int (1 : Int32))) (fun h => by rw [Bd.returns] at h; cases h)
    refine ⟨_, _, pre0 _ (S4 _ ?_), hrun, hended, _, _, rfl, ?_, ⟨_, rfl⟩, hW, hsame.mono (by decide) (by decide)⟩
    · exact retN X1 hx (t := .boolean) Bd.returns (by simp) (hb hby d0_40) hr
    · show Q_rm_takes Z a' w2 w23 w4 w5 w6 h0 n0 _ T1.heap _
      rw [e1]
      exact Or.inl ⟨c3, rfl, N0, rfl⟩
  · obtain ⟨T5, X5, e5, st5⟩ := getS2 X1 hx hZ hown (host := "") (Or.inl (own_w hw 65 rfl)) Via.refl e1 (S_SUM.ext O0.2) (g := (mkF m 8 #[.val (.ref a')] [(.ref a')])) rfl (hb hby d0_8)
    have S6 : ∀ t, Steps p.tables e below (T5.setTop (mkF m 11 #[.val (.ref a')] [(.ref w23), (.ref a')])) t → Steps p.tables e below (s₁.setTop (mkF m 0 #[.val (.ref a')] [])) t := by
      intro t kt
      refine S2 t ?_
      refine Jvm.RoadKit.acmp (g := (mkF m 4 #[.val (.ref a')] [(.ref w2), (.ref a')])) X1 hx rfl rfl rfl (pc0 := 4) (pc' := 7) (same := false) rfl (hb hby d0_4) rfl (decide_eq_false fun q => c3 (Value.ref.inj q)) (by decide) (by decide) ?_
      refine XS.aloadN X1.here hx rfl (hb hby d0_7) rfl rfl ?_
      show Steps p.tables e below (T1.setTop (mkF m 8 #[.val (.ref a')] [(.ref a')])) _
      refine st5 _ ?_
      exact kt
    rcases Decidable.em (a' = w23) with c7 | c7
    · have S8 : ∀ t, Steps p.tables e below (T5.setTop (mkF m 40 #[.val (.ref a')] [(.int (1 : Int32))])) t → Steps p.tables e below (s₁.setTop (mkF m 0 #[.val (.ref a')] [])) t := by
        intro t kt
        refine S6 t ?_
        refine Jvm.RoadKit.acmp (g := (mkF m 11 #[.val (.ref a')] [(.ref w23), (.ref a')])) X5 hx rfl rfl rfl (pc0 := 11) (pc' := 35) (same := true) rfl (hb hby d0_11) rfl (decide_eq_true (congrArg Value.ref c7)) (by decide) (by decide) ?_
        refine XS.iconst X5.here hx rfl (hb hby d0_35) ?_
        refine XS.goto X5.here hx rfl (pc0 := 36) (pc' := 40) rfl (hb hby d0_36) (by decide) (by decide) ?_
        exact kt
      obtain ⟨fs, hr, hrun, hended, hW, hsame⟩ := X5.leave (v := some (.int (1 : Int32))) (fun h => by rw [Bd.returns] at h; cases h)
      refine ⟨_, _, pre0 _ (S8 _ ?_), hrun, hended, _, _, rfl, ?_, ⟨_, rfl⟩, hW, hsame.mono (by decide) (by decide)⟩
      · exact retN X5 hx (t := .boolean) Bd.returns (by simp) (hb hby d0_40) hr
      · show Q_rm_takes Z a' w2 w23 w4 w5 w6 h0 n0 _ T5.heap _
        rw [e5]
        exact Or.inr (Or.inl ⟨c3, c7, rfl, N0, rfl⟩)
    · obtain ⟨T9, X9, e9, st9⟩ := getS2 X5 hx hZ hown (host := "") (Or.inl (own_w hw 66 rfl)) Via.refl e5 (S_LOCAL_NAME.ext O0.2) (g := (mkF m 15 #[.val (.ref a')] [(.ref a')])) rfl (hb hby d0_15)
      have S10 : ∀ t, Steps p.tables e below (T9.setTop (mkF m 18 #[.val (.ref a')] [(.ref w4), (.ref a')])) t → Steps p.tables e below (s₁.setTop (mkF m 0 #[.val (.ref a')] [])) t := by
        intro t kt
        refine S6 t ?_
        refine Jvm.RoadKit.acmp (g := (mkF m 11 #[.val (.ref a')] [(.ref w23), (.ref a')])) X5 hx rfl rfl rfl (pc0 := 11) (pc' := 14) (same := false) rfl (hb hby d0_11) rfl (decide_eq_false fun q => c7 (Value.ref.inj q)) (by decide) (by decide) ?_
        refine XS.aloadN X5.here hx rfl (hb hby d0_14) rfl rfl ?_
        show Steps p.tables e below (T5.setTop (mkF m 15 #[.val (.ref a')] [(.ref a')])) _
        refine st9 _ ?_
        exact kt
      rcases Decidable.em (a' = w4) with c11 | c11
      · have S12 : ∀ t, Steps p.tables e below (T9.setTop (mkF m 40 #[.val (.ref a')] [(.int (1 : Int32))])) t → Steps p.tables e below (s₁.setTop (mkF m 0 #[.val (.ref a')] [])) t := by
          intro t kt
          refine S10 t ?_
          refine Jvm.RoadKit.acmp (g := (mkF m 18 #[.val (.ref a')] [(.ref w4), (.ref a')])) X9 hx rfl rfl rfl (pc0 := 18) (pc' := 35) (same := true) rfl (hb hby d0_18) rfl (decide_eq_true (congrArg Value.ref c11)) (by decide) (by decide) ?_
          refine XS.iconst X9.here hx rfl (hb hby d0_35) ?_
          refine XS.goto X9.here hx rfl (pc0 := 36) (pc' := 40) rfl (hb hby d0_36) (by decide) (by decide) ?_
          exact kt
        obtain ⟨fs, hr, hrun, hended, hW, hsame⟩ := X9.leave (v := some (.int (1 : Int32))) (fun h => by rw [Bd.returns] at h; cases h)
        refine ⟨_, _, pre0 _ (S12 _ ?_), hrun, hended, _, _, rfl, ?_, ⟨_, rfl⟩, hW, hsame.mono (by decide) (by decide)⟩
        · exact retN X9 hx (t := .boolean) Bd.returns (by simp) (hb hby d0_40) hr
        · show Q_rm_takes Z a' w2 w23 w4 w5 w6 h0 n0 _ T9.heap _
          rw [e9]
          exact Or.inr (Or.inr (Or.inl ⟨c3, c7, c11, rfl, N0, rfl⟩))
      · obtain ⟨T13, X13, e13, st13⟩ := getS2 X9 hx hZ hown (host := "") (Or.inl (own_w hw 67 rfl)) Via.refl e9 (S_NAMESPACE_URI.ext O0.2) (g := (mkF m 22 #[.val (.ref a')] [(.ref a')])) rfl (hb hby d0_22)
        have S14 : ∀ t, Steps p.tables e below (T13.setTop (mkF m 25 #[.val (.ref a')] [(.ref w5), (.ref a')])) t → Steps p.tables e below (s₁.setTop (mkF m 0 #[.val (.ref a')] [])) t := by
          intro t kt
          refine S10 t ?_
          refine Jvm.RoadKit.acmp (g := (mkF m 18 #[.val (.ref a')] [(.ref w4), (.ref a')])) X9 hx rfl rfl rfl (pc0 := 18) (pc' := 21) (same := false) rfl (hb hby d0_18) rfl (decide_eq_false fun q => c11 (Value.ref.inj q)) (by decide) (by decide) ?_
          refine XS.aloadN X9.here hx rfl (hb hby d0_21) rfl rfl ?_
          show Steps p.tables e below (T9.setTop (mkF m 22 #[.val (.ref a')] [(.ref a')])) _
          refine st13 _ ?_
          exact kt
        rcases Decidable.em (a' = w5) with c15 | c15
        · have S16 : ∀ t, Steps p.tables e below (T13.setTop (mkF m 40 #[.val (.ref a')] [(.int (1 : Int32))])) t → Steps p.tables e below (s₁.setTop (mkF m 0 #[.val (.ref a')] [])) t := by
            intro t kt
            refine S14 t ?_
            refine Jvm.RoadKit.acmp (g := (mkF m 25 #[.val (.ref a')] [(.ref w5), (.ref a')])) X13 hx rfl rfl rfl (pc0 := 25) (pc' := 35) (same := true) rfl (hb hby d0_25) rfl (decide_eq_true (congrArg Value.ref c15)) (by decide) (by decide) ?_
            refine XS.iconst X13.here hx rfl (hb hby d0_35) ?_
            refine XS.goto X13.here hx rfl (pc0 := 36) (pc' := 40) rfl (hb hby d0_36) (by decide) (by decide) ?_
            exact kt
          obtain ⟨fs, hr, hrun, hended, hW, hsame⟩ := X13.leave (v := some (.int (1 : Int32))) (fun h => by rw [Bd.returns] at h; cases h)
          refine ⟨_, _, pre0 _ (S16 _ ?_), hrun, hended, _, _, rfl, ?_, ⟨_, rfl⟩, hW, hsame.mono (by decide) (by decide)⟩
          · exact retN X13 hx (t := .boolean) Bd.returns (by simp) (hb hby d0_40) hr
          · show Q_rm_takes Z a' w2 w23 w4 w5 w6 h0 n0 _ T13.heap _
            rw [e13]
            exact Or.inr (Or.inr (Or.inr (Or.inl ⟨c3, c7, c11, c15, rfl, N0, rfl⟩)))
        · obtain ⟨T17, X17, e17, st17⟩ := getS2 X13 hx hZ hown (host := "") (Or.inl (own_w hw 68 rfl)) Via.refl e13 (S_NAME.ext O0.2) (g := (mkF m 29 #[.val (.ref a')] [(.ref a')])) rfl (hb hby d0_29)
          have S18 : ∀ t, Steps p.tables e below (T17.setTop (mkF m 32 #[.val (.ref a')] [(.ref w6), (.ref a')])) t → Steps p.tables e below (s₁.setTop (mkF m 0 #[.val (.ref a')] [])) t := by
            intro t kt
            refine S14 t ?_
            refine Jvm.RoadKit.acmp (g := (mkF m 25 #[.val (.ref a')] [(.ref w5), (.ref a')])) X13 hx rfl rfl rfl (pc0 := 25) (pc' := 28) (same := false) rfl (hb hby d0_25) rfl (decide_eq_false fun q => c15 (Value.ref.inj q)) (by decide) (by decide) ?_
            refine XS.aloadN X13.here hx rfl (hb hby d0_28) rfl rfl ?_
            show Steps p.tables e below (T13.setTop (mkF m 29 #[.val (.ref a')] [(.ref a')])) _
            refine st17 _ ?_
            exact kt
          rcases Decidable.em (a' = w6) with c19 | c19
          · have S20 : ∀ t, Steps p.tables e below (T17.setTop (mkF m 40 #[.val (.ref a')] [(.int (1 : Int32))])) t → Steps p.tables e below (s₁.setTop (mkF m 0 #[.val (.ref a')] [])) t := by
              intro t kt
              refine S18 t ?_
              refine Jvm.RoadKit.acmp (g := (mkF m 32 #[.val (.ref a')] [(.ref w6), (.ref a')])) X17 hx rfl rfl rfl (pc0 := 32) (pc' := 35) (same := true) rfl (hb hby d0_32) rfl (decide_eq_true (congrArg Value.ref c19)) (by decide) (by decide) ?_
              refine XS.iconst X17.here hx rfl (hb hby d0_35) ?_
              refine XS.goto X17.here hx rfl (pc0 := 36) (pc' := 40) rfl (hb hby d0_36) (by decide) (by decide) ?_
              exact kt
            obtain ⟨fs, hr, hrun, hended, hW, hsame⟩ := X17.leave (v := some (.int (1 : Int32))) (fun h => by rw [Bd.returns] at h; cases h)
            refine ⟨_, _, pre0 _ (S20 _ ?_), hrun, hended, _, _, rfl, ?_, ⟨_, rfl⟩, hW, hsame.mono (by decide) (by decide)⟩
            · exact retN X17 hx (t := .boolean) Bd.returns (by simp) (hb hby d0_40) hr
            · show Q_rm_takes Z a' w2 w23 w4 w5 w6 h0 n0 _ T17.heap _
              rw [e17]
              exact Or.inr (Or.inr (Or.inr (Or.inr (Or.inl ⟨c3, c7, c11, c15, c19, rfl, N0, rfl⟩))))
          · have S21 : ∀ t, Steps p.tables e below (T17.setTop (mkF m 40 #[.val (.ref a')] [(.int (0 : Int32))])) t → Steps p.tables e below (s₁.setTop (mkF m 0 #[.val (.ref a')] [])) t := by
              intro t kt
              refine S18 t ?_
              refine Jvm.RoadKit.acmp (g := (mkF m 32 #[.val (.ref a')] [(.ref w6), (.ref a')])) X17 hx rfl rfl rfl (pc0 := 32) (pc' := 39) (same := false) rfl (hb hby d0_32) rfl (decide_eq_false fun q => c19 (Value.ref.inj q)) (by decide) (by decide) ?_
              refine XS.iconst X17.here hx rfl (hb hby d0_39) ?_
              exact kt
            obtain ⟨fs, hr, hrun, hended, hW, hsame⟩ := X17.leave (v := some (.int (0 : Int32))) (fun h => by rw [Bd.returns] at h; cases h)
            refine ⟨_, _, pre0 _ (S21 _ ?_), hrun, hended, _, _, rfl, ?_, ⟨_, rfl⟩, hW, hsame.mono (by decide) (by decide)⟩
            · exact retN X17 hx (t := .boolean) Bd.returns (by simp) (hb hby d0_40) hr
            · show Q_rm_takes Z a' w2 w23 w4 w5 w6 h0 n0 _ T17.heap _
              rw [e17]
              exact Or.inr (Or.inr (Or.inr (Or.inr (Or.inr (⟨c3, c7, c11, c15, c19, rfl, N0, rfl⟩)))))
theorem own_rem27 (x i : Int32) (h : i = ((x &&& (2147483647 : Int32)) % (27 : Int32))) : i = (0 : Int32) ∨ i = (1 : Int32) ∨ i = (2 : Int32) ∨ i = (3 : Int32) ∨ i = (4 : Int32) ∨ i = (5 : Int32) ∨ i = (6 : Int32) ∨ i = (7 : Int32) ∨ i = (8 : Int32) ∨ i = (9 : Int32) ∨ i = (10 : Int32) ∨ i = (11 : Int32) ∨ i = (12 : Int32) ∨ i = (13 : Int32) ∨ i = (14 : Int32) ∨ i = (15 : Int32) ∨ i = (16 : Int32) ∨ i = (17 : Int32) ∨ i = (18 : Int32) ∨ i = (19 : Int32) ∨ i = (20 : Int32) ∨ i = (21 : Int32) ∨ i = (22 : Int32) ∨ i = (23 : Int32) ∨ i = (24 : Int32) ∨ i = (25 : Int32) ∨ i = (26 : Int32) := by
  have a1 := c_and x 2147483647 (by decide)
  have a2 := (c_iremV (x &&& 2147483647) 27).1 a1.1 (by decide)
  rw [← h] at a2
  have a3 : (27 : Int32).toInt = 27 := by decide
  obtain ⟨b1, b2, -⟩ := a2
  rw [a3] at b2
  have key : ∀ n : Nat, n < 27 → i.toInt = (n : Int) → i = Int32.ofNat n := by
    intro n hn hi
    apply Int32.toInt_inj.mp
    rw [hi, Int32.toInt_ofNat_of_lt (by omega)]
  obtain ⟨n, hn⟩ := Int.eq_ofNat_of_zero_le b1
  have hlt : n < 27 := by omega
  have hk := key n hlt hn
  clear key hn b1 b2 a1 a3 h
  match n, hlt with
  | 0, _ => exact Or.inl hk
  | 1, _ => exact Or.inr (Or.inl hk)
  | 2, _ => exact Or.inr (Or.inr (Or.inl hk))
  | 3, _ => exact Or.inr (Or.inr (Or.inr (Or.inl hk)))
  | 4, _ => exact Or.inr (Or.inr (Or.inr (Or.inr (Or.inl hk))))
  | 5, _ => exact Or.inr (Or.inr (Or.inr (Or.inr (Or.inr (Or.inl hk)))))
  | 6, _ => exact Or.inr (Or.inr (Or.inr (Or.inr (Or.inr (Or.inr (Or.inl hk))))))
  | 7, _ => exact Or.inr (Or.inr (Or.inr (Or.inr (Or.inr (Or.inr (Or.inr (Or.inl hk)))))))
  | 8, _ => exact Or.inr (Or.inr (Or.inr (Or.inr (Or.inr (Or.inr (Or.inr (Or.inr (Or.inl hk))))))))
  | 9, _ => exact Or.inr (Or.inr (Or.inr (Or.inr (Or.inr (Or.inr (Or.inr (Or.inr (Or.inr (Or.inl hk)))))))))
  | 10, _ => exact Or.inr (Or.inr (Or.inr (Or.inr (Or.inr (Or.inr (Or.inr (Or.inr (Or.inr (Or.inr (Or.inl hk))))))))))
  | 11, _ => exact Or.inr (Or.inr (Or.inr (Or.inr (Or.inr (Or.inr (Or.inr (Or.inr (Or.inr (Or.inr (Or.inr (Or.inl hk)))))))))))
  | 12, _ => exact Or.inr (Or.inr (Or.inr (Or.inr (Or.inr (Or.inr (Or.inr (Or.inr (Or.inr (Or.inr (Or.inr (Or.inr (Or.inl hk))))))))))))
  | 13, _ => exact Or.inr (Or.inr (Or.inr (Or.inr (Or.inr (Or.inr (Or.inr (Or.inr (Or.inr (Or.inr (Or.inr (Or.inr (Or.inr (Or.inl hk)))))))))))))
  | 14, _ => exact Or.inr (Or.inr (Or.inr (Or.inr (Or.inr (Or.inr (Or.inr (Or.inr (Or.inr (Or.inr (Or.inr (Or.inr (Or.inr (Or.inr (Or.inl hk))))))))))))))
  | 15, _ => exact Or.inr (Or.inr (Or.inr (Or.inr (Or.inr (Or.inr (Or.inr (Or.inr (Or.inr (Or.inr (Or.inr (Or.inr (Or.inr (Or.inr (Or.inr (Or.inl hk)))))))))))))))
  | 16, _ => exact Or.inr (Or.inr (Or.inr (Or.inr (Or.inr (Or.inr (Or.inr (Or.inr (Or.inr (Or.inr (Or.inr (Or.inr (Or.inr (Or.inr (Or.inr (Or.inr (Or.inl hk))))))))))))))))
  | 17, _ => exact Or.inr (Or.inr (Or.inr (Or.inr (Or.inr (Or.inr (Or.inr (Or.inr (Or.inr (Or.inr (Or.inr (Or.inr (Or.inr (Or.inr (Or.inr (Or.inr (Or.inr (Or.inl hk)))))))))))))))))
  | 18, _ => exact Or.inr (Or.inr (Or.inr (Or.inr (Or.inr (Or.inr (Or.inr (Or.inr (Or.inr (Or.inr (Or.inr (Or.inr (Or.inr (Or.inr (Or.inr (Or.inr (Or.inr (Or.inr (Or.inl hk))))))))))))))))))
  | 19, _ => exact Or.inr (Or.inr (Or.inr (Or.inr (Or.inr (Or.inr (Or.inr (Or.inr (Or.inr (Or.inr (Or.inr (Or.inr (Or.inr (Or.inr (Or.inr (Or.inr (Or.inr (Or.inr (Or.inr (Or.inl hk)))))))))))))))))))
  | 20, _ => exact Or.inr (Or.inr (Or.inr (Or.inr (Or.inr (Or.inr (Or.inr (Or.inr (Or.inr (Or.inr (Or.inr (Or.inr (Or.inr (Or.inr (Or.inr (Or.inr (Or.inr (Or.inr (Or.inr (Or.inr (Or.inl hk))))))))))))))))))))
  | 21, _ => exact Or.inr (Or.inr (Or.inr (Or.inr (Or.inr (Or.inr (Or.inr (Or.inr (Or.inr (Or.inr (Or.inr (Or.inr (Or.inr (Or.inr (Or.inr (Or.inr (Or.inr (Or.inr (Or.inr (Or.inr (Or.inr (Or.inl hk)))))))))))))))))))))
  | 22, _ => exact Or.inr (Or.inr (Or.inr (Or.inr (Or.inr (Or.inr (Or.inr (Or.inr (Or.inr (Or.inr (Or.inr (Or.inr (Or.inr (Or.inr (Or.inr (Or.inr (Or.inr (Or.inr (Or.inr (Or.inr (Or.inr (Or.inr (Or.inl hk))))))))))))))))))))))
  | 23, _ => exact Or.inr (Or.inr (Or.inr (Or.inr (Or.inr (Or.inr (Or.inr (Or.inr (Or.inr (Or.inr (Or.inr (Or.inr (Or.inr (Or.inr (Or.inr (Or.inr (Or.inr (Or.inr (Or.inr (Or.inr (Or.inr (Or.inr (Or.inr (Or.inl hk)))))))))))))))))))))))
  | 24, _ => exact Or.inr (Or.inr (Or.inr (Or.inr (Or.inr (Or.inr (Or.inr (Or.inr (Or.inr (Or.inr (Or.inr (Or.inr (Or.inr (Or.inr (Or.inr (Or.inr (Or.inr (Or.inr (Or.inr (Or.inr (Or.inr (Or.inr (Or.inr (Or.inr (Or.inl hk))))))))))))))))))))))))
  | 25, _ => exact Or.inr (Or.inr (Or.inr (Or.inr (Or.inr (Or.inr (Or.inr (Or.inr (Or.inr (Or.inr (Or.inr (Or.inr (Or.inr (Or.inr (Or.inr (Or.inr (Or.inr (Or.inr (Or.inr (Or.inr (Or.inr (Or.inr (Or.inr (Or.inr (Or.inr (Or.inl hk)))))))))))))))))))))))))
  | 26, _ => exact Or.inr (Or.inr (Or.inr (Or.inr (Or.inr (Or.inr (Or.inr (Or.inr (Or.inr (Or.inr (Or.inr (Or.inr (Or.inr (Or.inr (Or.inr (Or.inr (Or.inr (Or.inr (Or.inr (Or.inr (Or.inr (Or.inr (Or.inr (Or.inr (Or.inr (Or.inr (hk))))))))))))))))))))))))))
  | k + 27, q => exact absurd q (by omega)
theorem pd_0 : parseMethodDescriptor "()Z" = some ⟨[], some .boolean⟩ := by decide +kernel
theorem pn_1 : plainName "com/example/pico_notify/piconotify/FunctionTakesNodeSetsPinLaw" = true := by first | (simp [plainName, overriddenIn]; done) | decide +kernel
theorem ef_rm_law (m : MethodId) (x0 : Int32) : entryFrame m #[(.int x0)] maxLocals = mkF m 0 #[.val (.int x0), .unset, .unset, .unset, .unset, .unset] [] := by first | (simp [entryFrame, mkF, argsToLocals, Value.category, maxLocals]; done) | rfl
def Q_rm_law (Z : State) (p1 : Int32) (w0 : Addr) (w1 : Addr) (w2 : Addr) (w3 : Addr) (w4 : Addr) (w5 : Addr) (w6 : Addr) (w7 : Addr) (w8 : Addr) (w9 : Addr) (w10 : Addr) (w11 : Addr) (w12 : Addr) (w13 : Addr) (w14 : Addr) (w15 : Addr) (w16 : Addr) (w17 : Addr) (w18 : Addr) (w19 : Addr) (w20 : Addr) (w21 : Addr) (w22 : Addr) (w23 : Addr) (w24 : Addr) (w25 : Addr) (w26 : Addr) (h0 : Heap) (n0 : Nat) (v : Option Value) (h : Heap) (L : List Loc) : Prop := ((v = some (.int (1 : Int32))) ∧ (Fr n0 L))
set_option maxRecDepth 65536 in
set_option maxHeartbeats 40000000 in
theorem rm_law (l : Launch) (Z : State) (a0 : Array Value) (hw : ∀ d ∈ tables_1, d.before a0 Z = true) (ws : List Jvm.Cond) (p1 : Int32) (w0 : Addr) (w1 : Addr) (w2 : Addr) (w3 : Addr) (w4 : Addr) (w5 : Addr) (w6 : Addr) (w7 : Addr) (w8 : Addr) (w9 : Addr) (w10 : Addr) (w11 : Addr) (w12 : Addr) (w13 : Addr) (w14 : Addr) (w15 : Addr) (w16 : Addr) (w17 : Addr) (w18 : Addr) (w19 : Addr) (w20 : Addr) (w21 : Addr) (w22 : Addr) (w23 : Addr) (w24 : Addr) (w25 : Addr) (w26 : Addr) (h0 : Heap) (n0 : Nat) (O0 : Old Z n0 h0) (S_LAST : Sta Z Z.heap "com/example/pico_notify/piconotify/XPathExpr$Function" "LAST" "Lcom/example/pico_notify/piconotify/XPathExpr$Function;" (.ref w0)) (S_POSITION : Sta Z Z.heap "com/example/pico_notify/piconotify/XPathExpr$Function" "POSITION" "Lcom/example/pico_notify/piconotify/XPathExpr$Function;" (.ref w1)) (S_COUNT : Sta Z Z.heap "com/example/pico_notify/piconotify/XPathExpr$Function" "COUNT" "Lcom/example/pico_notify/piconotify/XPathExpr$Function;" (.ref w2)) (S_ID : Sta Z Z.heap "com/example/pico_notify/piconotify/XPathExpr$Function" "ID" "Lcom/example/pico_notify/piconotify/XPathExpr$Function;" (.ref w3)) (S_LOCAL_NAME : Sta Z Z.heap "com/example/pico_notify/piconotify/XPathExpr$Function" "LOCAL_NAME" "Lcom/example/pico_notify/piconotify/XPathExpr$Function;" (.ref w4)) (S_NAMESPACE_URI : Sta Z Z.heap "com/example/pico_notify/piconotify/XPathExpr$Function" "NAMESPACE_URI" "Lcom/example/pico_notify/piconotify/XPathExpr$Function;" (.ref w5)) (S_NAME : Sta Z Z.heap "com/example/pico_notify/piconotify/XPathExpr$Function" "NAME" "Lcom/example/pico_notify/piconotify/XPathExpr$Function;" (.ref w6)) (S_STRING : Sta Z Z.heap "com/example/pico_notify/piconotify/XPathExpr$Function" "STRING" "Lcom/example/pico_notify/piconotify/XPathExpr$Function;" (.ref w7)) (S_CONCAT : Sta Z Z.heap "com/example/pico_notify/piconotify/XPathExpr$Function" "CONCAT" "Lcom/example/pico_notify/piconotify/XPathExpr$Function;" (.ref w8)) (S_STARTS_WITH : Sta Z Z.heap "com/example/pico_notify/piconotify/XPathExpr$Function" "STARTS_WITH" "Lcom/example/pico_notify/piconotify/XPathExpr$Function;" (.ref w9)) (S_CONTAINS : Sta Z Z.heap "com/example/pico_notify/piconotify/XPathExpr$Function" "CONTAINS" "Lcom/example/pico_notify/piconotify/XPathExpr$Function;" (.ref w10)) (S_SUBSTRING_BEFORE : Sta Z Z.heap "com/example/pico_notify/piconotify/XPathExpr$Function" "SUBSTRING_BEFORE" "Lcom/example/pico_notify/piconotify/XPathExpr$Function;" (.ref w11)) (S_SUBSTRING_AFTER : Sta Z Z.heap "com/example/pico_notify/piconotify/XPathExpr$Function" "SUBSTRING_AFTER" "Lcom/example/pico_notify/piconotify/XPathExpr$Function;" (.ref w12)) (S_SUBSTRING : Sta Z Z.heap "com/example/pico_notify/piconotify/XPathExpr$Function" "SUBSTRING" "Lcom/example/pico_notify/piconotify/XPathExpr$Function;" (.ref w13)) (S_STRING_LENGTH : Sta Z Z.heap "com/example/pico_notify/piconotify/XPathExpr$Function" "STRING_LENGTH" "Lcom/example/pico_notify/piconotify/XPathExpr$Function;" (.ref w14)) (S_NORMALIZE_SPACE : Sta Z Z.heap "com/example/pico_notify/piconotify/XPathExpr$Function" "NORMALIZE_SPACE" "Lcom/example/pico_notify/piconotify/XPathExpr$Function;" (.ref w15)) (S_TRANSLATE : Sta Z Z.heap "com/example/pico_notify/piconotify/XPathExpr$Function" "TRANSLATE" "Lcom/example/pico_notify/piconotify/XPathExpr$Function;" (.ref w16)) (S_BOOLEAN : Sta Z Z.heap "com/example/pico_notify/piconotify/XPathExpr$Function" "BOOLEAN" "Lcom/example/pico_notify/piconotify/XPathExpr$Function;" (.ref w17)) (S_NOT : Sta Z Z.heap "com/example/pico_notify/piconotify/XPathExpr$Function" "NOT" "Lcom/example/pico_notify/piconotify/XPathExpr$Function;" (.ref w18)) (S_TRUE : Sta Z Z.heap "com/example/pico_notify/piconotify/XPathExpr$Function" "TRUE" "Lcom/example/pico_notify/piconotify/XPathExpr$Function;" (.ref w19)) (S_FALSE : Sta Z Z.heap "com/example/pico_notify/piconotify/XPathExpr$Function" "FALSE" "Lcom/example/pico_notify/piconotify/XPathExpr$Function;" (.ref w20)) (S_LANG : Sta Z Z.heap "com/example/pico_notify/piconotify/XPathExpr$Function" "LANG" "Lcom/example/pico_notify/piconotify/XPathExpr$Function;" (.ref w21)) (S_NUMBER : Sta Z Z.heap "com/example/pico_notify/piconotify/XPathExpr$Function" "NUMBER" "Lcom/example/pico_notify/piconotify/XPathExpr$Function;" (.ref w22)) (S_SUM : Sta Z Z.heap "com/example/pico_notify/piconotify/XPathExpr$Function" "SUM" "Lcom/example/pico_notify/piconotify/XPathExpr$Function;" (.ref w23)) (S_FLOOR : Sta Z Z.heap "com/example/pico_notify/piconotify/XPathExpr$Function" "FLOOR" "Lcom/example/pico_notify/piconotify/XPathExpr$Function;" (.ref w24)) (S_CEILING : Sta Z Z.heap "com/example/pico_notify/piconotify/XPathExpr$Function" "CEILING" "Lcom/example/pico_notify/piconotify/XPathExpr$Function;" (.ref w25)) (S_ROUND : Sta Z Z.heap "com/example/pico_notify/piconotify/XPathExpr$Function" "ROUND" "Lcom/example/pico_notify/piconotify/XPathExpr$Function;" (.ref w26)) (E_LAST : Exa Z Z.heap w0 "com/example/pico_notify/piconotify/XPathExpr$Function") (E_POSITION : Exa Z Z.heap w1 "com/example/pico_notify/piconotify/XPathExpr$Function") (E_COUNT : Exa Z Z.heap w2 "com/example/pico_notify/piconotify/XPathExpr$Function") (E_ID : Exa Z Z.heap w3 "com/example/pico_notify/piconotify/XPathExpr$Function") (E_LOCAL_NAME : Exa Z Z.heap w4 "com/example/pico_notify/piconotify/XPathExpr$Function") (E_NAMESPACE_URI : Exa Z Z.heap w5 "com/example/pico_notify/piconotify/XPathExpr$Function") (E_NAME : Exa Z Z.heap w6 "com/example/pico_notify/piconotify/XPathExpr$Function") (E_STRING : Exa Z Z.heap w7 "com/example/pico_notify/piconotify/XPathExpr$Function") (E_CONCAT : Exa Z Z.heap w8 "com/example/pico_notify/piconotify/XPathExpr$Function") (E_STARTS_WITH : Exa Z Z.heap w9 "com/example/pico_notify/piconotify/XPathExpr$Function") (E_CONTAINS : Exa Z Z.heap w10 "com/example/pico_notify/piconotify/XPathExpr$Function") (E_SUBSTRING_BEFORE : Exa Z Z.heap w11 "com/example/pico_notify/piconotify/XPathExpr$Function") (E_SUBSTRING_AFTER : Exa Z Z.heap w12 "com/example/pico_notify/piconotify/XPathExpr$Function") (E_SUBSTRING : Exa Z Z.heap w13 "com/example/pico_notify/piconotify/XPathExpr$Function") (E_STRING_LENGTH : Exa Z Z.heap w14 "com/example/pico_notify/piconotify/XPathExpr$Function") (E_NORMALIZE_SPACE : Exa Z Z.heap w15 "com/example/pico_notify/piconotify/XPathExpr$Function") (E_TRANSLATE : Exa Z Z.heap w16 "com/example/pico_notify/piconotify/XPathExpr$Function") (E_BOOLEAN : Exa Z Z.heap w17 "com/example/pico_notify/piconotify/XPathExpr$Function") (E_NOT : Exa Z Z.heap w18 "com/example/pico_notify/piconotify/XPathExpr$Function") (E_TRUE : Exa Z Z.heap w19 "com/example/pico_notify/piconotify/XPathExpr$Function") (E_FALSE : Exa Z Z.heap w20 "com/example/pico_notify/piconotify/XPathExpr$Function") (E_LANG : Exa Z Z.heap w21 "com/example/pico_notify/piconotify/XPathExpr$Function") (E_NUMBER : Exa Z Z.heap w22 "com/example/pico_notify/piconotify/XPathExpr$Function") (E_SUM : Exa Z Z.heap w23 "com/example/pico_notify/piconotify/XPathExpr$Function") (E_FLOOR : Exa Z Z.heap w24 "com/example/pico_notify/piconotify/XPathExpr$Function") (E_CEILING : Exa Z Z.heap w25 "com/example/pico_notify/piconotify/XPathExpr$Function") (E_ROUND : Exa Z Z.heap w26 "com/example/pico_notify/piconotify/XPathExpr$Function") (Fo_LAST : Fld Z Z.heap w0 "java/lang/Enum" "ordinal" "I" (.int (0 : Int32))) (Fo_POSITION : Fld Z Z.heap w1 "java/lang/Enum" "ordinal" "I" (.int (1 : Int32))) (Fo_COUNT : Fld Z Z.heap w2 "java/lang/Enum" "ordinal" "I" (.int (2 : Int32))) (Fo_ID : Fld Z Z.heap w3 "java/lang/Enum" "ordinal" "I" (.int (3 : Int32))) (Fo_LOCAL_NAME : Fld Z Z.heap w4 "java/lang/Enum" "ordinal" "I" (.int (4 : Int32))) (Fo_NAMESPACE_URI : Fld Z Z.heap w5 "java/lang/Enum" "ordinal" "I" (.int (5 : Int32))) (Fo_NAME : Fld Z Z.heap w6 "java/lang/Enum" "ordinal" "I" (.int (6 : Int32))) (Fo_STRING : Fld Z Z.heap w7 "java/lang/Enum" "ordinal" "I" (.int (7 : Int32))) (Fo_CONCAT : Fld Z Z.heap w8 "java/lang/Enum" "ordinal" "I" (.int (8 : Int32))) (Fo_STARTS_WITH : Fld Z Z.heap w9 "java/lang/Enum" "ordinal" "I" (.int (9 : Int32))) (Fo_CONTAINS : Fld Z Z.heap w10 "java/lang/Enum" "ordinal" "I" (.int (10 : Int32))) (Fo_SUBSTRING_BEFORE : Fld Z Z.heap w11 "java/lang/Enum" "ordinal" "I" (.int (11 : Int32))) (Fo_SUBSTRING_AFTER : Fld Z Z.heap w12 "java/lang/Enum" "ordinal" "I" (.int (12 : Int32))) (Fo_SUBSTRING : Fld Z Z.heap w13 "java/lang/Enum" "ordinal" "I" (.int (13 : Int32))) (Fo_STRING_LENGTH : Fld Z Z.heap w14 "java/lang/Enum" "ordinal" "I" (.int (14 : Int32))) (Fo_NORMALIZE_SPACE : Fld Z Z.heap w15 "java/lang/Enum" "ordinal" "I" (.int (15 : Int32))) (Fo_TRANSLATE : Fld Z Z.heap w16 "java/lang/Enum" "ordinal" "I" (.int (16 : Int32))) (Fo_BOOLEAN : Fld Z Z.heap w17 "java/lang/Enum" "ordinal" "I" (.int (17 : Int32))) (Fo_NOT : Fld Z Z.heap w18 "java/lang/Enum" "ordinal" "I" (.int (18 : Int32))) (Fo_TRUE : Fld Z Z.heap w19 "java/lang/Enum" "ordinal" "I" (.int (19 : Int32))) (Fo_FALSE : Fld Z Z.heap w20 "java/lang/Enum" "ordinal" "I" (.int (20 : Int32))) (Fo_LANG : Fld Z Z.heap w21 "java/lang/Enum" "ordinal" "I" (.int (21 : Int32))) (Fo_NUMBER : Fld Z Z.heap w22 "java/lang/Enum" "ordinal" "I" (.int (22 : Int32))) (Fo_SUM : Fld Z Z.heap w23 "java/lang/Enum" "ordinal" "I" (.int (23 : Int32))) (Fo_FLOOR : Fld Z Z.heap w24 "java/lang/Enum" "ordinal" "I" (.int (24 : Int32))) (Fo_CEILING : Fld Z Z.heap w25 "java/lang/Enum" "ordinal" "I" (.int (25 : Int32))) (Fo_ROUND : Fld Z Z.heap w26 "java/lang/Enum" "ordinal" "I" (.int (26 : Int32))) (Fm_LAST : Fld Z Z.heap w0 "com/example/pico_notify/piconotify/XPathExpr$Function" "most" "I" (.int (0 : Int32))) (Fm_POSITION : Fld Z Z.heap w1 "com/example/pico_notify/piconotify/XPathExpr$Function" "most" "I" (.int (0 : Int32))) (Fm_COUNT : Fld Z Z.heap w2 "com/example/pico_notify/piconotify/XPathExpr$Function" "most" "I" (.int (1 : Int32))) (Fm_ID : Fld Z Z.heap w3 "com/example/pico_notify/piconotify/XPathExpr$Function" "most" "I" (.int (1 : Int32))) (Fm_LOCAL_NAME : Fld Z Z.heap w4 "com/example/pico_notify/piconotify/XPathExpr$Function" "most" "I" (.int (1 : Int32))) (Fm_NAMESPACE_URI : Fld Z Z.heap w5 "com/example/pico_notify/piconotify/XPathExpr$Function" "most" "I" (.int (1 : Int32))) (Fm_NAME : Fld Z Z.heap w6 "com/example/pico_notify/piconotify/XPathExpr$Function" "most" "I" (.int (1 : Int32))) (Fm_STRING : Fld Z Z.heap w7 "com/example/pico_notify/piconotify/XPathExpr$Function" "most" "I" (.int (1 : Int32))) (Fm_CONCAT : Fld Z Z.heap w8 "com/example/pico_notify/piconotify/XPathExpr$Function" "most" "I" (.int (2147483647 : Int32))) (Fm_STARTS_WITH : Fld Z Z.heap w9 "com/example/pico_notify/piconotify/XPathExpr$Function" "most" "I" (.int (2 : Int32))) (Fm_CONTAINS : Fld Z Z.heap w10 "com/example/pico_notify/piconotify/XPathExpr$Function" "most" "I" (.int (2 : Int32))) (Fm_SUBSTRING_BEFORE : Fld Z Z.heap w11 "com/example/pico_notify/piconotify/XPathExpr$Function" "most" "I" (.int (2 : Int32))) (Fm_SUBSTRING_AFTER : Fld Z Z.heap w12 "com/example/pico_notify/piconotify/XPathExpr$Function" "most" "I" (.int (2 : Int32))) (Fm_SUBSTRING : Fld Z Z.heap w13 "com/example/pico_notify/piconotify/XPathExpr$Function" "most" "I" (.int (3 : Int32))) (Fm_STRING_LENGTH : Fld Z Z.heap w14 "com/example/pico_notify/piconotify/XPathExpr$Function" "most" "I" (.int (1 : Int32))) (Fm_NORMALIZE_SPACE : Fld Z Z.heap w15 "com/example/pico_notify/piconotify/XPathExpr$Function" "most" "I" (.int (1 : Int32))) (Fm_TRANSLATE : Fld Z Z.heap w16 "com/example/pico_notify/piconotify/XPathExpr$Function" "most" "I" (.int (3 : Int32))) (Fm_BOOLEAN : Fld Z Z.heap w17 "com/example/pico_notify/piconotify/XPathExpr$Function" "most" "I" (.int (1 : Int32))) (Fm_NOT : Fld Z Z.heap w18 "com/example/pico_notify/piconotify/XPathExpr$Function" "most" "I" (.int (1 : Int32))) (Fm_TRUE : Fld Z Z.heap w19 "com/example/pico_notify/piconotify/XPathExpr$Function" "most" "I" (.int (0 : Int32))) (Fm_FALSE : Fld Z Z.heap w20 "com/example/pico_notify/piconotify/XPathExpr$Function" "most" "I" (.int (0 : Int32))) (Fm_LANG : Fld Z Z.heap w21 "com/example/pico_notify/piconotify/XPathExpr$Function" "most" "I" (.int (1 : Int32))) (Fm_NUMBER : Fld Z Z.heap w22 "com/example/pico_notify/piconotify/XPathExpr$Function" "most" "I" (.int (1 : Int32))) (Fm_SUM : Fld Z Z.heap w23 "com/example/pico_notify/piconotify/XPathExpr$Function" "most" "I" (.int (1 : Int32))) (Fm_FLOOR : Fld Z Z.heap w24 "com/example/pico_notify/piconotify/XPathExpr$Function" "most" "I" (.int (1 : Int32))) (Fm_CEILING : Fld Z Z.heap w25 "com/example/pico_notify/piconotify/XPathExpr$Function" "most" "I" (.int (1 : Int32))) (Fm_ROUND : Fld Z Z.heap w26 "com/example/pico_notify/piconotify/XPathExpr$Function" "most" "I" (.int (1 : Int32))) :
    MetFree l x (head1 (Jvm.Cond.code x code maxLocals ret :: ws) room_1) (fun a U => a = #[(.int p1)] ∧ Z.Warmed39 U.vm ∧ U.heap = h0) (fun _ _ _ _ _ => True) (fun _ U o U' => ∃ v L, o = .returned v ∧ Q_rm_law Z p1 w0 w1 w2 w3 w4 w5 w6 w7 w8 w9 w10 w11 w12 w13 w14 w15 w16 w17 w18 w19 w20 w21 w22 w23 w24 w25 w26 h0 n0 v U'.heap L ∧ FrameEnd U o U' L room_1.cells room_1.slots) := by
  refine MetFree.of_bodySF (plainFor_of_name pn_1) hisR ?_
  intro p e s m args below meth c s₁ Bd hml0 hP hK
  obtain ⟨rfl, hZ, hh⟩ := hP
  have hx := Bd.exec
  have hby := Bd.bytes
  have hml : c.maxLocals = 6 := hml0
  have hown : s.vm.findClass "com/example/pico_notify/piconotify/FunctionTakesNodeSetsPinLaw" = some m.cls := findClass_of_methodNamed Bd.named
  have hnm := (name_of_methodNamed Bd.named Bd.method).1
  have X0 : Stand p l e room_1 s m #[(.int p1)] below meth c s₁ [] 0 0 := Stand.of_body Bd
  have e0 : s₁.heap = h0 := by rw [← hh, Bd.state]; rfl
  have N0 := Fr.nil n0
  have pre0 : ∀ t, Steps p.tables e below (s₁.setTop (mkF m 0 #[.val (.int p1), .unset, .unset, .unset, .unset, .unset] [])) t → Steps p.tables e below (s₁.setTop (entryFrame m #[(.int p1)] maxLocals)) t := fun t k => castTop (ef_rm_law m p1) k
  obtain ⟨T1, h1, k1, X1, e1, E1, A1, B1, V1, st1⟩ := newRE X0 hx hZ hown (own_w hw 0 rfl) (own_w hw 1 rfl) e0 (g := (mkF m 2 #[.val (.int p1), .unset, .unset, .unset, .unset, .unset] [(.int (27 : Int32))])) rfl (hb hby at_2) rfl (by decide) (cap := 27) (by decide) (by decide) (by decide) (by decide) (ad := "[Lcom/example/pico_notify/piconotify/XPathExpr$Function;") (by first | rfl | decide)
  obtain ⟨b1, g1⟩ : ∃ z, z = h0.size := ⟨_, rfl⟩
  have ge_b1 : n0 ≤ b1 := by rw [g1, ← O0.1]; exact O0.2.1
  rw [← g1] at A1 B1 st1
  have O2 := O0.ext E1
  have F1 : Arv Z h1 b1 k1 (.object "com/example/pico_notify/piconotify/XPathExpr$Function") (27 : Int32) [.null, .null, .null, .null, .null, .null, .null, .null, .null, .null, .null, .null, .null, .null, .null, .null, .null, .null, .null, .null, .null, .null, .null, .null, .null, .null, .null] .null := (Arv.new A1 (by decide)).pad (pad_rep [] .null 27)
  obtain ⟨T3, X3, e3, st3⟩ := getS2 X1 hx hZ hown (host := "") (Or.inl (own_w hw 2 rfl)) Via.refl e1 (S_LAST.ext O2.2) (g := (mkF m 7 #[.val (.int p1), .unset, .unset, .unset, .unset, .unset] [(.int (0 : Int32)), (.ref b1), (.ref b1)])) rfl (hb hby at_7)
  obtain ⟨cl4, Ar4, q4, Sz4, Nn4, Hh4, Gg4⟩ := id F1
  have in4 : ¬ ((0 : Int32) < 0 ∨ cl4.slots.size ≤ ((0 : Int32)).toNatClampNeg) := inb_of Sz4 ⟨by decide, by decide⟩
  obtain ⟨T4, h4, X4, e4, W4, st4⟩ := stR X3 hx hZ e3 Ar4 (j := (0 : Int32)) in4 rfl (Sto.ofV Ar4 q4 V1 (Ins.self (E_LAST.ext O2.2))) (g := (mkF m 10 #[.val (.int p1), .unset, .unset, .unset, .unset, .unset] [(.ref w0), (.int (0 : Int32)), (.ref b1), (.ref b1)])) rfl rfl (hb hby at_10)
  have O5 := O2.wr W4 ge_b1
  have N6 := Fr.snoc X4 N0 ge_b1
  have F4 : Arv Z h4 b1 k1 (.object "com/example/pico_notify/piconotify/XPathExpr$Function") (27 : Int32) [(.ref w0), .null, .null, .null, .null, .null, .null, .null, .null, .null, .null, .null, .null, .null, .null, .null, .null, .null, .null, .null, .null, .null, .null, .null, .null, .null, .null] .null := Arv.set Ar4 q4 Sz4 Nn4 Hh4 Gg4 rfl W4 0 rfl (Nat.le_of_ble_eq_true rfl)
  obtain ⟨T7, X7, e7, st7⟩ := getS2 X4 hx hZ hown (host := "") (Or.inl (own_w hw 6 rfl)) Via.refl e4 (S_POSITION.ext O5.2) (g := (mkF m 13 #[.val (.int p1), .unset, .unset, .unset, .unset, .unset] [(.int (1 : Int32)), (.ref b1), (.ref b1)])) rfl (hb hby at_13)
  obtain ⟨cl8, Ar8, q8, Sz8, Nn8, Hh8, Gg8⟩ := id F4
  have in8 : ¬ ((1 : Int32) < 0 ∨ cl8.slots.size ≤ ((1 : Int32)).toNatClampNeg) := inb_of Sz8 ⟨by decide, by decide⟩
  obtain ⟨T8, h8, X8, e8, W8, st8⟩ := stR X7 hx hZ e7 Ar8 (j := (1 : Int32)) in8 rfl (Sto.ofV Ar8 q8 V1 (Ins.self (E_POSITION.ext O5.2))) (g := (mkF m 16 #[.val (.int p1), .unset, .unset, .unset, .unset, .unset] [(.ref w1), (.int (1 : Int32)), (.ref b1), (.ref b1)])) rfl rfl (hb hby at_16)
  have O9 := O5.wr W8 ge_b1
  have N10 := Fr.snoc X8 N6 ge_b1
  have F8 : Arv Z h8 b1 k1 (.object "com/example/pico_notify/piconotify/XPathExpr$Function") (27 : Int32) [(.ref w0), (.ref w1), .null, .null, .null, .null, .null, .null, .null, .null, .null, .null, .null, .null, .null, .null, .null, .null, .null, .null, .null, .null, .null, .null, .null, .null, .null] .null := Arv.set Ar8 q8 Sz8 Nn8 Hh8 Gg8 rfl W8 1 rfl (Nat.le_of_ble_eq_true rfl)
  obtain ⟨T11, X11, e11, st11⟩ := getS2 X8 hx hZ hown (host := "") (Or.inl (own_w hw 8 rfl)) Via.refl e8 (S_COUNT.ext O9.2) (g := (mkF m 19 #[.val (.int p1), .unset, .unset, .unset, .unset, .unset] [(.int (2 : Int32)), (.ref b1), (.ref b1)])) rfl (hb hby at_19)
  obtain ⟨cl12, Ar12, q12, Sz12, Nn12, Hh12, Gg12⟩ := id F8
  have in12 : ¬ ((2 : Int32) < 0 ∨ cl12.slots.size ≤ ((2 : Int32)).toNatClampNeg) := inb_of Sz12 ⟨by decide, by decide⟩
  obtain ⟨T12, h12, X12, e12, W12, st12⟩ := stR X11 hx hZ e11 Ar12 (j := (2 : Int32)) in12 rfl (Sto.ofV Ar12 q12 V1 (Ins.self (E_COUNT.ext O9.2))) (g := (mkF m 22 #[.val (.int p1), .unset, .unset, .unset, .unset, .unset] [(.ref w2), (.int (2 : Int32)), (.ref b1), (.ref b1)])) rfl rfl (hb hby at_22)
  have O13 := O9.wr W12 ge_b1
  have N14 := Fr.snoc X12 N10 ge_b1
  have F12 : Arv Z h12 b1 k1 (.object "com/example/pico_notify/piconotify/XPathExpr$Function") (27 : Int32) [(.ref w0), (.ref w1), (.ref w2), .null, .null, .null, .null, .null, .null, .null, .null, .null, .null, .null, .null, .null, .null, .null, .null, .null, .null, .null, .null, .null, .null, .null, .null] .null := Arv.set Ar12 q12 Sz12 Nn12 Hh12 Gg12 rfl W12 2 rfl (Nat.le_of_ble_eq_true rfl)
  obtain ⟨T15, X15, e15, st15⟩ := getS2 X12 hx hZ hown (host := "") (Or.inl (own_w hw 10 rfl)) Via.refl e12 (S_ID.ext O13.2) (g := (mkF m 25 #[.val (.int p1), .unset, .unset, .unset, .unset, .unset] [(.int (3 : Int32)), (.ref b1), (.ref b1)])) rfl (hb hby at_25)
  obtain ⟨cl16, Ar16, q16, Sz16, Nn16, Hh16, Gg16⟩ := id F12
  have in16 : ¬ ((3 : Int32) < 0 ∨ cl16.slots.size ≤ ((3 : Int32)).toNatClampNeg) := inb_of Sz16 ⟨by decide, by decide⟩
  obtain ⟨T16, h16, X16, e16, W16, st16⟩ := stR X15 hx hZ e15 Ar16 (j := (3 : Int32)) in16 rfl (Sto.ofV Ar16 q16 V1 (Ins.self (E_ID.ext O13.2))) (g := (mkF m 28 #[.val (.int p1), .unset, .unset, .unset, .unset, .unset] [(.ref w3), (.int (3 : Int32)), (.ref b1), (.ref b1)])) rfl rfl (hb hby at_28)
  have O17 := O13.wr W16 ge_b1
  have N18 := Fr.snoc X16 N14 ge_b1
  have F16 : Arv Z h16 b1 k1 (.object "com/example/pico_notify/piconotify/XPathExpr$Function") (27 : Int32) [(.ref w0), (.ref w1), (.ref w2), (.ref w3), .null, .null, .null, .null, .null, .null, .null, .null, .null, .null, .null, .null, .null, .null, .null, .null, .null, .null, .null, .null, .null, .null, .null] .null := Arv.set Ar16 q16 Sz16 Nn16 Hh16 Gg16 rfl W16 3 rfl (Nat.le_of_ble_eq_true rfl)
  obtain ⟨T19, X19, e19, st19⟩ := getS2 X16 hx hZ hown (host := "") (Or.inl (own_w hw 12 rfl)) Via.refl e16 (S_LOCAL_NAME.ext O17.2) (g := (mkF m 31 #[.val (.int p1), .unset, .unset, .unset, .unset, .unset] [(.int (4 : Int32)), (.ref b1), (.ref b1)])) rfl (hb hby at_31)
  obtain ⟨cl20, Ar20, q20, Sz20, Nn20, Hh20, Gg20⟩ := id F16
  have in20 : ¬ ((4 : Int32) < 0 ∨ cl20.slots.size ≤ ((4 : Int32)).toNatClampNeg) := inb_of Sz20 ⟨by decide, by decide⟩
  obtain ⟨T20, h20, X20, e20, W20, st20⟩ := stR X19 hx hZ e19 Ar20 (j := (4 : Int32)) in20 rfl (Sto.ofV Ar20 q20 V1 (Ins.self (E_LOCAL_NAME.ext O17.2))) (g := (mkF m 34 #[.val (.int p1), .unset, .unset, .unset, .unset, .unset] [(.ref w4), (.int (4 : Int32)), (.ref b1), (.ref b1)])) rfl rfl (hb hby at_34)
  have O21 := O17.wr W20 ge_b1
  have N22 := Fr.snoc X20 N18 ge_b1
  have F20 : Arv Z h20 b1 k1 (.object "com/example/pico_notify/piconotify/XPathExpr$Function") (27 : Int32) [(.ref w0), (.ref w1), (.ref w2), (.ref w3), (.ref w4), .null, .null, .null, .null, .null, .null, .null, .null, .null, .null, .null, .null, .null, .null, .null, .null, .null, .null, .null, .null, .null, .null] .null := Arv.set Ar20 q20 Sz20 Nn20 Hh20 Gg20 rfl W20 4 rfl (Nat.le_of_ble_eq_true rfl)
  obtain ⟨T23, X23, e23, st23⟩ := getS2 X20 hx hZ hown (host := "") (Or.inl (own_w hw 14 rfl)) Via.refl e20 (S_NAMESPACE_URI.ext O21.2) (g := (mkF m 37 #[.val (.int p1), .unset, .unset, .unset, .unset, .unset] [(.int (5 : Int32)), (.ref b1), (.ref b1)])) rfl (hb hby at_37)
  obtain ⟨cl24, Ar24, q24, Sz24, Nn24, Hh24, Gg24⟩ := id F20
  have in24 : ¬ ((5 : Int32) < 0 ∨ cl24.slots.size ≤ ((5 : Int32)).toNatClampNeg) := inb_of Sz24 ⟨by decide, by decide⟩
  obtain ⟨T24, h24, X24, e24, W24, st24⟩ := stR X23 hx hZ e23 Ar24 (j := (5 : Int32)) in24 rfl (Sto.ofV Ar24 q24 V1 (Ins.self (E_NAMESPACE_URI.ext O21.2))) (g := (mkF m 40 #[.val (.int p1), .unset, .unset, .unset, .unset, .unset] [(.ref w5), (.int (5 : Int32)), (.ref b1), (.ref b1)])) rfl rfl (hb hby at_40)
  have O25 := O21.wr W24 ge_b1
  have N26 := Fr.snoc X24 N22 ge_b1
  have F24 : Arv Z h24 b1 k1 (.object "com/example/pico_notify/piconotify/XPathExpr$Function") (27 : Int32) [(.ref w0), (.ref w1), (.ref w2), (.ref w3), (.ref w4), (.ref w5), .null, .null, .null, .null, .null, .null, .null, .null, .null, .null, .null, .null, .null, .null, .null, .null, .null, .null, .null, .null, .null] .null := Arv.set Ar24 q24 Sz24 Nn24 Hh24 Gg24 rfl W24 5 rfl (Nat.le_of_ble_eq_true rfl)
  obtain ⟨T27, X27, e27, st27⟩ := getS2 X24 hx hZ hown (host := "") (Or.inl (own_w hw 16 rfl)) Via.refl e24 (S_NAME.ext O25.2) (g := (mkF m 44 #[.val (.int p1), .unset, .unset, .unset, .unset, .unset] [(.int (6 : Int32)), (.ref b1), (.ref b1)])) rfl (hb hby at_44)
  obtain ⟨cl28, Ar28, q28, Sz28, Nn28, Hh28, Gg28⟩ := id F24
  have in28 : ¬ ((6 : Int32) < 0 ∨ cl28.slots.size ≤ ((6 : Int32)).toNatClampNeg) := inb_of Sz28 ⟨by decide, by decide⟩
  obtain ⟨T28, h28, X28, e28, W28, st28⟩ := stR X27 hx hZ e27 Ar28 (j := (6 : Int32)) in28 rfl (Sto.ofV Ar28 q28 V1 (Ins.self (E_NAME.ext O25.2))) (g := (mkF m 47 #[.val (.int p1), .unset, .unset, .unset, .unset, .unset] [(.ref w6), (.int (6 : Int32)), (.ref b1), (.ref b1)])) rfl rfl (hb hby at_47)
  have O29 := O25.wr W28 ge_b1
  have N30 := Fr.snoc X28 N26 ge_b1
  have F28 : Arv Z h28 b1 k1 (.object "com/example/pico_notify/piconotify/XPathExpr$Function") (27 : Int32) [(.ref w0), (.ref w1), (.ref w2), (.ref w3), (.ref w4), (.ref w5), (.ref w6), .null, .null, .null, .null, .null, .null, .null, .null, .null, .null, .null, .null, .null, .null, .null, .null, .null, .null, .null, .null] .null := Arv.set Ar28 q28 Sz28 Nn28 Hh28 Gg28 rfl W28 6 rfl (Nat.le_of_ble_eq_true rfl)
  obtain ⟨T31, X31, e31, st31⟩ := getS2 X28 hx hZ hown (host := "") (Or.inl (own_w hw 18 rfl)) Via.refl e28 (S_STRING.ext O29.2) (g := (mkF m 51 #[.val (.int p1), .unset, .unset, .unset, .unset, .unset] [(.int (7 : Int32)), (.ref b1), (.ref b1)])) rfl (hb hby at_51)
  obtain ⟨cl32, Ar32, q32, Sz32, Nn32, Hh32, Gg32⟩ := id F28
  have in32 : ¬ ((7 : Int32) < 0 ∨ cl32.slots.size ≤ ((7 : Int32)).toNatClampNeg) := inb_of Sz32 ⟨by decide, by decide⟩
  obtain ⟨T32, h32, X32, e32, W32, st32⟩ := stR X31 hx hZ e31 Ar32 (j := (7 : Int32)) in32 rfl (Sto.ofV Ar32 q32 V1 (Ins.self (E_STRING.ext O29.2))) (g := (mkF m 54 #[.val (.int p1), .unset, .unset, .unset, .unset, .unset] [(.ref w7), (.int (7 : Int32)), (.ref b1), (.ref b1)])) rfl rfl (hb hby at_54)
  have O33 := O29.wr W32 ge_b1
  have N34 := Fr.snoc X32 N30 ge_b1
  have F32 : Arv Z h32 b1 k1 (.object "com/example/pico_notify/piconotify/XPathExpr$Function") (27 : Int32) [(.ref w0), (.ref w1), (.ref w2), (.ref w3), (.ref w4), (.ref w5), (.ref w6), (.ref w7), .null, .null, .null, .null, .null, .null, .null, .null, .null, .null, .null, .null, .null, .null, .null, .null, .null, .null, .null] .null := Arv.set Ar32 q32 Sz32 Nn32 Hh32 Gg32 rfl W32 7 rfl (Nat.le_of_ble_eq_true rfl)
  obtain ⟨T35, X35, e35, st35⟩ := getS2 X32 hx hZ hown (host := "") (Or.inl (own_w hw 20 rfl)) Via.refl e32 (S_CONCAT.ext O33.2) (g := (mkF m 58 #[.val (.int p1), .unset, .unset, .unset, .unset, .unset] [(.int (8 : Int32)), (.ref b1), (.ref b1)])) rfl (hb hby at_58)
  obtain ⟨cl36, Ar36, q36, Sz36, Nn36, Hh36, Gg36⟩ := id F32
  have in36 : ¬ ((8 : Int32) < 0 ∨ cl36.slots.size ≤ ((8 : Int32)).toNatClampNeg) := inb_of Sz36 ⟨by decide, by decide⟩
  obtain ⟨T36, h36, X36, e36, W36, st36⟩ := stR X35 hx hZ e35 Ar36 (j := (8 : Int32)) in36 rfl (Sto.ofV Ar36 q36 V1 (Ins.self (E_CONCAT.ext O33.2))) (g := (mkF m 61 #[.val (.int p1), .unset, .unset, .unset, .unset, .unset] [(.ref w8), (.int (8 : Int32)), (.ref b1), (.ref b1)])) rfl rfl (hb hby at_61)
  have O37 := O33.wr W36 ge_b1
  have N38 := Fr.snoc X36 N34 ge_b1
  have F36 : Arv Z h36 b1 k1 (.object "com/example/pico_notify/piconotify/XPathExpr$Function") (27 : Int32) [(.ref w0), (.ref w1), (.ref w2), (.ref w3), (.ref w4), (.ref w5), (.ref w6), (.ref w7), (.ref w8), .null, .null, .null, .null, .null, .null, .null, .null, .null, .null, .null, .null, .null, .null, .null, .null, .null, .null] .null := Arv.set Ar36 q36 Sz36 Nn36 Hh36 Gg36 rfl W36 8 rfl (Nat.le_of_ble_eq_true rfl)
  obtain ⟨T39, X39, e39, st39⟩ := getS2 X36 hx hZ hown (host := "") (Or.inl (own_w hw 22 rfl)) Via.refl e36 (S_STARTS_WITH.ext O37.2) (g := (mkF m 65 #[.val (.int p1), .unset, .unset, .unset, .unset, .unset] [(.int (9 : Int32)), (.ref b1), (.ref b1)])) rfl (hb hby at_65)
  obtain ⟨cl40, Ar40, q40, Sz40, Nn40, Hh40, Gg40⟩ := id F36
  have in40 : ¬ ((9 : Int32) < 0 ∨ cl40.slots.size ≤ ((9 : Int32)).toNatClampNeg) := inb_of Sz40 ⟨by decide, by decide⟩
  obtain ⟨T40, h40, X40, e40, W40, st40⟩ := stR X39 hx hZ e39 Ar40 (j := (9 : Int32)) in40 rfl (Sto.ofV Ar40 q40 V1 (Ins.self (E_STARTS_WITH.ext O37.2))) (g := (mkF m 68 #[.val (.int p1), .unset, .unset, .unset, .unset, .unset] [(.ref w9), (.int (9 : Int32)), (.ref b1), (.ref b1)])) rfl rfl (hb hby at_68)
  have O41 := O37.wr W40 ge_b1
  have N42 := Fr.snoc X40 N38 ge_b1
  have F40 : Arv Z h40 b1 k1 (.object "com/example/pico_notify/piconotify/XPathExpr$Function") (27 : Int32) [(.ref w0), (.ref w1), (.ref w2), (.ref w3), (.ref w4), (.ref w5), (.ref w6), (.ref w7), (.ref w8), (.ref w9), .null, .null, .null, .null, .null, .null, .null, .null, .null, .null, .null, .null, .null, .null, .null, .null, .null] .null := Arv.set Ar40 q40 Sz40 Nn40 Hh40 Gg40 rfl W40 9 rfl (Nat.le_of_ble_eq_true rfl)
  obtain ⟨T43, X43, e43, st43⟩ := getS2 X40 hx hZ hown (host := "") (Or.inl (own_w hw 24 rfl)) Via.refl e40 (S_CONTAINS.ext O41.2) (g := (mkF m 72 #[.val (.int p1), .unset, .unset, .unset, .unset, .unset] [(.int (10 : Int32)), (.ref b1), (.ref b1)])) rfl (hb hby at_72)
  obtain ⟨cl44, Ar44, q44, Sz44, Nn44, Hh44, Gg44⟩ := id F40
  have in44 : ¬ ((10 : Int32) < 0 ∨ cl44.slots.size ≤ ((10 : Int32)).toNatClampNeg) := inb_of Sz44 ⟨by decide, by decide⟩
  obtain ⟨T44, h44, X44, e44, W44, st44⟩ := stR X43 hx hZ e43 Ar44 (j := (10 : Int32)) in44 rfl (Sto.ofV Ar44 q44 V1 (Ins.self (E_CONTAINS.ext O41.2))) (g := (mkF m 75 #[.val (.int p1), .unset, .unset, .unset, .unset, .unset] [(.ref w10), (.int (10 : Int32)), (.ref b1), (.ref b1)])) rfl rfl (hb hby at_75)
  have O45 := O41.wr W44 ge_b1
  have N46 := Fr.snoc X44 N42 ge_b1
  have F44 : Arv Z h44 b1 k1 (.object "com/example/pico_notify/piconotify/XPathExpr$Function") (27 : Int32) [(.ref w0), (.ref w1), (.ref w2), (.ref w3), (.ref w4), (.ref w5), (.ref w6), (.ref w7), (.ref w8), (.ref w9), (.ref w10), .null, .null, .null, .null, .null, .null, .null, .null, .null, .null, .null, .null, .null, .null, .null, .null] .null := Arv.set Ar44 q44 Sz44 Nn44 Hh44 Gg44 rfl W44 10 rfl (Nat.le_of_ble_eq_true rfl)
  obtain ⟨T47, X47, e47, st47⟩ := getS2 X44 hx hZ hown (host := "") (Or.inl (own_w hw 26 rfl)) Via.refl e44 (S_SUBSTRING_BEFORE.ext O45.2) (g := (mkF m 79 #[.val (.int p1), .unset, .unset, .unset, .unset, .unset] [(.int (11 : Int32)), (.ref b1), (.ref b1)])) rfl (hb hby at_79)
  obtain ⟨cl48, Ar48, q48, Sz48, Nn48, Hh48, Gg48⟩ := id F44
  have in48 : ¬ ((11 : Int32) < 0 ∨ cl48.slots.size ≤ ((11 : Int32)).toNatClampNeg) := inb_of Sz48 ⟨by decide, by decide⟩
  obtain ⟨T48, h48, X48, e48, W48, st48⟩ := stR X47 hx hZ e47 Ar48 (j := (11 : Int32)) in48 rfl (Sto.ofV Ar48 q48 V1 (Ins.self (E_SUBSTRING_BEFORE.ext O45.2))) (g := (mkF m 82 #[.val (.int p1), .unset, .unset, .unset, .unset, .unset] [(.ref w11), (.int (11 : Int32)), (.ref b1), (.ref b1)])) rfl rfl (hb hby at_82)
  have O49 := O45.wr W48 ge_b1
  have N50 := Fr.snoc X48 N46 ge_b1
  have F48 : Arv Z h48 b1 k1 (.object "com/example/pico_notify/piconotify/XPathExpr$Function") (27 : Int32) [(.ref w0), (.ref w1), (.ref w2), (.ref w3), (.ref w4), (.ref w5), (.ref w6), (.ref w7), (.ref w8), (.ref w9), (.ref w10), (.ref w11), .null, .null, .null, .null, .null, .null, .null, .null, .null, .null, .null, .null, .null, .null, .null] .null := Arv.set Ar48 q48 Sz48 Nn48 Hh48 Gg48 rfl W48 11 rfl (Nat.le_of_ble_eq_true rfl)
  obtain ⟨T51, X51, e51, st51⟩ := getS2 X48 hx hZ hown (host := "") (Or.inl (own_w hw 28 rfl)) Via.refl e48 (S_SUBSTRING_AFTER.ext O49.2) (g := (mkF m 86 #[.val (.int p1), .unset, .unset, .unset, .unset, .unset] [(.int (12 : Int32)), (.ref b1), (.ref b1)])) rfl (hb hby at_86)
  obtain ⟨cl52, Ar52, q52, Sz52, Nn52, Hh52, Gg52⟩ := id F48
  have in52 : ¬ ((12 : Int32) < 0 ∨ cl52.slots.size ≤ ((12 : Int32)).toNatClampNeg) := inb_of Sz52 ⟨by decide, by decide⟩
  obtain ⟨T52, h52, X52, e52, W52, st52⟩ := stR X51 hx hZ e51 Ar52 (j := (12 : Int32)) in52 rfl (Sto.ofV Ar52 q52 V1 (Ins.self (E_SUBSTRING_AFTER.ext O49.2))) (g := (mkF m 89 #[.val (.int p1), .unset, .unset, .unset, .unset, .unset] [(.ref w12), (.int (12 : Int32)), (.ref b1), (.ref b1)])) rfl rfl (hb hby at_89)
  have O53 := O49.wr W52 ge_b1
  have N54 := Fr.snoc X52 N50 ge_b1
  have F52 : Arv Z h52 b1 k1 (.object "com/example/pico_notify/piconotify/XPathExpr$Function") (27 : Int32) [(.ref w0), (.ref w1), (.ref w2), (.ref w3), (.ref w4), (.ref w5), (.ref w6), (.ref w7), (.ref w8), (.ref w9), (.ref w10), (.ref w11), (.ref w12), .null, .null, .null, .null, .null, .null, .null, .null, .null, .null, .null, .null, .null, .null] .null := Arv.set Ar52 q52 Sz52 Nn52 Hh52 Gg52 rfl W52 12 rfl (Nat.le_of_ble_eq_true rfl)
  obtain ⟨T55, X55, e55, st55⟩ := getS2 X52 hx hZ hown (host := "") (Or.inl (own_w hw 30 rfl)) Via.refl e52 (S_SUBSTRING.ext O53.2) (g := (mkF m 93 #[.val (.int p1), .unset, .unset, .unset, .unset, .unset] [(.int (13 : Int32)), (.ref b1), (.ref b1)])) rfl (hb hby at_93)
  obtain ⟨cl56, Ar56, q56, Sz56, Nn56, Hh56, Gg56⟩ := id F52
  have in56 : ¬ ((13 : Int32) < 0 ∨ cl56.slots.size ≤ ((13 : Int32)).toNatClampNeg) := inb_of Sz56 ⟨by decide, by decide⟩
  obtain ⟨T56, h56, X56, e56, W56, st56⟩ := stR X55 hx hZ e55 Ar56 (j := (13 : Int32)) in56 rfl (Sto.ofV Ar56 q56 V1 (Ins.self (E_SUBSTRING.ext O53.2))) (g := (mkF m 96 #[.val (.int p1), .unset, .unset, .unset, .unset, .unset] [(.ref w13), (.int (13 : Int32)), (.ref b1), (.ref b1)])) rfl rfl (hb hby at_96)
  have O57 := O53.wr W56 ge_b1
  have N58 := Fr.snoc X56 N54 ge_b1
  have F56 : Arv Z h56 b1 k1 (.object "com/example/pico_notify/piconotify/XPathExpr$Function") (27 : Int32) [(.ref w0), (.ref w1), (.ref w2), (.ref w3), (.ref w4), (.ref w5), (.ref w6), (.ref w7), (.ref w8), (.ref w9), (.ref w10), (.ref w11), (.ref w12), (.ref w13), .null, .null, .null, .null, .null, .null, .null, .null, .null, .null, .null, .null, .null] .null := Arv.set Ar56 q56 Sz56 Nn56 Hh56 Gg56 rfl W56 13 rfl (Nat.le_of_ble_eq_true rfl)
  obtain ⟨T59, X59, e59, st59⟩ := getS2 X56 hx hZ hown (host := "") (Or.inl (own_w hw 32 rfl)) Via.refl e56 (S_STRING_LENGTH.ext O57.2) (g := (mkF m 100 #[.val (.int p1), .unset, .unset, .unset, .unset, .unset] [(.int (14 : Int32)), (.ref b1), (.ref b1)])) rfl (hb hby at_100)
  obtain ⟨cl60, Ar60, q60, Sz60, Nn60, Hh60, Gg60⟩ := id F56
  have in60 : ¬ ((14 : Int32) < 0 ∨ cl60.slots.size ≤ ((14 : Int32)).toNatClampNeg) := inb_of Sz60 ⟨by decide, by decide⟩
  obtain ⟨T60, h60, X60, e60, W60, st60⟩ := stR X59 hx hZ e59 Ar60 (j := (14 : Int32)) in60 rfl (Sto.ofV Ar60 q60 V1 (Ins.self (E_STRING_LENGTH.ext O57.2))) (g := (mkF m 103 #[.val (.int p1), .unset, .unset, .unset, .unset, .unset] [(.ref w14), (.int (14 : Int32)), (.ref b1), (.ref b1)])) rfl rfl (hb hby at_103)
  have O61 := O57.wr W60 ge_b1
  have N62 := Fr.snoc X60 N58 ge_b1
  have F60 : Arv Z h60 b1 k1 (.object "com/example/pico_notify/piconotify/XPathExpr$Function") (27 : Int32) [(.ref w0), (.ref w1), (.ref w2), (.ref w3), (.ref w4), (.ref w5), (.ref w6), (.ref w7), (.ref w8), (.ref w9), (.ref w10), (.ref w11), (.ref w12), (.ref w13), (.ref w14), .null, .null, .null, .null, .null, .null, .null, .null, .null, .null, .null, .null] .null := Arv.set Ar60 q60 Sz60 Nn60 Hh60 Gg60 rfl W60 14 rfl (Nat.le_of_ble_eq_true rfl)
  obtain ⟨T63, X63, e63, st63⟩ := getS2 X60 hx hZ hown (host := "") (Or.inl (own_w hw 34 rfl)) Via.refl e60 (S_NORMALIZE_SPACE.ext O61.2) (g := (mkF m 107 #[.val (.int p1), .unset, .unset, .unset, .unset, .unset] [(.int (15 : Int32)), (.ref b1), (.ref b1)])) rfl (hb hby at_107)
  obtain ⟨cl64, Ar64, q64, Sz64, Nn64, Hh64, Gg64⟩ := id F60
  have in64 : ¬ ((15 : Int32) < 0 ∨ cl64.slots.size ≤ ((15 : Int32)).toNatClampNeg) := inb_of Sz64 ⟨by decide, by decide⟩
  obtain ⟨T64, h64, X64, e64, W64, st64⟩ := stR X63 hx hZ e63 Ar64 (j := (15 : Int32)) in64 rfl (Sto.ofV Ar64 q64 V1 (Ins.self (E_NORMALIZE_SPACE.ext O61.2))) (g := (mkF m 110 #[.val (.int p1), .unset, .unset, .unset, .unset, .unset] [(.ref w15), (.int (15 : Int32)), (.ref b1), (.ref b1)])) rfl rfl (hb hby at_110)
  have O65 := O61.wr W64 ge_b1
  have N66 := Fr.snoc X64 N62 ge_b1
  have F64 : Arv Z h64 b1 k1 (.object "com/example/pico_notify/piconotify/XPathExpr$Function") (27 : Int32) [(.ref w0), (.ref w1), (.ref w2), (.ref w3), (.ref w4), (.ref w5), (.ref w6), (.ref w7), (.ref w8), (.ref w9), (.ref w10), (.ref w11), (.ref w12), (.ref w13), (.ref w14), (.ref w15), .null, .null, .null, .null, .null, .null, .null, .null, .null, .null, .null] .null := Arv.set Ar64 q64 Sz64 Nn64 Hh64 Gg64 rfl W64 15 rfl (Nat.le_of_ble_eq_true rfl)
  obtain ⟨T67, X67, e67, st67⟩ := getS2 X64 hx hZ hown (host := "") (Or.inl (own_w hw 36 rfl)) Via.refl e64 (S_TRANSLATE.ext O65.2) (g := (mkF m 114 #[.val (.int p1), .unset, .unset, .unset, .unset, .unset] [(.int (16 : Int32)), (.ref b1), (.ref b1)])) rfl (hb hby at_114)
  obtain ⟨cl68, Ar68, q68, Sz68, Nn68, Hh68, Gg68⟩ := id F64
  have in68 : ¬ ((16 : Int32) < 0 ∨ cl68.slots.size ≤ ((16 : Int32)).toNatClampNeg) := inb_of Sz68 ⟨by decide, by decide⟩
  obtain ⟨T68, h68, X68, e68, W68, st68⟩ := stR X67 hx hZ e67 Ar68 (j := (16 : Int32)) in68 rfl (Sto.ofV Ar68 q68 V1 (Ins.self (E_TRANSLATE.ext O65.2))) (g := (mkF m 117 #[.val (.int p1), .unset, .unset, .unset, .unset, .unset] [(.ref w16), (.int (16 : Int32)), (.ref b1), (.ref b1)])) rfl rfl (hb hby at_117)
  have O69 := O65.wr W68 ge_b1
  have N70 := Fr.snoc X68 N66 ge_b1
  have F68 : Arv Z h68 b1 k1 (.object "com/example/pico_notify/piconotify/XPathExpr$Function") (27 : Int32) [(.ref w0), (.ref w1), (.ref w2), (.ref w3), (.ref w4), (.ref w5), (.ref w6), (.ref w7), (.ref w8), (.ref w9), (.ref w10), (.ref w11), (.ref w12), (.ref w13), (.ref w14), (.ref w15), (.ref w16), .null, .null, .null, .null, .null, .null, .null, .null, .null, .null] .null := Arv.set Ar68 q68 Sz68 Nn68 Hh68 Gg68 rfl W68 16 rfl (Nat.le_of_ble_eq_true rfl)
  obtain ⟨T71, X71, e71, st71⟩ := getS2 X68 hx hZ hown (host := "") (Or.inl (own_w hw 38 rfl)) Via.refl e68 (S_BOOLEAN.ext O69.2) (g := (mkF m 121 #[.val (.int p1), .unset, .unset, .unset, .unset, .unset] [(.int (17 : Int32)), (.ref b1), (.ref b1)])) rfl (hb hby at_121)
  obtain ⟨cl72, Ar72, q72, Sz72, Nn72, Hh72, Gg72⟩ := id F68
  have in72 : ¬ ((17 : Int32) < 0 ∨ cl72.slots.size ≤ ((17 : Int32)).toNatClampNeg) := inb_of Sz72 ⟨by decide, by decide⟩
  obtain ⟨T72, h72, X72, e72, W72, st72⟩ := stR X71 hx hZ e71 Ar72 (j := (17 : Int32)) in72 rfl (Sto.ofV Ar72 q72 V1 (Ins.self (E_BOOLEAN.ext O69.2))) (g := (mkF m 124 #[.val (.int p1), .unset, .unset, .unset, .unset, .unset] [(.ref w17), (.int (17 : Int32)), (.ref b1), (.ref b1)])) rfl rfl (hb hby at_124)
  have O73 := O69.wr W72 ge_b1
  have N74 := Fr.snoc X72 N70 ge_b1
  have F72 : Arv Z h72 b1 k1 (.object "com/example/pico_notify/piconotify/XPathExpr$Function") (27 : Int32) [(.ref w0), (.ref w1), (.ref w2), (.ref w3), (.ref w4), (.ref w5), (.ref w6), (.ref w7), (.ref w8), (.ref w9), (.ref w10), (.ref w11), (.ref w12), (.ref w13), (.ref w14), (.ref w15), (.ref w16), (.ref w17), .null, .null, .null, .null, .null, .null, .null, .null, .null] .null := Arv.set Ar72 q72 Sz72 Nn72 Hh72 Gg72 rfl W72 17 rfl (Nat.le_of_ble_eq_true rfl)
  obtain ⟨T75, X75, e75, st75⟩ := getS2 X72 hx hZ hown (host := "") (Or.inl (own_w hw 40 rfl)) Via.refl e72 (S_NOT.ext O73.2) (g := (mkF m 128 #[.val (.int p1), .unset, .unset, .unset, .unset, .unset] [(.int (18 : Int32)), (.ref b1), (.ref b1)])) rfl (hb hby at_128)
  obtain ⟨cl76, Ar76, q76, Sz76, Nn76, Hh76, Gg76⟩ := id F72
  have in76 : ¬ ((18 : Int32) < 0 ∨ cl76.slots.size ≤ ((18 : Int32)).toNatClampNeg) := inb_of Sz76 ⟨by decide, by decide⟩
  obtain ⟨T76, h76, X76, e76, W76, st76⟩ := stR X75 hx hZ e75 Ar76 (j := (18 : Int32)) in76 rfl (Sto.ofV Ar76 q76 V1 (Ins.self (E_NOT.ext O73.2))) (g := (mkF m 131 #[.val (.int p1), .unset, .unset, .unset, .unset, .unset] [(.ref w18), (.int (18 : Int32)), (.ref b1), (.ref b1)])) rfl rfl (hb hby at_131)
  have O77 := O73.wr W76 ge_b1
  have N78 := Fr.snoc X76 N74 ge_b1
  have F76 : Arv Z h76 b1 k1 (.object "com/example/pico_notify/piconotify/XPathExpr$Function") (27 : Int32) [(.ref w0), (.ref w1), (.ref w2), (.ref w3), (.ref w4), (.ref w5), (.ref w6), (.ref w7), (.ref w8), (.ref w9), (.ref w10), (.ref w11), (.ref w12), (.ref w13), (.ref w14), (.ref w15), (.ref w16), (.ref w17), (.ref w18), .null, .null, .null, .null, .null, .null, .null, .null] .null := Arv.set Ar76 q76 Sz76 Nn76 Hh76 Gg76 rfl W76 18 rfl (Nat.le_of_ble_eq_true rfl)
  obtain ⟨T79, X79, e79, st79⟩ := getS2 X76 hx hZ hown (host := "") (Or.inl (own_w hw 42 rfl)) Via.refl e76 (S_TRUE.ext O77.2) (g := (mkF m 135 #[.val (.int p1), .unset, .unset, .unset, .unset, .unset] [(.int (19 : Int32)), (.ref b1), (.ref b1)])) rfl (hb hby at_135)
  obtain ⟨cl80, Ar80, q80, Sz80, Nn80, Hh80, Gg80⟩ := id F76
  have in80 : ¬ ((19 : Int32) < 0 ∨ cl80.slots.size ≤ ((19 : Int32)).toNatClampNeg) := inb_of Sz80 ⟨by decide, by decide⟩
  obtain ⟨T80, h80, X80, e80, W80, st80⟩ := stR X79 hx hZ e79 Ar80 (j := (19 : Int32)) in80 rfl (Sto.ofV Ar80 q80 V1 (Ins.self (E_TRUE.ext O77.2))) (g := (mkF m 138 #[.val (.int p1), .unset, .unset, .unset, .unset, .unset] [(.ref w19), (.int (19 : Int32)), (.ref b1), (.ref b1)])) rfl rfl (hb hby at_138)
  have O81 := O77.wr W80 ge_b1
  have N82 := Fr.snoc X80 N78 ge_b1
  have F80 : Arv Z h80 b1 k1 (.object "com/example/pico_notify/piconotify/XPathExpr$Function") (27 : Int32) [(.ref w0), (.ref w1), (.ref w2), (.ref w3), (.ref w4), (.ref w5), (.ref w6), (.ref w7), (.ref w8), (.ref w9), (.ref w10), (.ref w11), (.ref w12), (.ref w13), (.ref w14), (.ref w15), (.ref w16), (.ref w17), (.ref w18), (.ref w19), .null, .null, .null, .null, .null, .null, .null] .null := Arv.set Ar80 q80 Sz80 Nn80 Hh80 Gg80 rfl W80 19 rfl (Nat.le_of_ble_eq_true rfl)
  obtain ⟨T83, X83, e83, st83⟩ := getS2 X80 hx hZ hown (host := "") (Or.inl (own_w hw 44 rfl)) Via.refl e80 (S_FALSE.ext O81.2) (g := (mkF m 142 #[.val (.int p1), .unset, .unset, .unset, .unset, .unset] [(.int (20 : Int32)), (.ref b1), (.ref b1)])) rfl (hb hby at_142)
  obtain ⟨cl84, Ar84, q84, Sz84, Nn84, Hh84, Gg84⟩ := id F80
  have in84 : ¬ ((20 : Int32) < 0 ∨ cl84.slots.size ≤ ((20 : Int32)).toNatClampNeg) := inb_of Sz84 ⟨by decide, by decide⟩
  obtain ⟨T84, h84, X84, e84, W84, st84⟩ := stR X83 hx hZ e83 Ar84 (j := (20 : Int32)) in84 rfl (Sto.ofV Ar84 q84 V1 (Ins.self (E_FALSE.ext O81.2))) (g := (mkF m 145 #[.val (.int p1), .unset, .unset, .unset, .unset, .unset] [(.ref w20), (.int (20 : Int32)), (.ref b1), (.ref b1)])) rfl rfl (hb hby at_145)
  have O85 := O81.wr W84 ge_b1
  have N86 := Fr.snoc X84 N82 ge_b1
  have F84 : Arv Z h84 b1 k1 (.object "com/example/pico_notify/piconotify/XPathExpr$Function") (27 : Int32) [(.ref w0), (.ref w1), (.ref w2), (.ref w3), (.ref w4), (.ref w5), (.ref w6), (.ref w7), (.ref w8), (.ref w9), (.ref w10), (.ref w11), (.ref w12), (.ref w13), (.ref w14), (.ref w15), (.ref w16), (.ref w17), (.ref w18), (.ref w19), (.ref w20), .null, .null, .null, .null, .null, .null] .null := Arv.set Ar84 q84 Sz84 Nn84 Hh84 Gg84 rfl W84 20 rfl (Nat.le_of_ble_eq_true rfl)
  obtain ⟨T87, X87, e87, st87⟩ := getS2 X84 hx hZ hown (host := "") (Or.inl (own_w hw 46 rfl)) Via.refl e84 (S_LANG.ext O85.2) (g := (mkF m 149 #[.val (.int p1), .unset, .unset, .unset, .unset, .unset] [(.int (21 : Int32)), (.ref b1), (.ref b1)])) rfl (hb hby at_149)
  obtain ⟨cl88, Ar88, q88, Sz88, Nn88, Hh88, Gg88⟩ := id F84
  have in88 : ¬ ((21 : Int32) < 0 ∨ cl88.slots.size ≤ ((21 : Int32)).toNatClampNeg) := inb_of Sz88 ⟨by decide, by decide⟩
  obtain ⟨T88, h88, X88, e88, W88, st88⟩ := stR X87 hx hZ e87 Ar88 (j := (21 : Int32)) in88 rfl (Sto.ofV Ar88 q88 V1 (Ins.self (E_LANG.ext O85.2))) (g := (mkF m 152 #[.val (.int p1), .unset, .unset, .unset, .unset, .unset] [(.ref w21), (.int (21 : Int32)), (.ref b1), (.ref b1)])) rfl rfl (hb hby at_152)
  have O89 := O85.wr W88 ge_b1
  have N90 := Fr.snoc X88 N86 ge_b1
  have F88 : Arv Z h88 b1 k1 (.object "com/example/pico_notify/piconotify/XPathExpr$Function") (27 : Int32) [(.ref w0), (.ref w1), (.ref w2), (.ref w3), (.ref w4), (.ref w5), (.ref w6), (.ref w7), (.ref w8), (.ref w9), (.ref w10), (.ref w11), (.ref w12), (.ref w13), (.ref w14), (.ref w15), (.ref w16), (.ref w17), (.ref w18), (.ref w19), (.ref w20), (.ref w21), .null, .null, .null, .null, .null] .null := Arv.set Ar88 q88 Sz88 Nn88 Hh88 Gg88 rfl W88 21 rfl (Nat.le_of_ble_eq_true rfl)
  obtain ⟨T91, X91, e91, st91⟩ := getS2 X88 hx hZ hown (host := "") (Or.inl (own_w hw 48 rfl)) Via.refl e88 (S_NUMBER.ext O89.2) (g := (mkF m 156 #[.val (.int p1), .unset, .unset, .unset, .unset, .unset] [(.int (22 : Int32)), (.ref b1), (.ref b1)])) rfl (hb hby at_156)
  obtain ⟨cl92, Ar92, q92, Sz92, Nn92, Hh92, Gg92⟩ := id F88
  have in92 : ¬ ((22 : Int32) < 0 ∨ cl92.slots.size ≤ ((22 : Int32)).toNatClampNeg) := inb_of Sz92 ⟨by decide, by decide⟩
  obtain ⟨T92, h92, X92, e92, W92, st92⟩ := stR X91 hx hZ e91 Ar92 (j := (22 : Int32)) in92 rfl (Sto.ofV Ar92 q92 V1 (Ins.self (E_NUMBER.ext O89.2))) (g := (mkF m 159 #[.val (.int p1), .unset, .unset, .unset, .unset, .unset] [(.ref w22), (.int (22 : Int32)), (.ref b1), (.ref b1)])) rfl rfl (hb hby at_159)
  have O93 := O89.wr W92 ge_b1
  have N94 := Fr.snoc X92 N90 ge_b1
  have F92 : Arv Z h92 b1 k1 (.object "com/example/pico_notify/piconotify/XPathExpr$Function") (27 : Int32) [(.ref w0), (.ref w1), (.ref w2), (.ref w3), (.ref w4), (.ref w5), (.ref w6), (.ref w7), (.ref w8), (.ref w9), (.ref w10), (.ref w11), (.ref w12), (.ref w13), (.ref w14), (.ref w15), (.ref w16), (.ref w17), (.ref w18), (.ref w19), (.ref w20), (.ref w21), (.ref w22), .null, .null, .null, .null] .null := Arv.set Ar92 q92 Sz92 Nn92 Hh92 Gg92 rfl W92 22 rfl (Nat.le_of_ble_eq_true rfl)
  obtain ⟨T95, X95, e95, st95⟩ := getS2 X92 hx hZ hown (host := "") (Or.inl (own_w hw 50 rfl)) Via.refl e92 (S_SUM.ext O93.2) (g := (mkF m 163 #[.val (.int p1), .unset, .unset, .unset, .unset, .unset] [(.int (23 : Int32)), (.ref b1), (.ref b1)])) rfl (hb hby at_163)
  obtain ⟨cl96, Ar96, q96, Sz96, Nn96, Hh96, Gg96⟩ := id F92
  have in96 : ¬ ((23 : Int32) < 0 ∨ cl96.slots.size ≤ ((23 : Int32)).toNatClampNeg) := inb_of Sz96 ⟨by decide, by decide⟩
  obtain ⟨T96, h96, X96, e96, W96, st96⟩ := stR X95 hx hZ e95 Ar96 (j := (23 : Int32)) in96 rfl (Sto.ofV Ar96 q96 V1 (Ins.self (E_SUM.ext O93.2))) (g := (mkF m 166 #[.val (.int p1), .unset, .unset, .unset, .unset, .unset] [(.ref w23), (.int (23 : Int32)), (.ref b1), (.ref b1)])) rfl rfl (hb hby at_166)
  have O97 := O93.wr W96 ge_b1
  have N98 := Fr.snoc X96 N94 ge_b1
  have F96 : Arv Z h96 b1 k1 (.object "com/example/pico_notify/piconotify/XPathExpr$Function") (27 : Int32) [(.ref w0), (.ref w1), (.ref w2), (.ref w3), (.ref w4), (.ref w5), (.ref w6), (.ref w7), (.ref w8), (.ref w9), (.ref w10), (.ref w11), (.ref w12), (.ref w13), (.ref w14), (.ref w15), (.ref w16), (.ref w17), (.ref w18), (.ref w19), (.ref w20), (.ref w21), (.ref w22), (.ref w23), .null, .null, .null] .null := Arv.set Ar96 q96 Sz96 Nn96 Hh96 Gg96 rfl W96 23 rfl (Nat.le_of_ble_eq_true rfl)
  obtain ⟨T99, X99, e99, st99⟩ := getS2 X96 hx hZ hown (host := "") (Or.inl (own_w hw 52 rfl)) Via.refl e96 (S_FLOOR.ext O97.2) (g := (mkF m 170 #[.val (.int p1), .unset, .unset, .unset, .unset, .unset] [(.int (24 : Int32)), (.ref b1), (.ref b1)])) rfl (hb hby at_170)
  obtain ⟨cl100, Ar100, q100, Sz100, Nn100, Hh100, Gg100⟩ := id F96
  have in100 : ¬ ((24 : Int32) < 0 ∨ cl100.slots.size ≤ ((24 : Int32)).toNatClampNeg) := inb_of Sz100 ⟨by decide, by decide⟩
  obtain ⟨T100, h100, X100, e100, W100, st100⟩ := stR X99 hx hZ e99 Ar100 (j := (24 : Int32)) in100 rfl (Sto.ofV Ar100 q100 V1 (Ins.self (E_FLOOR.ext O97.2))) (g := (mkF m 173 #[.val (.int p1), .unset, .unset, .unset, .unset, .unset] [(.ref w24), (.int (24 : Int32)), (.ref b1), (.ref b1)])) rfl rfl (hb hby at_173)
  have O101 := O97.wr W100 ge_b1
  have N102 := Fr.snoc X100 N98 ge_b1
  have F100 : Arv Z h100 b1 k1 (.object "com/example/pico_notify/piconotify/XPathExpr$Function") (27 : Int32) [(.ref w0), (.ref w1), (.ref w2), (.ref w3), (.ref w4), (.ref w5), (.ref w6), (.ref w7), (.ref w8), (.ref w9), (.ref w10), (.ref w11), (.ref w12), (.ref w13), (.ref w14), (.ref w15), (.ref w16), (.ref w17), (.ref w18), (.ref w19), (.ref w20), (.ref w21), (.ref w22), (.ref w23), (.ref w24), .null, .null] .null := Arv.set Ar100 q100 Sz100 Nn100 Hh100 Gg100 rfl W100 24 rfl (Nat.le_of_ble_eq_true rfl)
  obtain ⟨T103, X103, e103, st103⟩ := getS2 X100 hx hZ hown (host := "") (Or.inl (own_w hw 54 rfl)) Via.refl e100 (S_CEILING.ext O101.2) (g := (mkF m 177 #[.val (.int p1), .unset, .unset, .unset, .unset, .unset] [(.int (25 : Int32)), (.ref b1), (.ref b1)])) rfl (hb hby at_177)
  obtain ⟨cl104, Ar104, q104, Sz104, Nn104, Hh104, Gg104⟩ := id F100
  have in104 : ¬ ((25 : Int32) < 0 ∨ cl104.slots.size ≤ ((25 : Int32)).toNatClampNeg) := inb_of Sz104 ⟨by decide, by decide⟩
  obtain ⟨T104, h104, X104, e104, W104, st104⟩ := stR X103 hx hZ e103 Ar104 (j := (25 : Int32)) in104 rfl (Sto.ofV Ar104 q104 V1 (Ins.self (E_CEILING.ext O101.2))) (g := (mkF m 180 #[.val (.int p1), .unset, .unset, .unset, .unset, .unset] [(.ref w25), (.int (25 : Int32)), (.ref b1), (.ref b1)])) rfl rfl (hb hby at_180)
  have O105 := O101.wr W104 ge_b1
  have N106 := Fr.snoc X104 N102 ge_b1
  have F104 : Arv Z h104 b1 k1 (.object "com/example/pico_notify/piconotify/XPathExpr$Function") (27 : Int32) [(.ref w0), (.ref w1), (.ref w2), (.ref w3), (.ref w4), (.ref w5), (.ref w6), (.ref w7), (.ref w8), (.ref w9), (.ref w10), (.ref w11), (.ref w12), (.ref w13), (.ref w14), (.ref w15), (.ref w16), (.ref w17), (.ref w18), (.ref w19), (.ref w20), (.ref w21), (.ref w22), (.ref w23), (.ref w24), (.ref w25), .null] .null := Arv.set Ar104 q104 Sz104 Nn104 Hh104 Gg104 rfl W104 25 rfl (Nat.le_of_ble_eq_true rfl)
  obtain ⟨T107, X107, e107, st107⟩ := getS2 X104 hx hZ hown (host := "") (Or.inl (own_w hw 56 rfl)) Via.refl e104 (S_ROUND.ext O105.2) (g := (mkF m 184 #[.val (.int p1), .unset, .unset, .unset, .unset, .unset] [(.int (26 : Int32)), (.ref b1), (.ref b1)])) rfl (hb hby at_184)
  obtain ⟨cl108, Ar108, q108, Sz108, Nn108, Hh108, Gg108⟩ := id F104
  have in108 : ¬ ((26 : Int32) < 0 ∨ cl108.slots.size ≤ ((26 : Int32)).toNatClampNeg) := inb_of Sz108 ⟨by decide, by decide⟩
  obtain ⟨T108, h108, X108, e108, W108, st108⟩ := stR X107 hx hZ e107 Ar108 (j := (26 : Int32)) in108 rfl (Sto.ofV Ar108 q108 V1 (Ins.self (E_ROUND.ext O105.2))) (g := (mkF m 187 #[.val (.int p1), .unset, .unset, .unset, .unset, .unset] [(.ref w26), (.int (26 : Int32)), (.ref b1), (.ref b1)])) rfl rfl (hb hby at_187)
  have O109 := O105.wr W108 ge_b1
  have N110 := Fr.snoc X108 N106 ge_b1
  have F108 : Arv Z h108 b1 k1 (.object "com/example/pico_notify/piconotify/XPathExpr$Function") (27 : Int32) [(.ref w0), (.ref w1), (.ref w2), (.ref w3), (.ref w4), (.ref w5), (.ref w6), (.ref w7), (.ref w8), (.ref w9), (.ref w10), (.ref w11), (.ref w12), (.ref w13), (.ref w14), (.ref w15), (.ref w16), (.ref w17), (.ref w18), (.ref w19), (.ref w20), (.ref w21), (.ref w22), (.ref w23), (.ref w24), (.ref w25), (.ref w26)] .null := Arv.set Ar108 q108 Sz108 Nn108 Hh108 Gg108 rfl W108 26 rfl (Nat.le_of_ble_eq_true rfl)
  have S111 : ∀ t, Steps p.tables e below (T108.setTop (mkF m 196 #[.val (.int p1), .val (.ref b1), .unset, .unset, .unset, .unset] [(.int ((p1 &&& (2147483647 : Int32)) % (27 : Int32)))])) t → Steps p.tables e below (s₁.setTop (mkF m 0 #[.val (.int p1), .unset, .unset, .unset, .unset, .unset] [])) t := by
    intro t kt
    refine XS.bipush X0.here hx rfl (hb hby at_0) ?_
    show Steps p.tables e below (s₁.setTop (mkF m 2 #[.val (.int p1), .unset, .unset, .unset, .unset, .unset] [(.int (27 : Int32))])) _
    refine st1 _ ?_
    refine XS.dup X1.here hx rfl (hb hby at_5) rfl rfl ?_
    refine XS.iconst X1.here hx rfl (hb hby at_6) ?_
    show Steps p.tables e below (T1.setTop (mkF m 7 #[.val (.int p1), .unset, .unset, .unset, .unset, .unset] [(.int (0 : Int32)), (.ref b1), (.ref b1)])) _
    refine st3 _ ?_
    show Steps p.tables e below (T3.setTop (mkF m 10 #[.val (.int p1), .unset, .unset, .unset, .unset, .unset] [(.ref w0), (.int (0 : Int32)), (.ref b1), (.ref b1)])) _
    refine st4 _ ?_
    refine XS.dup X4.here hx rfl (hb hby at_11) rfl rfl ?_
    refine XS.iconst X4.here hx rfl (hb hby at_12) ?_
    show Steps p.tables e below (T4.setTop (mkF m 13 #[.val (.int p1), .unset, .unset, .unset, .unset, .unset] [(.int (1 : Int32)), (.ref b1), (.ref b1)])) _
    refine st7 _ ?_
    show Steps p.tables e below (T7.setTop (mkF m 16 #[.val (.int p1), .unset, .unset, .unset, .unset, .unset] [(.ref w1), (.int (1 : Int32)), (.ref b1), (.ref b1)])) _
    refine st8 _ ?_
    refine XS.dup X8.here hx rfl (hb hby at_17) rfl rfl ?_
    refine XS.iconst X8.here hx rfl (hb hby at_18) ?_
    show Steps p.tables e below (T8.setTop (mkF m 19 #[.val (.int p1), .unset, .unset, .unset, .unset, .unset] [(.int (2 : Int32)), (.ref b1), (.ref b1)])) _
    refine st11 _ ?_
    show Steps p.tables e below (T11.setTop (mkF m 22 #[.val (.int p1), .unset, .unset, .unset, .unset, .unset] [(.ref w2), (.int (2 : Int32)), (.ref b1), (.ref b1)])) _
    refine st12 _ ?_
    refine XS.dup X12.here hx rfl (hb hby at_23) rfl rfl ?_
    refine XS.iconst X12.here hx rfl (hb hby at_24) ?_
    show Steps p.tables e below (T12.setTop (mkF m 25 #[.val (.int p1), .unset, .unset, .unset, .unset, .unset] [(.int (3 : Int32)), (.ref b1), (.ref b1)])) _
    refine st15 _ ?_
    show Steps p.tables e below (T15.setTop (mkF m 28 #[.val (.int p1), .unset, .unset, .unset, .unset, .unset] [(.ref w3), (.int (3 : Int32)), (.ref b1), (.ref b1)])) _
    refine st16 _ ?_
    refine XS.dup X16.here hx rfl (hb hby at_29) rfl rfl ?_
    refine XS.iconst X16.here hx rfl (hb hby at_30) ?_
    show Steps p.tables e below (T16.setTop (mkF m 31 #[.val (.int p1), .unset, .unset, .unset, .unset, .unset] [(.int (4 : Int32)), (.ref b1), (.ref b1)])) _
    refine st19 _ ?_
    show Steps p.tables e below (T19.setTop (mkF m 34 #[.val (.int p1), .unset, .unset, .unset, .unset, .unset] [(.ref w4), (.int (4 : Int32)), (.ref b1), (.ref b1)])) _
    refine st20 _ ?_
    refine XS.dup X20.here hx rfl (hb hby at_35) rfl rfl ?_
    refine XS.iconst X20.here hx rfl (hb hby at_36) ?_
    show Steps p.tables e below (T20.setTop (mkF m 37 #[.val (.int p1), .unset, .unset, .unset, .unset, .unset] [(.int (5 : Int32)), (.ref b1), (.ref b1)])) _
    refine st23 _ ?_
    show Steps p.tables e below (T23.setTop (mkF m 40 #[.val (.int p1), .unset, .unset, .unset, .unset, .unset] [(.ref w5), (.int (5 : Int32)), (.ref b1), (.ref b1)])) _
    refine st24 _ ?_
    refine XS.dup X24.here hx rfl (hb hby at_41) rfl rfl ?_
    refine XS.bipush X24.here hx rfl (hb hby at_42) ?_
    show Steps p.tables e below (T24.setTop (mkF m 44 #[.val (.int p1), .unset, .unset, .unset, .unset, .unset] [(.int (6 : Int32)), (.ref b1), (.ref b1)])) _
    refine st27 _ ?_
    show Steps p.tables e below (T27.setTop (mkF m 47 #[.val (.int p1), .unset, .unset, .unset, .unset, .unset] [(.ref w6), (.int (6 : Int32)), (.ref b1), (.ref b1)])) _
    refine st28 _ ?_
    refine XS.dup X28.here hx rfl (hb hby at_48) rfl rfl ?_
    refine XS.bipush X28.here hx rfl (hb hby at_49) ?_
    show Steps p.tables e below (T28.setTop (mkF m 51 #[.val (.int p1), .unset, .unset, .unset, .unset, .unset] [(.int (7 : Int32)), (.ref b1), (.ref b1)])) _
    refine st31 _ ?_
    show Steps p.tables e below (T31.setTop (mkF m 54 #[.val (.int p1), .unset, .unset, .unset, .unset, .unset] [(.ref w7), (.int (7 : Int32)), (.ref b1), (.ref b1)])) _
    refine st32 _ ?_
    refine XS.dup X32.here hx rfl (hb hby at_55) rfl rfl ?_
    refine XS.bipush X32.here hx rfl (hb hby at_56) ?_
    show Steps p.tables e below (T32.setTop (mkF m 58 #[.val (.int p1), .unset, .unset, .unset, .unset, .unset] [(.int (8 : Int32)), (.ref b1), (.ref b1)])) _
    refine st35 _ ?_
    show Steps p.tables e below (T35.setTop (mkF m 61 #[.val (.int p1), .unset, .unset, .unset, .unset, .unset] [(.ref w8), (.int (8 : Int32)), (.ref b1), (.ref b1)])) _
    refine st36 _ ?_
    refine XS.dup X36.here hx rfl (hb hby at_62) rfl rfl ?_
    refine XS.bipush X36.here hx rfl (hb hby at_63) ?_
    show Steps p.tables e below (T36.setTop (mkF m 65 #[.val (.int p1), .unset, .unset, .unset, .unset, .unset] [(.int (9 : Int32)), (.ref b1), (.ref b1)])) _
    refine st39 _ ?_
    show Steps p.tables e below (T39.setTop (mkF m 68 #[.val (.int p1), .unset, .unset, .unset, .unset, .unset] [(.ref w9), (.int (9 : Int32)), (.ref b1), (.ref b1)])) _
    refine st40 _ ?_
    refine XS.dup X40.here hx rfl (hb hby at_69) rfl rfl ?_
    refine XS.bipush X40.here hx rfl (hb hby at_70) ?_
    show Steps p.tables e below (T40.setTop (mkF m 72 #[.val (.int p1), .unset, .unset, .unset, .unset, .unset] [(.int (10 : Int32)), (.ref b1), (.ref b1)])) _
    refine st43 _ ?_
    show Steps p.tables e below (T43.setTop (mkF m 75 #[.val (.int p1), .unset, .unset, .unset, .unset, .unset] [(.ref w10), (.int (10 : Int32)), (.ref b1), (.ref b1)])) _
    refine st44 _ ?_
    refine XS.dup X44.here hx rfl (hb hby at_76) rfl rfl ?_
    refine XS.bipush X44.here hx rfl (hb hby at_77) ?_
    show Steps p.tables e below (T44.setTop (mkF m 79 #[.val (.int p1), .unset, .unset, .unset, .unset, .unset] [(.int (11 : Int32)), (.ref b1), (.ref b1)])) _
    refine st47 _ ?_
    show Steps p.tables e below (T47.setTop (mkF m 82 #[.val (.int p1), .unset, .unset, .unset, .unset, .unset] [(.ref w11), (.int (11 : Int32)), (.ref b1), (.ref b1)])) _
    refine st48 _ ?_
    refine XS.dup X48.here hx rfl (hb hby at_83) rfl rfl ?_
    refine XS.bipush X48.here hx rfl (hb hby at_84) ?_
    show Steps p.tables e below (T48.setTop (mkF m 86 #[.val (.int p1), .unset, .unset, .unset, .unset, .unset] [(.int (12 : Int32)), (.ref b1), (.ref b1)])) _
    refine st51 _ ?_
    show Steps p.tables e below (T51.setTop (mkF m 89 #[.val (.int p1), .unset, .unset, .unset, .unset, .unset] [(.ref w12), (.int (12 : Int32)), (.ref b1), (.ref b1)])) _
    refine st52 _ ?_
    refine XS.dup X52.here hx rfl (hb hby at_90) rfl rfl ?_
    refine XS.bipush X52.here hx rfl (hb hby at_91) ?_
    show Steps p.tables e below (T52.setTop (mkF m 93 #[.val (.int p1), .unset, .unset, .unset, .unset, .unset] [(.int (13 : Int32)), (.ref b1), (.ref b1)])) _
    refine st55 _ ?_
    show Steps p.tables e below (T55.setTop (mkF m 96 #[.val (.int p1), .unset, .unset, .unset, .unset, .unset] [(.ref w13), (.int (13 : Int32)), (.ref b1), (.ref b1)])) _
    refine st56 _ ?_
    refine XS.dup X56.here hx rfl (hb hby at_97) rfl rfl ?_
    refine XS.bipush X56.here hx rfl (hb hby at_98) ?_
    show Steps p.tables e below (T56.setTop (mkF m 100 #[.val (.int p1), .unset, .unset, .unset, .unset, .unset] [(.int (14 : Int32)), (.ref b1), (.ref b1)])) _
    refine st59 _ ?_
    show Steps p.tables e below (T59.setTop (mkF m 103 #[.val (.int p1), .unset, .unset, .unset, .unset, .unset] [(.ref w14), (.int (14 : Int32)), (.ref b1), (.ref b1)])) _
    refine st60 _ ?_
    refine XS.dup X60.here hx rfl (hb hby at_104) rfl rfl ?_
    refine XS.bipush X60.here hx rfl (hb hby at_105) ?_
    show Steps p.tables e below (T60.setTop (mkF m 107 #[.val (.int p1), .unset, .unset, .unset, .unset, .unset] [(.int (15 : Int32)), (.ref b1), (.ref b1)])) _
    refine st63 _ ?_
    show Steps p.tables e below (T63.setTop (mkF m 110 #[.val (.int p1), .unset, .unset, .unset, .unset, .unset] [(.ref w15), (.int (15 : Int32)), (.ref b1), (.ref b1)])) _
    refine st64 _ ?_
    refine XS.dup X64.here hx rfl (hb hby at_111) rfl rfl ?_
    refine XS.bipush X64.here hx rfl (hb hby at_112) ?_
    show Steps p.tables e below (T64.setTop (mkF m 114 #[.val (.int p1), .unset, .unset, .unset, .unset, .unset] [(.int (16 : Int32)), (.ref b1), (.ref b1)])) _
    refine st67 _ ?_
    show Steps p.tables e below (T67.setTop (mkF m 117 #[.val (.int p1), .unset, .unset, .unset, .unset, .unset] [(.ref w16), (.int (16 : Int32)), (.ref b1), (.ref b1)])) _
    refine st68 _ ?_
    refine XS.dup X68.here hx rfl (hb hby at_118) rfl rfl ?_
    refine XS.bipush X68.here hx rfl (hb hby at_119) ?_
    show Steps p.tables e below (T68.setTop (mkF m 121 #[.val (.int p1), .unset, .unset, .unset, .unset, .unset] [(.int (17 : Int32)), (.ref b1), (.ref b1)])) _
    refine st71 _ ?_
    show Steps p.tables e below (T71.setTop (mkF m 124 #[.val (.int p1), .unset, .unset, .unset, .unset, .unset] [(.ref w17), (.int (17 : Int32)), (.ref b1), (.ref b1)])) _
    refine st72 _ ?_
    refine XS.dup X72.here hx rfl (hb hby at_125) rfl rfl ?_
    refine XS.bipush X72.here hx rfl (hb hby at_126) ?_
    show Steps p.tables e below (T72.setTop (mkF m 128 #[.val (.int p1), .unset, .unset, .unset, .unset, .unset] [(.int (18 : Int32)), (.ref b1), (.ref b1)])) _
    refine st75 _ ?_
    show Steps p.tables e below (T75.setTop (mkF m 131 #[.val (.int p1), .unset, .unset, .unset, .unset, .unset] [(.ref w18), (.int (18 : Int32)), (.ref b1), (.ref b1)])) _
    refine st76 _ ?_
    refine XS.dup X76.here hx rfl (hb hby at_132) rfl rfl ?_
    refine XS.bipush X76.here hx rfl (hb hby at_133) ?_
    show Steps p.tables e below (T76.setTop (mkF m 135 #[.val (.int p1), .unset, .unset, .unset, .unset, .unset] [(.int (19 : Int32)), (.ref b1), (.ref b1)])) _
    refine st79 _ ?_
    show Steps p.tables e below (T79.setTop (mkF m 138 #[.val (.int p1), .unset, .unset, .unset, .unset, .unset] [(.ref w19), (.int (19 : Int32)), (.ref b1), (.ref b1)])) _
    refine st80 _ ?_
    refine XS.dup X80.here hx rfl (hb hby at_139) rfl rfl ?_
    refine XS.bipush X80.here hx rfl (hb hby at_140) ?_
    show Steps p.tables e below (T80.setTop (mkF m 142 #[.val (.int p1), .unset, .unset, .unset, .unset, .unset] [(.int (20 : Int32)), (.ref b1), (.ref b1)])) _
    refine st83 _ ?_
    show Steps p.tables e below (T83.setTop (mkF m 145 #[.val (.int p1), .unset, .unset, .unset, .unset, .unset] [(.ref w20), (.int (20 : Int32)), (.ref b1), (.ref b1)])) _
    refine st84 _ ?_
    refine XS.dup X84.here hx rfl (hb hby at_146) rfl rfl ?_
    refine XS.bipush X84.here hx rfl (hb hby at_147) ?_
    show Steps p.tables e below (T84.setTop (mkF m 149 #[.val (.int p1), .unset, .unset, .unset, .unset, .unset] [(.int (21 : Int32)), (.ref b1), (.ref b1)])) _
    refine st87 _ ?_
    show Steps p.tables e below (T87.setTop (mkF m 152 #[.val (.int p1), .unset, .unset, .unset, .unset, .unset] [(.ref w21), (.int (21 : Int32)), (.ref b1), (.ref b1)])) _
    refine st88 _ ?_
    refine XS.dup X88.here hx rfl (hb hby at_153) rfl rfl ?_
    refine XS.bipush X88.here hx rfl (hb hby at_154) ?_
    show Steps p.tables e below (T88.setTop (mkF m 156 #[.val (.int p1), .unset, .unset, .unset, .unset, .unset] [(.int (22 : Int32)), (.ref b1), (.ref b1)])) _
    refine st91 _ ?_
    show Steps p.tables e below (T91.setTop (mkF m 159 #[.val (.int p1), .unset, .unset, .unset, .unset, .unset] [(.ref w22), (.int (22 : Int32)), (.ref b1), (.ref b1)])) _
    refine st92 _ ?_
    refine XS.dup X92.here hx rfl (hb hby at_160) rfl rfl ?_
    refine XS.bipush X92.here hx rfl (hb hby at_161) ?_
    show Steps p.tables e below (T92.setTop (mkF m 163 #[.val (.int p1), .unset, .unset, .unset, .unset, .unset] [(.int (23 : Int32)), (.ref b1), (.ref b1)])) _
    refine st95 _ ?_
    show Steps p.tables e below (T95.setTop (mkF m 166 #[.val (.int p1), .unset, .unset, .unset, .unset, .unset] [(.ref w23), (.int (23 : Int32)), (.ref b1), (.ref b1)])) _
    refine st96 _ ?_
    refine XS.dup X96.here hx rfl (hb hby at_167) rfl rfl ?_
    refine XS.bipush X96.here hx rfl (hb hby at_168) ?_
    show Steps p.tables e below (T96.setTop (mkF m 170 #[.val (.int p1), .unset, .unset, .unset, .unset, .unset] [(.int (24 : Int32)), (.ref b1), (.ref b1)])) _
    refine st99 _ ?_
    show Steps p.tables e below (T99.setTop (mkF m 173 #[.val (.int p1), .unset, .unset, .unset, .unset, .unset] [(.ref w24), (.int (24 : Int32)), (.ref b1), (.ref b1)])) _
    refine st100 _ ?_
    refine XS.dup X100.here hx rfl (hb hby at_174) rfl rfl ?_
    refine XS.bipush X100.here hx rfl (hb hby at_175) ?_
    show Steps p.tables e below (T100.setTop (mkF m 177 #[.val (.int p1), .unset, .unset, .unset, .unset, .unset] [(.int (25 : Int32)), (.ref b1), (.ref b1)])) _
    refine st103 _ ?_
    show Steps p.tables e below (T103.setTop (mkF m 180 #[.val (.int p1), .unset, .unset, .unset, .unset, .unset] [(.ref w25), (.int (25 : Int32)), (.ref b1), (.ref b1)])) _
    refine st104 _ ?_
    refine XS.dup X104.here hx rfl (hb hby at_181) rfl rfl ?_
    refine XS.bipush X104.here hx rfl (hb hby at_182) ?_
    show Steps p.tables e below (T104.setTop (mkF m 184 #[.val (.int p1), .unset, .unset, .unset, .unset, .unset] [(.int (26 : Int32)), (.ref b1), (.ref b1)])) _
    refine st107 _ ?_
    show Steps p.tables e below (T107.setTop (mkF m 187 #[.val (.int p1), .unset, .unset, .unset, .unset, .unset] [(.ref w26), (.int (26 : Int32)), (.ref b1), (.ref b1)])) _
    refine st108 _ ?_
    refine XS.astoreN X108.here hx rfl (hb hby at_188) rfl rfl (l' := #[.val (.int p1), .val (.ref b1), .unset, .unset, .unset, .unset]) rfl ?_
    refine XS.iloadN X108.here hx rfl (hb hby at_189) rfl ?_
    show Steps p.tables e below (T108.setTop (mkF m 190 #[.val (.int p1), .val (.ref b1), .unset, .unset, .unset, .unset] [(.int p1)])) _
    refine Jvm.Stand.ldcI (g := (mkF m 190 #[.val (.int p1), .val (.ref b1), .unset, .unset, .unset, .unset] [(.int p1)])) X108 hx hown (mvT hZ (own_w hw 58 rfl)) rfl (hb hby at_190) ?_
    refine XS.iand X108.here hx rfl (hb hby at_192) rfl ?_
    refine XS.bipush X108.here hx rfl (hb hby at_193) ?_
    show Steps p.tables e below (T108.setTop (mkF m 195 #[.val (.int p1), .val (.ref b1), .unset, .unset, .unset, .unset] [(.int (27 : Int32)), (.int (p1 &&& (2147483647 : Int32)))])) _
    refine Jvm.RoadKit.iremM (g := (mkF m 195 #[.val (.int p1), .val (.ref b1), .unset, .unset, .unset, .unset] [(.int (27 : Int32)), (.int (p1 &&& (2147483647 : Int32)))])) X108 hx rfl (hb hby at_195) rfl (by decide) ?_
    exact kt
  obtain ⟨iv, h_iv⟩ : ∃ z, z = ((p1 &&& (2147483647 : Int32)) % (27 : Int32)) := ⟨_, rfl⟩
  have S112 : ∀ t, Steps p.tables e below (T108.setTop (mkF m 196 #[.val (.int p1), .val (.ref b1), .unset, .unset, .unset, .unset] [(.int iv)])) t → Steps p.tables e below (s₁.setTop (mkF m 0 #[.val (.int p1), .unset, .unset, .unset, .unset, .unset] [])) t := by rw [h_iv]; exact S111
  rcases own_rem27 p1 iv h_iv with rfl | rfl | rfl | rfl | rfl | rfl | rfl | rfl | rfl | rfl | rfl | rfl | rfl | rfl | rfl | rfl | rfl | rfl | rfl | rfl | rfl | rfl | rfl | rfl | rfl | rfl | rfl
  · obtain ⟨cl113, Ar113, q113, Sz113, Nn113, Hh113, Gg113⟩ := id F108
    have in113 : ¬ ((0 : Int32) < 0 ∨ cl113.slots.size ≤ ((0 : Int32)).toNatClampNeg) := by exact inb_of Sz113 ⟨by decide, by decide⟩
    have at113 : cl113.slots[((0 : Int32)).toNatClampNeg]? = some (.ref w0) := by
      refine Has.at Hh113 in113 ?_
      rfl
    obtain ⟨cq114, kq114, q114a, q114b, q114c⟩ := isOf hZ e108 (E_LAST.ext O109.2)
    obtain ⟨_, _, ⟨T114, L114, k114, n114⟩, -, X114, ⟨Lc114, hQ114, l114, y114, z114⟩, st114⟩ := X108.virtualBack hx (y := (⟨"com/example/pico_notify/piconotify/XPathExpr$Function", "takesNodeSets", "()Z"⟩ : MethodName)) (z := (⟨"com/example/pico_notify/piconotify/XPathExpr$Function", "takesNodeSets", "()Z"⟩ : MethodName)) hown (mvT hZ (own_w hw 59 rfl)) (mvT hZ (own_w hw 60 rfl)) (notFace_of_selects (args := #[]) (mvT hZ (own_w hw 62 rfl))) (mvT hZ (own_w hw 62 rfl)) (mvT hZ (own_w hw 61 rfl)) (by decide) (backOf (W := 0) (rm_takes l Z a0 hw [] w0 w2 w23 w4 w5 w6 h108 n0 O109 S_COUNT S_SUM S_LOCAL_NAME S_NAMESPACE_URI S_NAME) hZ (own_w hw 63 rfl) (own_w hw 3 rfl) (by decide) (by decide)) q114a q114c (g := (mkF m 236 #[.val (.int p1), .val (.ref b1), .val (.int (0 : Int32)), .val (.ref w0), .val (.int (0 : Int32)), .unset] [(.ref w0)])) rfl (by rw [hml]; rfl) (Steps.refl _) (argsL := []) (rest := []) (lenOf pd_0 rfl) rfl (by show 2 * 0 + _ ≤ _; exact Nat.le_of_eq rfl) (hb hby at_236) (fun _ _ => ⟨rfl, e108, (by decide : 1 + 0 ≤ _), (by decide : 27 + 0 ≤ _)⟩)
    dsimp only [Pt.U, Pt.locs, Pt.cells, Pt.slots] at X114 l114 y114 z114 st114 hQ114
    rw [l114, y114, z114] at X114
    rcases hQ114 with ⟨c115, rfl, N116, k117⟩ | ⟨c118, c119, rfl, N120, k121⟩ | ⟨c122, c123, c124, rfl, N125, k126⟩ | ⟨c127, c128, c129, c130, rfl, N131, k132⟩ | ⟨c133, c134, c135, c136, c137, rfl, N138, k139⟩ | ⟨c140, c141, c142, c143, c144, rfl, N145, k146⟩
    · exact absurd c115 ((Fld.ne Fo_LAST Fo_COUNT (by decide)) : ¬ (w0 = w2))
    · exact absurd c119 ((Fld.ne Fo_LAST Fo_SUM (by decide)) : ¬ (w0 = w23))
    · exact absurd c124 ((Fld.ne Fo_LAST Fo_LOCAL_NAME (by decide)) : ¬ (w0 = w4))
    · exact absurd c130 ((Fld.ne Fo_LAST Fo_NAMESPACE_URI (by decide)) : ¬ (w0 = w5))
    · exact absurd c137 ((Fld.ne Fo_LAST Fo_NAME (by decide)) : ¬ (w0 = w6))
    · have N147 := Fr.app N110 N145
      have S148 : ∀ t, Steps p.tables e below (T114.setTop (mkF m 266 #[.val (.int p1), .val (.ref b1), .val (.int (0 : Int32)), .val (.ref w0), .val (.int (0 : Int32)), .val (.int (0 : Int32))] [(.int (1 : Int32))])) t → Steps p.tables e below (s₁.setTop (mkF m 0 #[.val (.int p1), .unset, .unset, .unset, .unset, .unset] [])) t := by
        intro t kt
        refine S112 t ?_
        refine XS.istoreN X108.here hx rfl (hb hby at_196) rfl (l' := #[.val (.int p1), .val (.ref b1), .val (.int (0 : Int32)), .unset, .unset, .unset]) rfl ?_
        refine XS.aloadN X108.here hx rfl (hb hby at_197) rfl rfl ?_
        refine XS.iloadN X108.here hx rfl (hb hby at_198) rfl ?_
        show Steps p.tables e below (T108.setTop (mkF m 199 #[.val (.int p1), .val (.ref b1), .val (.int (0 : Int32)), .unset, .unset, .unset] [(.int (0 : Int32)), (.ref b1)])) _
        refine X108.aaload hx (j := (0 : Int32)) (v := (.ref w0)) (by rw [e108]; exact Ar113.1) (State.isArrayOf_alike hZ.alike Ar113.2.1) rfl Ar113.2.2 in113 at113 (g := (mkF m 199 #[.val (.int p1), .val (.ref b1), .val (.int (0 : Int32)), .unset, .unset, .unset] [(.int (0 : Int32)), (.ref b1)])) rfl rfl (hb hby at_199) _ ?_
        refine XS.astoreN X108.here hx rfl (hb hby at_200) rfl rfl (l' := #[.val (.int p1), .val (.ref b1), .val (.int (0 : Int32)), .val (.ref w0), .unset, .unset]) rfl ?_
        refine XS.iloadN X108.here hx rfl (hb hby at_201) rfl ?_
        refine XS.iconst X108.here hx rfl (hb hby at_202) ?_
        refine XS.icmpNo X108.here hx rfl (hb hby at_203) rfl (feq ((by decide) : ¬ ((0 : Int32) = (2 : Int32)))).1 ?_
        refine XS.iloadN X108.here hx rfl (hb hby at_206) rfl ?_
        show Steps p.tables e below (T108.setTop (mkF m 207 #[.val (.int p1), .val (.ref b1), .val (.int (0 : Int32)), .val (.ref w0), .unset, .unset] [(.int (0 : Int32))])) _
        refine XS.iconst X108.here hx rfl (hb hby at_207) ?_
        refine XS.icmpNo X108.here hx rfl (hb hby at_208) rfl (feq ((by decide) : ¬ ((0 : Int32) = (4 : Int32)))).1 ?_
        refine XS.iloadN X108.here hx rfl (hb hby at_211) rfl ?_
        refine XS.iconst X108.here hx rfl (hb hby at_212) ?_
        refine XS.icmpNo X108.here hx rfl (hb hby at_213) rfl (feq ((by decide) : ¬ ((0 : Int32) = (5 : Int32)))).1 ?_
        refine XS.iloadN X108.here hx rfl (hb hby at_216) rfl ?_
        show Steps p.tables e below (T108.setTop (mkF m 217 #[.val (.int p1), .val (.ref b1), .val (.int (0 : Int32)), .val (.ref w0), .unset, .unset] [(.int (0 : Int32))])) _
        refine XS.bipush X108.here hx rfl (hb hby at_217) ?_
        refine XS.icmpNo X108.here hx rfl (hb hby at_219) rfl (feq ((by decide) : ¬ ((0 : Int32) = (6 : Int32)))).1 ?_
        refine XS.iloadN X108.here hx rfl (hb hby at_222) rfl ?_
        refine XS.bipush X108.here hx rfl (hb hby at_223) ?_
        refine XS.icmpYes X108.here hx rfl (pc0 := 225) (pc' := 232) rfl (hb hby at_225) rfl (feq ((by decide) : ¬ ((0 : Int32) = (23 : Int32)))).2 (by decide) (by decide) ?_
        refine XS.iconst X108.here hx rfl (hb hby at_232) ?_
        show Steps p.tables e below (T108.setTop (mkF m 233 #[.val (.int p1), .val (.ref b1), .val (.int (0 : Int32)), .val (.ref w0), .unset, .unset] [(.int (0 : Int32))])) _
        refine XS.istore X108.here hx rfl (hb hby at_233) rfl (l' := #[.val (.int p1), .val (.ref b1), .val (.int (0 : Int32)), .val (.ref w0), .val (.int (0 : Int32)), .unset]) rfl ?_
        refine XS.aloadN X108.here hx rfl (hb hby at_235) rfl rfl ?_
        show Steps p.tables e below (T108.setTop (mkF m 236 #[.val (.int p1), .val (.ref b1), .val (.int (0 : Int32)), .val (.ref w0), .val (.int (0 : Int32)), .unset] [(.ref w0)])) _
        refine st114.trans ?_
        refine XS.istore X114.here hx rfl (hb hby at_239) rfl (l' := #[.val (.int p1), .val (.ref b1), .val (.int (0 : Int32)), .val (.ref w0), .val (.int (0 : Int32)), .val (.int (0 : Int32))]) rfl ?_
        refine XS.iload X114.here hx rfl (hb hby at_241) rfl ?_
        refine XS.iload X114.here hx rfl (hb hby at_243) rfl ?_
        refine XS.icmpNo X114.here hx rfl (hb hby at_245) rfl (teq ((by decide) : (0 : Int32) = (0 : Int32))).2 ?_
        refine XS.iload X114.here hx rfl (hb hby at_248) rfl ?_
        show Steps p.tables e below (T114.setTop (mkF m 250 #[.val (.int p1), .val (.ref b1), .val (.int (0 : Int32)), .val (.ref w0), .val (.int (0 : Int32)), .val (.int (0 : Int32))] [(.int (0 : Int32))])) _
        refine XS.ifYes X114.here hx rfl (pc0 := 250) (pc' := 261) rfl (hb hby at_250) rfl ((if0 _ _).trans (teq ((by decide) : (0 : Int32) = (0 : Int32))).1) (by decide) (by decide) ?_
        refine XS.iconst X114.here hx rfl (hb hby at_261) ?_
        refine XS.goto X114.here hx rfl (pc0 := 262) (pc' := 266) rfl (hb hby at_262) (by decide) (by decide) ?_
        exact kt
      obtain ⟨fs, hr, hrun, hended, hW, hsame⟩ := X114.leave (v := some (.int (1 : Int32))) (fun h => by rw [Bd.returns] at h; cases h)
      refine ⟨_, _, pre0 _ (S148 _ ?_), hrun, hended, _, _, rfl, ?_, ⟨_, rfl⟩, hW, hsame.mono (by decide) (by decide)⟩
      · exact retN X114 hx (t := .boolean) Bd.returns (by simp) (hb hby at_266) hr
      · show Q_rm_law Z p1 w0 w1 w2 w3 w4 w5 w6 w7 w8 w9 w10 w11 w12 w13 w14 w15 w16 w17 w18 w19 w20 w21 w22 w23 w24 w25 w26 h0 n0 _ T114.heap _
        rw [k146]
        exact ⟨rfl, N147⟩
  · obtain ⟨cl149, Ar149, q149, Sz149, Nn149, Hh149, Gg149⟩ := id F108
    have in149 : ¬ ((1 : Int32) < 0 ∨ cl149.slots.size ≤ ((1 : Int32)).toNatClampNeg) := by exact inb_of Sz149 ⟨by decide, by decide⟩
    have at149 : cl149.slots[((1 : Int32)).toNatClampNeg]? = some (.ref w1) := by
      refine Has.at Hh149 in149 ?_
      rfl
    obtain ⟨cq150, kq150, q150a, q150b, q150c⟩ := isOf hZ e108 (E_POSITION.ext O109.2)
    obtain ⟨_, _, ⟨T150, L150, k150, n150⟩, -, X150, ⟨Lc150, hQ150, l150, y150, z150⟩, st150⟩ := X108.virtualBack hx (y := (⟨"com/example/pico_notify/piconotify/XPathExpr$Function", "takesNodeSets", "()Z"⟩ : MethodName)) (z := (⟨"com/example/pico_notify/piconotify/XPathExpr$Function", "takesNodeSets", "()Z"⟩ : MethodName)) hown (mvT hZ (own_w hw 59 rfl)) (mvT hZ (own_w hw 60 rfl)) (notFace_of_selects (args := #[]) (mvT hZ (own_w hw 62 rfl))) (mvT hZ (own_w hw 62 rfl)) (mvT hZ (own_w hw 61 rfl)) (by decide) (backOf (W := 0) (rm_takes l Z a0 hw [] w1 w2 w23 w4 w5 w6 h108 n0 O109 S_COUNT S_SUM S_LOCAL_NAME S_NAMESPACE_URI S_NAME) hZ (own_w hw 63 rfl) (own_w hw 3 rfl) (by decide) (by decide)) q150a q150c (g := (mkF m 236 #[.val (.int p1), .val (.ref b1), .val (.int (1 : Int32)), .val (.ref w1), .val (.int (0 : Int32)), .unset] [(.ref w1)])) rfl (by rw [hml]; rfl) (Steps.refl _) (argsL := []) (rest := []) (lenOf pd_0 rfl) rfl (by show 2 * 0 + _ ≤ _; exact Nat.le_of_eq rfl) (hb hby at_236) (fun _ _ => ⟨rfl, e108, (by decide : 1 + 0 ≤ _), (by decide : 27 + 0 ≤ _)⟩)
    dsimp only [Pt.U, Pt.locs, Pt.cells, Pt.slots] at X150 l150 y150 z150 st150 hQ150
    rw [l150, y150, z150] at X150
    rcases hQ150 with ⟨c151, rfl, N152, k153⟩ | ⟨c154, c155, rfl, N156, k157⟩ | ⟨c158, c159, c160, rfl, N161, k162⟩ | ⟨c163, c164, c165, c166, rfl, N167, k168⟩ | ⟨c169, c170, c171, c172, c173, rfl, N174, k175⟩ | ⟨c176, c177, c178, c179, c180, rfl, N181, k182⟩
    · exact absurd c151 ((Fld.ne Fo_POSITION Fo_COUNT (by decide)) : ¬ (w1 = w2))
    · exact absurd c155 ((Fld.ne Fo_POSITION Fo_SUM (by decide)) : ¬ (w1 = w23))
    · exact absurd c160 ((Fld.ne Fo_POSITION Fo_LOCAL_NAME (by decide)) : ¬ (w1 = w4))
    · exact absurd c166 ((Fld.ne Fo_POSITION Fo_NAMESPACE_URI (by decide)) : ¬ (w1 = w5))
    · exact absurd c173 ((Fld.ne Fo_POSITION Fo_NAME (by decide)) : ¬ (w1 = w6))
    · have N183 := Fr.app N110 N181
      have S184 : ∀ t, Steps p.tables e below (T150.setTop (mkF m 266 #[.val (.int p1), .val (.ref b1), .val (.int (1 : Int32)), .val (.ref w1), .val (.int (0 : Int32)), .val (.int (0 : Int32))] [(.int (1 : Int32))])) t → Steps p.tables e below (s₁.setTop (mkF m 0 #[.val (.int p1), .unset, .unset, .unset, .unset, .unset] [])) t := by
        intro t kt
        refine S112 t ?_
        refine XS.istoreN X108.here hx rfl (hb hby at_196) rfl (l' := #[.val (.int p1), .val (.ref b1), .val (.int (1 : Int32)), .unset, .unset, .unset]) rfl ?_
        refine XS.aloadN X108.here hx rfl (hb hby at_197) rfl rfl ?_
        refine XS.iloadN X108.here hx rfl (hb hby at_198) rfl ?_
        show Steps p.tables e below (T108.setTop (mkF m 199 #[.val (.int p1), .val (.ref b1), .val (.int (1 : Int32)), .unset, .unset, .unset] [(.int (1 : Int32)), (.ref b1)])) _
        refine X108.aaload hx (j := (1 : Int32)) (v := (.ref w1)) (by rw [e108]; exact Ar149.1) (State.isArrayOf_alike hZ.alike Ar149.2.1) rfl Ar149.2.2 in149 at149 (g := (mkF m 199 #[.val (.int p1), .val (.ref b1), .val (.int (1 : Int32)), .unset, .unset, .unset] [(.int (1 : Int32)), (.ref b1)])) rfl rfl (hb hby at_199) _ ?_
        refine XS.astoreN X108.here hx rfl (hb hby at_200) rfl rfl (l' := #[.val (.int p1), .val (.ref b1), .val (.int (1 : Int32)), .val (.ref w1), .unset, .unset]) rfl ?_
        refine XS.iloadN X108.here hx rfl (hb hby at_201) rfl ?_
        refine XS.iconst X108.here hx rfl (hb hby at_202) ?_
        refine XS.icmpNo X108.here hx rfl (hb hby at_203) rfl (feq ((by decide) : ¬ ((1 : Int32) = (2 : Int32)))).1 ?_
        refine XS.iloadN X108.here hx rfl (hb hby at_206) rfl ?_
        show Steps p.tables e below (T108.setTop (mkF m 207 #[.val (.int p1), .val (.ref b1), .val (.int (1 : Int32)), .val (.ref w1), .unset, .unset] [(.int (1 : Int32))])) _
        refine XS.iconst X108.here hx rfl (hb hby at_207) ?_
        refine XS.icmpNo X108.here hx rfl (hb hby at_208) rfl (feq ((by decide) : ¬ ((1 : Int32) = (4 : Int32)))).1 ?_
        refine XS.iloadN X108.here hx rfl (hb hby at_211) rfl ?_
        refine XS.iconst X108.here hx rfl (hb hby at_212) ?_
        refine XS.icmpNo X108.here hx rfl (hb hby at_213) rfl (feq ((by decide) : ¬ ((1 : Int32) = (5 : Int32)))).1 ?_
        refine XS.iloadN X108.here hx rfl (hb hby at_216) rfl ?_
        show Steps p.tables e below (T108.setTop (mkF m 217 #[.val (.int p1), .val (.ref b1), .val (.int (1 : Int32)), .val (.ref w1), .unset, .unset] [(.int (1 : Int32))])) _
        refine XS.bipush X108.here hx rfl (hb hby at_217) ?_
        refine XS.icmpNo X108.here hx rfl (hb hby at_219) rfl (feq ((by decide) : ¬ ((1 : Int32) = (6 : Int32)))).1 ?_
        refine XS.iloadN X108.here hx rfl (hb hby at_222) rfl ?_
        refine XS.bipush X108.here hx rfl (hb hby at_223) ?_
        refine XS.icmpYes X108.here hx rfl (pc0 := 225) (pc' := 232) rfl (hb hby at_225) rfl (feq ((by decide) : ¬ ((1 : Int32) = (23 : Int32)))).2 (by decide) (by decide) ?_
        refine XS.iconst X108.here hx rfl (hb hby at_232) ?_
        show Steps p.tables e below (T108.setTop (mkF m 233 #[.val (.int p1), .val (.ref b1), .val (.int (1 : Int32)), .val (.ref w1), .unset, .unset] [(.int (0 : Int32))])) _
        refine XS.istore X108.here hx rfl (hb hby at_233) rfl (l' := #[.val (.int p1), .val (.ref b1), .val (.int (1 : Int32)), .val (.ref w1), .val (.int (0 : Int32)), .unset]) rfl ?_
        refine XS.aloadN X108.here hx rfl (hb hby at_235) rfl rfl ?_
        show Steps p.tables e below (T108.setTop (mkF m 236 #[.val (.int p1), .val (.ref b1), .val (.int (1 : Int32)), .val (.ref w1), .val (.int (0 : Int32)), .unset] [(.ref w1)])) _
        refine st150.trans ?_
        refine XS.istore X150.here hx rfl (hb hby at_239) rfl (l' := #[.val (.int p1), .val (.ref b1), .val (.int (1 : Int32)), .val (.ref w1), .val (.int (0 : Int32)), .val (.int (0 : Int32))]) rfl ?_
        refine XS.iload X150.here hx rfl (hb hby at_241) rfl ?_
        refine XS.iload X150.here hx rfl (hb hby at_243) rfl ?_
        refine XS.icmpNo X150.here hx rfl (hb hby at_245) rfl (teq ((by decide) : (0 : Int32) = (0 : Int32))).2 ?_
        refine XS.iload X150.here hx rfl (hb hby at_248) rfl ?_
        show Steps p.tables e below (T150.setTop (mkF m 250 #[.val (.int p1), .val (.ref b1), .val (.int (1 : Int32)), .val (.ref w1), .val (.int (0 : Int32)), .val (.int (0 : Int32))] [(.int (0 : Int32))])) _
        refine XS.ifYes X150.here hx rfl (pc0 := 250) (pc' := 261) rfl (hb hby at_250) rfl ((if0 _ _).trans (teq ((by decide) : (0 : Int32) = (0 : Int32))).1) (by decide) (by decide) ?_
        refine XS.iconst X150.here hx rfl (hb hby at_261) ?_
        refine XS.goto X150.here hx rfl (pc0 := 262) (pc' := 266) rfl (hb hby at_262) (by decide) (by decide) ?_
        exact kt
      obtain ⟨fs, hr, hrun, hended, hW, hsame⟩ := X150.leave (v := some (.int (1 : Int32))) (fun h => by rw [Bd.returns] at h; cases h)
      refine ⟨_, _, pre0 _ (S184 _ ?_), hrun, hended, _, _, rfl, ?_, ⟨_, rfl⟩, hW, hsame.mono (by decide) (by decide)⟩
      · exact retN X150 hx (t := .boolean) Bd.returns (by simp) (hb hby at_266) hr
      · show Q_rm_law Z p1 w0 w1 w2 w3 w4 w5 w6 w7 w8 w9 w10 w11 w12 w13 w14 w15 w16 w17 w18 w19 w20 w21 w22 w23 w24 w25 w26 h0 n0 _ T150.heap _
        rw [k182]
        exact ⟨rfl, N183⟩
  · obtain ⟨cl185, Ar185, q185, Sz185, Nn185, Hh185, Gg185⟩ := id F108
    have in185 : ¬ ((2 : Int32) < 0 ∨ cl185.slots.size ≤ ((2 : Int32)).toNatClampNeg) := by exact inb_of Sz185 ⟨by decide, by decide⟩
    have at185 : cl185.slots[((2 : Int32)).toNatClampNeg]? = some (.ref w2) := by
      refine Has.at Hh185 in185 ?_
      rfl
    obtain ⟨cq186, kq186, q186a, q186b, q186c⟩ := isOf hZ e108 (E_COUNT.ext O109.2)
    obtain ⟨_, _, ⟨T186, L186, k186, n186⟩, -, X186, ⟨Lc186, hQ186, l186, y186, z186⟩, st186⟩ := X108.virtualBack hx (y := (⟨"com/example/pico_notify/piconotify/XPathExpr$Function", "takesNodeSets", "()Z"⟩ : MethodName)) (z := (⟨"com/example/pico_notify/piconotify/XPathExpr$Function", "takesNodeSets", "()Z"⟩ : MethodName)) hown (mvT hZ (own_w hw 59 rfl)) (mvT hZ (own_w hw 60 rfl)) (notFace_of_selects (args := #[]) (mvT hZ (own_w hw 62 rfl))) (mvT hZ (own_w hw 62 rfl)) (mvT hZ (own_w hw 61 rfl)) (by decide) (backOf (W := 0) (rm_takes l Z a0 hw [] w2 w2 w23 w4 w5 w6 h108 n0 O109 S_COUNT S_SUM S_LOCAL_NAME S_NAMESPACE_URI S_NAME) hZ (own_w hw 63 rfl) (own_w hw 3 rfl) (by decide) (by decide)) q186a q186c (g := (mkF m 236 #[.val (.int p1), .val (.ref b1), .val (.int (2 : Int32)), .val (.ref w2), .val (.int (1 : Int32)), .unset] [(.ref w2)])) rfl (by rw [hml]; rfl) (Steps.refl _) (argsL := []) (rest := []) (lenOf pd_0 rfl) rfl (by show 2 * 0 + _ ≤ _; exact Nat.le_of_eq rfl) (hb hby at_236) (fun _ _ => ⟨rfl, e108, (by decide : 1 + 0 ≤ _), (by decide : 27 + 0 ≤ _)⟩)
    dsimp only [Pt.U, Pt.locs, Pt.cells, Pt.slots] at X186 l186 y186 z186 st186 hQ186
    rw [l186, y186, z186] at X186
    rcases hQ186 with ⟨c187, rfl, N188, k189⟩ | ⟨c190, c191, rfl, N192, k193⟩ | ⟨c194, c195, c196, rfl, N197, k198⟩ | ⟨c199, c200, c201, c202, rfl, N203, k204⟩ | ⟨c205, c206, c207, c208, c209, rfl, N210, k211⟩ | ⟨c212, c213, c214, c215, c216, rfl, N217, k218⟩
    · have N219 := Fr.app N110 N188
      obtain ⟨T220, X220, e220, st220⟩ := getF X186 hx hZ hown (host := "") (Or.inl (own_w hw 69 rfl)) Via.refl k189 (Fm_COUNT.ext O109.2) (g := (mkF m 254 #[.val (.int p1), .val (.ref b1), .val (.int (2 : Int32)), .val (.ref w2), .val (.int (1 : Int32)), .val (.int (1 : Int32))] [(.ref w2)])) rfl rfl (hb hby at_254)
      have S221 : ∀ t, Steps p.tables e below (T220.setTop (mkF m 266 #[.val (.int p1), .val (.ref b1), .val (.int (2 : Int32)), .val (.ref w2), .val (.int (1 : Int32)), .val (.int (1 : Int32))] [(.int (1 : Int32))])) t → Steps p.tables e below (s₁.setTop (mkF m 0 #[.val (.int p1), .unset, .unset, .unset, .unset, .unset] [])) t := by
        intro t kt
        refine S112 t ?_
        refine XS.istoreN X108.here hx rfl (hb hby at_196) rfl (l' := #[.val (.int p1), .val (.ref b1), .val (.int (2 : Int32)), .unset, .unset, .unset]) rfl ?_
        refine XS.aloadN X108.here hx rfl (hb hby at_197) rfl rfl ?_
        refine XS.iloadN X108.here hx rfl (hb hby at_198) rfl ?_
        show Steps p.tables e below (T108.setTop (mkF m 199 #[.val (.int p1), .val (.ref b1), .val (.int (2 : Int32)), .unset, .unset, .unset] [(.int (2 : Int32)), (.ref b1)])) _
        refine X108.aaload hx (j := (2 : Int32)) (v := (.ref w2)) (by rw [e108]; exact Ar185.1) (State.isArrayOf_alike hZ.alike Ar185.2.1) rfl Ar185.2.2 in185 at185 (g := (mkF m 199 #[.val (.int p1), .val (.ref b1), .val (.int (2 : Int32)), .unset, .unset, .unset] [(.int (2 : Int32)), (.ref b1)])) rfl rfl (hb hby at_199) _ ?_
        refine XS.astoreN X108.here hx rfl (hb hby at_200) rfl rfl (l' := #[.val (.int p1), .val (.ref b1), .val (.int (2 : Int32)), .val (.ref w2), .unset, .unset]) rfl ?_
        refine XS.iloadN X108.here hx rfl (hb hby at_201) rfl ?_
        refine XS.iconst X108.here hx rfl (hb hby at_202) ?_
        refine XS.icmpYes X108.here hx rfl (pc0 := 203) (pc' := 228) rfl (hb hby at_203) rfl (teq ((by decide) : (2 : Int32) = (2 : Int32))).1 (by decide) (by decide) ?_
        refine XS.iconst X108.here hx rfl (hb hby at_228) ?_
        show Steps p.tables e below (T108.setTop (mkF m 229 #[.val (.int p1), .val (.ref b1), .val (.int (2 : Int32)), .val (.ref w2), .unset, .unset] [(.int (1 : Int32))])) _
        refine XS.goto X108.here hx rfl (pc0 := 229) (pc' := 233) rfl (hb hby at_229) (by decide) (by decide) ?_
        refine XS.istore X108.here hx rfl (hb hby at_233) rfl (l' := #[.val (.int p1), .val (.ref b1), .val (.int (2 : Int32)), .val (.ref w2), .val (.int (1 : Int32)), .unset]) rfl ?_
        refine XS.aloadN X108.here hx rfl (hb hby at_235) rfl rfl ?_
        show Steps p.tables e below (T108.setTop (mkF m 236 #[.val (.int p1), .val (.ref b1), .val (.int (2 : Int32)), .val (.ref w2), .val (.int (1 : Int32)), .unset] [(.ref w2)])) _
        refine st186.trans ?_
        refine XS.istore X186.here hx rfl (hb hby at_239) rfl (l' := #[.val (.int p1), .val (.ref b1), .val (.int (2 : Int32)), .val (.ref w2), .val (.int (1 : Int32)), .val (.int (1 : Int32))]) rfl ?_
        refine XS.iload X186.here hx rfl (hb hby at_241) rfl ?_
        refine XS.iload X186.here hx rfl (hb hby at_243) rfl ?_
        refine XS.icmpNo X186.here hx rfl (hb hby at_245) rfl (teq ((by decide) : (1 : Int32) = (1 : Int32))).2 ?_
        refine XS.iload X186.here hx rfl (hb hby at_248) rfl ?_
        show Steps p.tables e below (T186.setTop (mkF m 250 #[.val (.int p1), .val (.ref b1), .val (.int (2 : Int32)), .val (.ref w2), .val (.int (1 : Int32)), .val (.int (1 : Int32))] [(.int (1 : Int32))])) _
        refine XS.ifNo X186.here hx rfl (hb hby at_250) rfl ((if0 _ _).trans (feq ((by decide) : ¬ ((1 : Int32) = (0 : Int32)))).1) ?_
        refine XS.aloadN X186.here hx rfl (hb hby at_253) rfl rfl ?_
        show Steps p.tables e below (T186.setTop (mkF m 254 #[.val (.int p1), .val (.ref b1), .val (.int (2 : Int32)), .val (.ref w2), .val (.int (1 : Int32)), .val (.int (1 : Int32))] [(.ref w2)])) _
        refine st220 _ ?_
        refine XS.iconst X220.here hx rfl (hb hby at_257) ?_
        refine XS.icmpNo X220.here hx rfl (hb hby at_258) rfl (teq ((by decide) : (1 : Int32) = (1 : Int32))).2 ?_
        refine XS.iconst X220.here hx rfl (hb hby at_261) ?_
        refine XS.goto X220.here hx rfl (pc0 := 262) (pc' := 266) rfl (hb hby at_262) (by decide) (by decide) ?_
        exact kt
      obtain ⟨fs, hr, hrun, hended, hW, hsame⟩ := X220.leave (v := some (.int (1 : Int32))) (fun h => by rw [Bd.returns] at h; cases h)
      refine ⟨_, _, pre0 _ (S221 _ ?_), hrun, hended, _, _, rfl, ?_, ⟨_, rfl⟩, hW, hsame.mono (by decide) (by decide)⟩
      · exact retN X220 hx (t := .boolean) Bd.returns (by simp) (hb hby at_266) hr
      · show Q_rm_law Z p1 w0 w1 w2 w3 w4 w5 w6 w7 w8 w9 w10 w11 w12 w13 w14 w15 w16 w17 w18 w19 w20 w21 w22 w23 w24 w25 w26 h0 n0 _ T220.heap _
        rw [e220]
        exact ⟨rfl, N219⟩
    · exact absurd (rfl : w2 = w2) c190
    · exact absurd (rfl : w2 = w2) c194
    · exact absurd (rfl : w2 = w2) c199
    · exact absurd (rfl : w2 = w2) c205
    · exact absurd (rfl : w2 = w2) c212
  · obtain ⟨cl222, Ar222, q222, Sz222, Nn222, Hh222, Gg222⟩ := id F108
    have in222 : ¬ ((3 : Int32) < 0 ∨ cl222.slots.size ≤ ((3 : Int32)).toNatClampNeg) := by exact inb_of Sz222 ⟨by decide, by decide⟩
    have at222 : cl222.slots[((3 : Int32)).toNatClampNeg]? = some (.ref w3) := by
      refine Has.at Hh222 in222 ?_
      rfl
    obtain ⟨cq223, kq223, q223a, q223b, q223c⟩ := isOf hZ e108 (E_ID.ext O109.2)
    obtain ⟨_, _, ⟨T223, L223, k223, n223⟩, -, X223, ⟨Lc223, hQ223, l223, y223, z223⟩, st223⟩ := X108.virtualBack hx (y := (⟨"com/example/pico_notify/piconotify/XPathExpr$Function", "takesNodeSets", "()Z"⟩ : MethodName)) (z := (⟨"com/example/pico_notify/piconotify/XPathExpr$Function", "takesNodeSets", "()Z"⟩ : MethodName)) hown (mvT hZ (own_w hw 59 rfl)) (mvT hZ (own_w hw 60 rfl)) (notFace_of_selects (args := #[]) (mvT hZ (own_w hw 62 rfl))) (mvT hZ (own_w hw 62 rfl)) (mvT hZ (own_w hw 61 rfl)) (by decide) (backOf (W := 0) (rm_takes l Z a0 hw [] w3 w2 w23 w4 w5 w6 h108 n0 O109 S_COUNT S_SUM S_LOCAL_NAME S_NAMESPACE_URI S_NAME) hZ (own_w hw 63 rfl) (own_w hw 3 rfl) (by decide) (by decide)) q223a q223c (g := (mkF m 236 #[.val (.int p1), .val (.ref b1), .val (.int (3 : Int32)), .val (.ref w3), .val (.int (0 : Int32)), .unset] [(.ref w3)])) rfl (by rw [hml]; rfl) (Steps.refl _) (argsL := []) (rest := []) (lenOf pd_0 rfl) rfl (by show 2 * 0 + _ ≤ _; exact Nat.le_of_eq rfl) (hb hby at_236) (fun _ _ => ⟨rfl, e108, (by decide : 1 + 0 ≤ _), (by decide : 27 + 0 ≤ _)⟩)
    dsimp only [Pt.U, Pt.locs, Pt.cells, Pt.slots] at X223 l223 y223 z223 st223 hQ223
    rw [l223, y223, z223] at X223
    rcases hQ223 with ⟨c224, rfl, N225, k226⟩ | ⟨c227, c228, rfl, N229, k230⟩ | ⟨c231, c232, c233, rfl, N234, k235⟩ | ⟨c236, c237, c238, c239, rfl, N240, k241⟩ | ⟨c242, c243, c244, c245, c246, rfl, N247, k248⟩ | ⟨c249, c250, c251, c252, c253, rfl, N254, k255⟩
    · exact absurd c224 ((Fld.ne Fo_ID Fo_COUNT (by decide)) : ¬ (w3 = w2))
    · exact absurd c228 ((Fld.ne Fo_ID Fo_SUM (by decide)) : ¬ (w3 = w23))
    · exact absurd c233 ((Fld.ne Fo_ID Fo_LOCAL_NAME (by decide)) : ¬ (w3 = w4))
    · exact absurd c239 ((Fld.ne Fo_ID Fo_NAMESPACE_URI (by decide)) : ¬ (w3 = w5))
    · exact absurd c246 ((Fld.ne Fo_ID Fo_NAME (by decide)) : ¬ (w3 = w6))
    · have N256 := Fr.app N110 N254
      have S257 : ∀ t, Steps p.tables e below (T223.setTop (mkF m 266 #[.val (.int p1), .val (.ref b1), .val (.int (3 : Int32)), .val (.ref w3), .val (.int (0 : Int32)), .val (.int (0 : Int32))] [(.int (1 : Int32))])) t → Steps p.tables e below (s₁.setTop (mkF m 0 #[.val (.int p1), .unset, .unset, .unset, .unset, .unset] [])) t := by
        intro t kt
        refine S112 t ?_
        refine XS.istoreN X108.here hx rfl (hb hby at_196) rfl (l' := #[.val (.int p1), .val (.ref b1), .val (.int (3 : Int32)), .unset, .unset, .unset]) rfl ?_
        refine XS.aloadN X108.here hx rfl (hb hby at_197) rfl rfl ?_
        refine XS.iloadN X108.here hx rfl (hb hby at_198) rfl ?_
        show Steps p.tables e below (T108.setTop (mkF m 199 #[.val (.int p1), .val (.ref b1), .val (.int (3 : Int32)), .unset, .unset, .unset] [(.int (3 : Int32)), (.ref b1)])) _
        refine X108.aaload hx (j := (3 : Int32)) (v := (.ref w3)) (by rw [e108]; exact Ar222.1) (State.isArrayOf_alike hZ.alike Ar222.2.1) rfl Ar222.2.2 in222 at222 (g := (mkF m 199 #[.val (.int p1), .val (.ref b1), .val (.int (3 : Int32)), .unset, .unset, .unset] [(.int (3 : Int32)), (.ref b1)])) rfl rfl (hb hby at_199) _ ?_
        refine XS.astoreN X108.here hx rfl (hb hby at_200) rfl rfl (l' := #[.val (.int p1), .val (.ref b1), .val (.int (3 : Int32)), .val (.ref w3), .unset, .unset]) rfl ?_
        refine XS.iloadN X108.here hx rfl (hb hby at_201) rfl ?_
        refine XS.iconst X108.here hx rfl (hb hby at_202) ?_
        refine XS.icmpNo X108.here hx rfl (hb hby at_203) rfl (feq ((by decide) : ¬ ((3 : Int32) = (2 : Int32)))).1 ?_
        refine XS.iloadN X108.here hx rfl (hb hby at_206) rfl ?_
        show Steps p.tables e below (T108.setTop (mkF m 207 #[.val (.int p1), .val (.ref b1), .val (.int (3 : Int32)), .val (.ref w3), .unset, .unset] [(.int (3 : Int32))])) _
        refine XS.iconst X108.here hx rfl (hb hby at_207) ?_
        refine XS.icmpNo X108.here hx rfl (hb hby at_208) rfl (feq ((by decide) : ¬ ((3 : Int32) = (4 : Int32)))).1 ?_
        refine XS.iloadN X108.here hx rfl (hb hby at_211) rfl ?_
        refine XS.iconst X108.here hx rfl (hb hby at_212) ?_
        refine XS.icmpNo X108.here hx rfl (hb hby at_213) rfl (feq ((by decide) : ¬ ((3 : Int32) = (5 : Int32)))).1 ?_
        refine XS.iloadN X108.here hx rfl (hb hby at_216) rfl ?_
        show Steps p.tables e below (T108.setTop (mkF m 217 #[.val (.int p1), .val (.ref b1), .val (.int (3 : Int32)), .val (.ref w3), .unset, .unset] [(.int (3 : Int32))])) _
        refine XS.bipush X108.here hx rfl (hb hby at_217) ?_
        refine XS.icmpNo X108.here hx rfl (hb hby at_219) rfl (feq ((by decide) : ¬ ((3 : Int32) = (6 : Int32)))).1 ?_
        refine XS.iloadN X108.here hx rfl (hb hby at_222) rfl ?_
        refine XS.bipush X108.here hx rfl (hb hby at_223) ?_
        refine XS.icmpYes X108.here hx rfl (pc0 := 225) (pc' := 232) rfl (hb hby at_225) rfl (feq ((by decide) : ¬ ((3 : Int32) = (23 : Int32)))).2 (by decide) (by decide) ?_
        refine XS.iconst X108.here hx rfl (hb hby at_232) ?_
        show Steps p.tables e below (T108.setTop (mkF m 233 #[.val (.int p1), .val (.ref b1), .val (.int (3 : Int32)), .val (.ref w3), .unset, .unset] [(.int (0 : Int32))])) _
        refine XS.istore X108.here hx rfl (hb hby at_233) rfl (l' := #[.val (.int p1), .val (.ref b1), .val (.int (3 : Int32)), .val (.ref w3), .val (.int (0 : Int32)), .unset]) rfl ?_
        refine XS.aloadN X108.here hx rfl (hb hby at_235) rfl rfl ?_
        show Steps p.tables e below (T108.setTop (mkF m 236 #[.val (.int p1), .val (.ref b1), .val (.int (3 : Int32)), .val (.ref w3), .val (.int (0 : Int32)), .unset] [(.ref w3)])) _
        refine st223.trans ?_
        refine XS.istore X223.here hx rfl (hb hby at_239) rfl (l' := #[.val (.int p1), .val (.ref b1), .val (.int (3 : Int32)), .val (.ref w3), .val (.int (0 : Int32)), .val (.int (0 : Int32))]) rfl ?_
        refine XS.iload X223.here hx rfl (hb hby at_241) rfl ?_
        refine XS.iload X223.here hx rfl (hb hby at_243) rfl ?_
        refine XS.icmpNo X223.here hx rfl (hb hby at_245) rfl (teq ((by decide) : (0 : Int32) = (0 : Int32))).2 ?_
        refine XS.iload X223.here hx rfl (hb hby at_248) rfl ?_
        show Steps p.tables e below (T223.setTop (mkF m 250 #[.val (.int p1), .val (.ref b1), .val (.int (3 : Int32)), .val (.ref w3), .val (.int (0 : Int32)), .val (.int (0 : Int32))] [(.int (0 : Int32))])) _
        refine XS.ifYes X223.here hx rfl (pc0 := 250) (pc' := 261) rfl (hb hby at_250) rfl ((if0 _ _).trans (teq ((by decide) : (0 : Int32) = (0 : Int32))).1) (by decide) (by decide) ?_
        refine XS.iconst X223.here hx rfl (hb hby at_261) ?_
        refine XS.goto X223.here hx rfl (pc0 := 262) (pc' := 266) rfl (hb hby at_262) (by decide) (by decide) ?_
        exact kt
      obtain ⟨fs, hr, hrun, hended, hW, hsame⟩ := X223.leave (v := some (.int (1 : Int32))) (fun h => by rw [Bd.returns] at h; cases h)
      refine ⟨_, _, pre0 _ (S257 _ ?_), hrun, hended, _, _, rfl, ?_, ⟨_, rfl⟩, hW, hsame.mono (by decide) (by decide)⟩
      · exact retN X223 hx (t := .boolean) Bd.returns (by simp) (hb hby at_266) hr
      · show Q_rm_law Z p1 w0 w1 w2 w3 w4 w5 w6 w7 w8 w9 w10 w11 w12 w13 w14 w15 w16 w17 w18 w19 w20 w21 w22 w23 w24 w25 w26 h0 n0 _ T223.heap _
        rw [k255]
        exact ⟨rfl, N256⟩
  · obtain ⟨cl258, Ar258, q258, Sz258, Nn258, Hh258, Gg258⟩ := id F108
    have in258 : ¬ ((4 : Int32) < 0 ∨ cl258.slots.size ≤ ((4 : Int32)).toNatClampNeg) := by exact inb_of Sz258 ⟨by decide, by decide⟩
    have at258 : cl258.slots[((4 : Int32)).toNatClampNeg]? = some (.ref w4) := by
      refine Has.at Hh258 in258 ?_
      rfl
    obtain ⟨cq259, kq259, q259a, q259b, q259c⟩ := isOf hZ e108 (E_LOCAL_NAME.ext O109.2)
    obtain ⟨_, _, ⟨T259, L259, k259, n259⟩, -, X259, ⟨Lc259, hQ259, l259, y259, z259⟩, st259⟩ := X108.virtualBack hx (y := (⟨"com/example/pico_notify/piconotify/XPathExpr$Function", "takesNodeSets", "()Z"⟩ : MethodName)) (z := (⟨"com/example/pico_notify/piconotify/XPathExpr$Function", "takesNodeSets", "()Z"⟩ : MethodName)) hown (mvT hZ (own_w hw 59 rfl)) (mvT hZ (own_w hw 60 rfl)) (notFace_of_selects (args := #[]) (mvT hZ (own_w hw 62 rfl))) (mvT hZ (own_w hw 62 rfl)) (mvT hZ (own_w hw 61 rfl)) (by decide) (backOf (W := 0) (rm_takes l Z a0 hw [] w4 w2 w23 w4 w5 w6 h108 n0 O109 S_COUNT S_SUM S_LOCAL_NAME S_NAMESPACE_URI S_NAME) hZ (own_w hw 63 rfl) (own_w hw 3 rfl) (by decide) (by decide)) q259a q259c (g := (mkF m 236 #[.val (.int p1), .val (.ref b1), .val (.int (4 : Int32)), .val (.ref w4), .val (.int (1 : Int32)), .unset] [(.ref w4)])) rfl (by rw [hml]; rfl) (Steps.refl _) (argsL := []) (rest := []) (lenOf pd_0 rfl) rfl (by show 2 * 0 + _ ≤ _; exact Nat.le_of_eq rfl) (hb hby at_236) (fun _ _ => ⟨rfl, e108, (by decide : 1 + 0 ≤ _), (by decide : 27 + 0 ≤ _)⟩)
    dsimp only [Pt.U, Pt.locs, Pt.cells, Pt.slots] at X259 l259 y259 z259 st259 hQ259
    rw [l259, y259, z259] at X259
    rcases hQ259 with ⟨c260, rfl, N261, k262⟩ | ⟨c263, c264, rfl, N265, k266⟩ | ⟨c267, c268, c269, rfl, N270, k271⟩ | ⟨c272, c273, c274, c275, rfl, N276, k277⟩ | ⟨c278, c279, c280, c281, c282, rfl, N283, k284⟩ | ⟨c285, c286, c287, c288, c289, rfl, N290, k291⟩
    · exact absurd c260 ((Fld.ne Fo_LOCAL_NAME Fo_COUNT (by decide)) : ¬ (w4 = w2))
    · exact absurd c264 ((Fld.ne Fo_LOCAL_NAME Fo_SUM (by decide)) : ¬ (w4 = w23))
    · have N292 := Fr.app N110 N270
      obtain ⟨T293, X293, e293, st293⟩ := getF X259 hx hZ hown (host := "") (Or.inl (own_w hw 69 rfl)) Via.refl k271 (Fm_LOCAL_NAME.ext O109.2) (g := (mkF m 254 #[.val (.int p1), .val (.ref b1), .val (.int (4 : Int32)), .val (.ref w4), .val (.int (1 : Int32)), .val (.int (1 : Int32))] [(.ref w4)])) rfl rfl (hb hby at_254)
      have S294 : ∀ t, Steps p.tables e below (T293.setTop (mkF m 266 #[.val (.int p1), .val (.ref b1), .val (.int (4 : Int32)), .val (.ref w4), .val (.int (1 : Int32)), .val (.int (1 : Int32))] [(.int (1 : Int32))])) t → Steps p.tables e below (s₁.setTop (mkF m 0 #[.val (.int p1), .unset, .unset, .unset, .unset, .unset] [])) t := by
        intro t kt
        refine S112 t ?_
        refine XS.istoreN X108.here hx rfl (hb hby at_196) rfl (l' := #[.val (.int p1), .val (.ref b1), .val (.int (4 : Int32)), .unset, .unset, .unset]) rfl ?_
        refine XS.aloadN X108.here hx rfl (hb hby at_197) rfl rfl ?_
        refine XS.iloadN X108.here hx rfl (hb hby at_198) rfl ?_
        show Steps p.tables e below (T108.setTop (mkF m 199 #[.val (.int p1), .val (.ref b1), .val (.int (4 : Int32)), .unset, .unset, .unset] [(.int (4 : Int32)), (.ref b1)])) _
        refine X108.aaload hx (j := (4 : Int32)) (v := (.ref w4)) (by rw [e108]; exact Ar258.1) (State.isArrayOf_alike hZ.alike Ar258.2.1) rfl Ar258.2.2 in258 at258 (g := (mkF m 199 #[.val (.int p1), .val (.ref b1), .val (.int (4 : Int32)), .unset, .unset, .unset] [(.int (4 : Int32)), (.ref b1)])) rfl rfl (hb hby at_199) _ ?_
        refine XS.astoreN X108.here hx rfl (hb hby at_200) rfl rfl (l' := #[.val (.int p1), .val (.ref b1), .val (.int (4 : Int32)), .val (.ref w4), .unset, .unset]) rfl ?_
        refine XS.iloadN X108.here hx rfl (hb hby at_201) rfl ?_
        refine XS.iconst X108.here hx rfl (hb hby at_202) ?_
        refine XS.icmpNo X108.here hx rfl (hb hby at_203) rfl (feq ((by decide) : ¬ ((4 : Int32) = (2 : Int32)))).1 ?_
        refine XS.iloadN X108.here hx rfl (hb hby at_206) rfl ?_
        show Steps p.tables e below (T108.setTop (mkF m 207 #[.val (.int p1), .val (.ref b1), .val (.int (4 : Int32)), .val (.ref w4), .unset, .unset] [(.int (4 : Int32))])) _
        refine XS.iconst X108.here hx rfl (hb hby at_207) ?_
        refine XS.icmpYes X108.here hx rfl (pc0 := 208) (pc' := 228) rfl (hb hby at_208) rfl (teq ((by decide) : (4 : Int32) = (4 : Int32))).1 (by decide) (by decide) ?_
        refine XS.iconst X108.here hx rfl (hb hby at_228) ?_
        refine XS.goto X108.here hx rfl (pc0 := 229) (pc' := 233) rfl (hb hby at_229) (by decide) (by decide) ?_
        refine XS.istore X108.here hx rfl (hb hby at_233) rfl (l' := #[.val (.int p1), .val (.ref b1), .val (.int (4 : Int32)), .val (.ref w4), .val (.int (1 : Int32)), .unset]) rfl ?_
        refine XS.aloadN X108.here hx rfl (hb hby at_235) rfl rfl ?_
        show Steps p.tables e below (T108.setTop (mkF m 236 #[.val (.int p1), .val (.ref b1), .val (.int (4 : Int32)), .val (.ref w4), .val (.int (1 : Int32)), .unset] [(.ref w4)])) _
        refine st259.trans ?_
        refine XS.istore X259.here hx rfl (hb hby at_239) rfl (l' := #[.val (.int p1), .val (.ref b1), .val (.int (4 : Int32)), .val (.ref w4), .val (.int (1 : Int32)), .val (.int (1 : Int32))]) rfl ?_
        refine XS.iload X259.here hx rfl (hb hby at_241) rfl ?_
        refine XS.iload X259.here hx rfl (hb hby at_243) rfl ?_
        refine XS.icmpNo X259.here hx rfl (hb hby at_245) rfl (teq ((by decide) : (1 : Int32) = (1 : Int32))).2 ?_
        refine XS.iload X259.here hx rfl (hb hby at_248) rfl ?_
        show Steps p.tables e below (T259.setTop (mkF m 250 #[.val (.int p1), .val (.ref b1), .val (.int (4 : Int32)), .val (.ref w4), .val (.int (1 : Int32)), .val (.int (1 : Int32))] [(.int (1 : Int32))])) _
        refine XS.ifNo X259.here hx rfl (hb hby at_250) rfl ((if0 _ _).trans (feq ((by decide) : ¬ ((1 : Int32) = (0 : Int32)))).1) ?_
        refine XS.aloadN X259.here hx rfl (hb hby at_253) rfl rfl ?_
        show Steps p.tables e below (T259.setTop (mkF m 254 #[.val (.int p1), .val (.ref b1), .val (.int (4 : Int32)), .val (.ref w4), .val (.int (1 : Int32)), .val (.int (1 : Int32))] [(.ref w4)])) _
        refine st293 _ ?_
        refine XS.iconst X293.here hx rfl (hb hby at_257) ?_
        refine XS.icmpNo X293.here hx rfl (hb hby at_258) rfl (teq ((by decide) : (1 : Int32) = (1 : Int32))).2 ?_
        refine XS.iconst X293.here hx rfl (hb hby at_261) ?_
        refine XS.goto X293.here hx rfl (pc0 := 262) (pc' := 266) rfl (hb hby at_262) (by decide) (by decide) ?_
        exact kt
      obtain ⟨fs, hr, hrun, hended, hW, hsame⟩ := X293.leave (v := some (.int (1 : Int32))) (fun h => by rw [Bd.returns] at h; cases h)
      refine ⟨_, _, pre0 _ (S294 _ ?_), hrun, hended, _, _, rfl, ?_, ⟨_, rfl⟩, hW, hsame.mono (by decide) (by decide)⟩
      · exact retN X293 hx (t := .boolean) Bd.returns (by simp) (hb hby at_266) hr
      · show Q_rm_law Z p1 w0 w1 w2 w3 w4 w5 w6 w7 w8 w9 w10 w11 w12 w13 w14 w15 w16 w17 w18 w19 w20 w21 w22 w23 w24 w25 w26 h0 n0 _ T293.heap _
        rw [e293]
        exact ⟨rfl, N292⟩
    · exact absurd (rfl : w4 = w4) c274
    · exact absurd (rfl : w4 = w4) c280
    · exact absurd (rfl : w4 = w4) c287
  · obtain ⟨cl295, Ar295, q295, Sz295, Nn295, Hh295, Gg295⟩ := id F108
    have in295 : ¬ ((5 : Int32) < 0 ∨ cl295.slots.size ≤ ((5 : Int32)).toNatClampNeg) := by exact inb_of Sz295 ⟨by decide, by decide⟩
    have at295 : cl295.slots[((5 : Int32)).toNatClampNeg]? = some (.ref w5) := by
      refine Has.at Hh295 in295 ?_
      rfl
    obtain ⟨cq296, kq296, q296a, q296b, q296c⟩ := isOf hZ e108 (E_NAMESPACE_URI.ext O109.2)
    obtain ⟨_, _, ⟨T296, L296, k296, n296⟩, -, X296, ⟨Lc296, hQ296, l296, y296, z296⟩, st296⟩ := X108.virtualBack hx (y := (⟨"com/example/pico_notify/piconotify/XPathExpr$Function", "takesNodeSets", "()Z"⟩ : MethodName)) (z := (⟨"com/example/pico_notify/piconotify/XPathExpr$Function", "takesNodeSets", "()Z"⟩ : MethodName)) hown (mvT hZ (own_w hw 59 rfl)) (mvT hZ (own_w hw 60 rfl)) (notFace_of_selects (args := #[]) (mvT hZ (own_w hw 62 rfl))) (mvT hZ (own_w hw 62 rfl)) (mvT hZ (own_w hw 61 rfl)) (by decide) (backOf (W := 0) (rm_takes l Z a0 hw [] w5 w2 w23 w4 w5 w6 h108 n0 O109 S_COUNT S_SUM S_LOCAL_NAME S_NAMESPACE_URI S_NAME) hZ (own_w hw 63 rfl) (own_w hw 3 rfl) (by decide) (by decide)) q296a q296c (g := (mkF m 236 #[.val (.int p1), .val (.ref b1), .val (.int (5 : Int32)), .val (.ref w5), .val (.int (1 : Int32)), .unset] [(.ref w5)])) rfl (by rw [hml]; rfl) (Steps.refl _) (argsL := []) (rest := []) (lenOf pd_0 rfl) rfl (by show 2 * 0 + _ ≤ _; exact Nat.le_of_eq rfl) (hb hby at_236) (fun _ _ => ⟨rfl, e108, (by decide : 1 + 0 ≤ _), (by decide : 27 + 0 ≤ _)⟩)
    dsimp only [Pt.U, Pt.locs, Pt.cells, Pt.slots] at X296 l296 y296 z296 st296 hQ296
    rw [l296, y296, z296] at X296
    rcases hQ296 with ⟨c297, rfl, N298, k299⟩ | ⟨c300, c301, rfl, N302, k303⟩ | ⟨c304, c305, c306, rfl, N307, k308⟩ | ⟨c309, c310, c311, c312, rfl, N313, k314⟩ | ⟨c315, c316, c317, c318, c319, rfl, N320, k321⟩ | ⟨c322, c323, c324, c325, c326, rfl, N327, k328⟩
    · exact absurd c297 ((Fld.ne Fo_NAMESPACE_URI Fo_COUNT (by decide)) : ¬ (w5 = w2))
    · exact absurd c301 ((Fld.ne Fo_NAMESPACE_URI Fo_SUM (by decide)) : ¬ (w5 = w23))
    · exact absurd c306 ((Fld.ne Fo_NAMESPACE_URI Fo_LOCAL_NAME (by decide)) : ¬ (w5 = w4))
    · have N329 := Fr.app N110 N313
      obtain ⟨T330, X330, e330, st330⟩ := getF X296 hx hZ hown (host := "") (Or.inl (own_w hw 69 rfl)) Via.refl k314 (Fm_NAMESPACE_URI.ext O109.2) (g := (mkF m 254 #[.val (.int p1), .val (.ref b1), .val (.int (5 : Int32)), .val (.ref w5), .val (.int (1 : Int32)), .val (.int (1 : Int32))] [(.ref w5)])) rfl rfl (hb hby at_254)
      have S331 : ∀ t, Steps p.tables e below (T330.setTop (mkF m 266 #[.val (.int p1), .val (.ref b1), .val (.int (5 : Int32)), .val (.ref w5), .val (.int (1 : Int32)), .val (.int (1 : Int32))] [(.int (1 : Int32))])) t → Steps p.tables e below (s₁.setTop (mkF m 0 #[.val (.int p1), .unset, .unset, .unset, .unset, .unset] [])) t := by
        intro t kt
        refine S112 t ?_
        refine XS.istoreN X108.here hx rfl (hb hby at_196) rfl (l' := #[.val (.int p1), .val (.ref b1), .val (.int (5 : Int32)), .unset, .unset, .unset]) rfl ?_
        refine XS.aloadN X108.here hx rfl (hb hby at_197) rfl rfl ?_
        refine XS.iloadN X108.here hx rfl (hb hby at_198) rfl ?_
        show Steps p.tables e below (T108.setTop (mkF m 199 #[.val (.int p1), .val (.ref b1), .val (.int (5 : Int32)), .unset, .unset, .unset] [(.int (5 : Int32)), (.ref b1)])) _
        refine X108.aaload hx (j := (5 : Int32)) (v := (.ref w5)) (by rw [e108]; exact Ar295.1) (State.isArrayOf_alike hZ.alike Ar295.2.1) rfl Ar295.2.2 in295 at295 (g := (mkF m 199 #[.val (.int p1), .val (.ref b1), .val (.int (5 : Int32)), .unset, .unset, .unset] [(.int (5 : Int32)), (.ref b1)])) rfl rfl (hb hby at_199) _ ?_
        refine XS.astoreN X108.here hx rfl (hb hby at_200) rfl rfl (l' := #[.val (.int p1), .val (.ref b1), .val (.int (5 : Int32)), .val (.ref w5), .unset, .unset]) rfl ?_
        refine XS.iloadN X108.here hx rfl (hb hby at_201) rfl ?_
        refine XS.iconst X108.here hx rfl (hb hby at_202) ?_
        refine XS.icmpNo X108.here hx rfl (hb hby at_203) rfl (feq ((by decide) : ¬ ((5 : Int32) = (2 : Int32)))).1 ?_
        refine XS.iloadN X108.here hx rfl (hb hby at_206) rfl ?_
        show Steps p.tables e below (T108.setTop (mkF m 207 #[.val (.int p1), .val (.ref b1), .val (.int (5 : Int32)), .val (.ref w5), .unset, .unset] [(.int (5 : Int32))])) _
        refine XS.iconst X108.here hx rfl (hb hby at_207) ?_
        refine XS.icmpNo X108.here hx rfl (hb hby at_208) rfl (feq ((by decide) : ¬ ((5 : Int32) = (4 : Int32)))).1 ?_
        refine XS.iloadN X108.here hx rfl (hb hby at_211) rfl ?_
        refine XS.iconst X108.here hx rfl (hb hby at_212) ?_
        refine XS.icmpYes X108.here hx rfl (pc0 := 213) (pc' := 228) rfl (hb hby at_213) rfl (teq ((by decide) : (5 : Int32) = (5 : Int32))).1 (by decide) (by decide) ?_
        refine XS.iconst X108.here hx rfl (hb hby at_228) ?_
        show Steps p.tables e below (T108.setTop (mkF m 229 #[.val (.int p1), .val (.ref b1), .val (.int (5 : Int32)), .val (.ref w5), .unset, .unset] [(.int (1 : Int32))])) _
        refine XS.goto X108.here hx rfl (pc0 := 229) (pc' := 233) rfl (hb hby at_229) (by decide) (by decide) ?_
        refine XS.istore X108.here hx rfl (hb hby at_233) rfl (l' := #[.val (.int p1), .val (.ref b1), .val (.int (5 : Int32)), .val (.ref w5), .val (.int (1 : Int32)), .unset]) rfl ?_
        refine XS.aloadN X108.here hx rfl (hb hby at_235) rfl rfl ?_
        show Steps p.tables e below (T108.setTop (mkF m 236 #[.val (.int p1), .val (.ref b1), .val (.int (5 : Int32)), .val (.ref w5), .val (.int (1 : Int32)), .unset] [(.ref w5)])) _
        refine st296.trans ?_
        refine XS.istore X296.here hx rfl (hb hby at_239) rfl (l' := #[.val (.int p1), .val (.ref b1), .val (.int (5 : Int32)), .val (.ref w5), .val (.int (1 : Int32)), .val (.int (1 : Int32))]) rfl ?_
        refine XS.iload X296.here hx rfl (hb hby at_241) rfl ?_
        refine XS.iload X296.here hx rfl (hb hby at_243) rfl ?_
        refine XS.icmpNo X296.here hx rfl (hb hby at_245) rfl (teq ((by decide) : (1 : Int32) = (1 : Int32))).2 ?_
        refine XS.iload X296.here hx rfl (hb hby at_248) rfl ?_
        show Steps p.tables e below (T296.setTop (mkF m 250 #[.val (.int p1), .val (.ref b1), .val (.int (5 : Int32)), .val (.ref w5), .val (.int (1 : Int32)), .val (.int (1 : Int32))] [(.int (1 : Int32))])) _
        refine XS.ifNo X296.here hx rfl (hb hby at_250) rfl ((if0 _ _).trans (feq ((by decide) : ¬ ((1 : Int32) = (0 : Int32)))).1) ?_
        refine XS.aloadN X296.here hx rfl (hb hby at_253) rfl rfl ?_
        show Steps p.tables e below (T296.setTop (mkF m 254 #[.val (.int p1), .val (.ref b1), .val (.int (5 : Int32)), .val (.ref w5), .val (.int (1 : Int32)), .val (.int (1 : Int32))] [(.ref w5)])) _
        refine st330 _ ?_
        refine XS.iconst X330.here hx rfl (hb hby at_257) ?_
        refine XS.icmpNo X330.here hx rfl (hb hby at_258) rfl (teq ((by decide) : (1 : Int32) = (1 : Int32))).2 ?_
        refine XS.iconst X330.here hx rfl (hb hby at_261) ?_
        refine XS.goto X330.here hx rfl (pc0 := 262) (pc' := 266) rfl (hb hby at_262) (by decide) (by decide) ?_
        exact kt
      obtain ⟨fs, hr, hrun, hended, hW, hsame⟩ := X330.leave (v := some (.int (1 : Int32))) (fun h => by rw [Bd.returns] at h; cases h)
      refine ⟨_, _, pre0 _ (S331 _ ?_), hrun, hended, _, _, rfl, ?_, ⟨_, rfl⟩, hW, hsame.mono (by decide) (by decide)⟩
      · exact retN X330 hx (t := .boolean) Bd.returns (by simp) (hb hby at_266) hr
      · show Q_rm_law Z p1 w0 w1 w2 w3 w4 w5 w6 w7 w8 w9 w10 w11 w12 w13 w14 w15 w16 w17 w18 w19 w20 w21 w22 w23 w24 w25 w26 h0 n0 _ T330.heap _
        rw [e330]
        exact ⟨rfl, N329⟩
    · exact absurd (rfl : w5 = w5) c318
    · exact absurd (rfl : w5 = w5) c325
  · obtain ⟨cl332, Ar332, q332, Sz332, Nn332, Hh332, Gg332⟩ := id F108
    have in332 : ¬ ((6 : Int32) < 0 ∨ cl332.slots.size ≤ ((6 : Int32)).toNatClampNeg) := by exact inb_of Sz332 ⟨by decide, by decide⟩
    have at332 : cl332.slots[((6 : Int32)).toNatClampNeg]? = some (.ref w6) := by
      refine Has.at Hh332 in332 ?_
      rfl
    obtain ⟨cq333, kq333, q333a, q333b, q333c⟩ := isOf hZ e108 (E_NAME.ext O109.2)
    obtain ⟨_, _, ⟨T333, L333, k333, n333⟩, -, X333, ⟨Lc333, hQ333, l333, y333, z333⟩, st333⟩ := X108.virtualBack hx (y := (⟨"com/example/pico_notify/piconotify/XPathExpr$Function", "takesNodeSets", "()Z"⟩ : MethodName)) (z := (⟨"com/example/pico_notify/piconotify/XPathExpr$Function", "takesNodeSets", "()Z"⟩ : MethodName)) hown (mvT hZ (own_w hw 59 rfl)) (mvT hZ (own_w hw 60 rfl)) (notFace_of_selects (args := #[]) (mvT hZ (own_w hw 62 rfl))) (mvT hZ (own_w hw 62 rfl)) (mvT hZ (own_w hw 61 rfl)) (by decide) (backOf (W := 0) (rm_takes l Z a0 hw [] w6 w2 w23 w4 w5 w6 h108 n0 O109 S_COUNT S_SUM S_LOCAL_NAME S_NAMESPACE_URI S_NAME) hZ (own_w hw 63 rfl) (own_w hw 3 rfl) (by decide) (by decide)) q333a q333c (g := (mkF m 236 #[.val (.int p1), .val (.ref b1), .val (.int (6 : Int32)), .val (.ref w6), .val (.int (1 : Int32)), .unset] [(.ref w6)])) rfl (by rw [hml]; rfl) (Steps.refl _) (argsL := []) (rest := []) (lenOf pd_0 rfl) rfl (by show 2 * 0 + _ ≤ _; exact Nat.le_of_eq rfl) (hb hby at_236) (fun _ _ => ⟨rfl, e108, (by decide : 1 + 0 ≤ _), (by decide : 27 + 0 ≤ _)⟩)
    dsimp only [Pt.U, Pt.locs, Pt.cells, Pt.slots] at X333 l333 y333 z333 st333 hQ333
    rw [l333, y333, z333] at X333
    rcases hQ333 with ⟨c334, rfl, N335, k336⟩ | ⟨c337, c338, rfl, N339, k340⟩ | ⟨c341, c342, c343, rfl, N344, k345⟩ | ⟨c346, c347, c348, c349, rfl, N350, k351⟩ | ⟨c352, c353, c354, c355, c356, rfl, N357, k358⟩ | ⟨c359, c360, c361, c362, c363, rfl, N364, k365⟩
    · exact absurd c334 ((Fld.ne Fo_NAME Fo_COUNT (by decide)) : ¬ (w6 = w2))
    · exact absurd c338 ((Fld.ne Fo_NAME Fo_SUM (by decide)) : ¬ (w6 = w23))
    · exact absurd c343 ((Fld.ne Fo_NAME Fo_LOCAL_NAME (by decide)) : ¬ (w6 = w4))
    · exact absurd c349 ((Fld.ne Fo_NAME Fo_NAMESPACE_URI (by decide)) : ¬ (w6 = w5))
    · have N366 := Fr.app N110 N357
      obtain ⟨T367, X367, e367, st367⟩ := getF X333 hx hZ hown (host := "") (Or.inl (own_w hw 69 rfl)) Via.refl k358 (Fm_NAME.ext O109.2) (g := (mkF m 254 #[.val (.int p1), .val (.ref b1), .val (.int (6 : Int32)), .val (.ref w6), .val (.int (1 : Int32)), .val (.int (1 : Int32))] [(.ref w6)])) rfl rfl (hb hby at_254)
      have S368 : ∀ t, Steps p.tables e below (T367.setTop (mkF m 266 #[.val (.int p1), .val (.ref b1), .val (.int (6 : Int32)), .val (.ref w6), .val (.int (1 : Int32)), .val (.int (1 : Int32))] [(.int (1 : Int32))])) t → Steps p.tables e below (s₁.setTop (mkF m 0 #[.val (.int p1), .unset, .unset, .unset, .unset, .unset] [])) t := by
        intro t kt
        refine S112 t ?_
        refine XS.istoreN X108.here hx rfl (hb hby at_196) rfl (l' := #[.val (.int p1), .val (.ref b1), .val (.int (6 : Int32)), .unset, .unset, .unset]) rfl ?_
        refine XS.aloadN X108.here hx rfl (hb hby at_197) rfl rfl ?_
        refine XS.iloadN X108.here hx rfl (hb hby at_198) rfl ?_
        show Steps p.tables e below (T108.setTop (mkF m 199 #[.val (.int p1), .val (.ref b1), .val (.int (6 : Int32)), .unset, .unset, .unset] [(.int (6 : Int32)), (.ref b1)])) _
        refine X108.aaload hx (j := (6 : Int32)) (v := (.ref w6)) (by rw [e108]; exact Ar332.1) (State.isArrayOf_alike hZ.alike Ar332.2.1) rfl Ar332.2.2 in332 at332 (g := (mkF m 199 #[.val (.int p1), .val (.ref b1), .val (.int (6 : Int32)), .unset, .unset, .unset] [(.int (6 : Int32)), (.ref b1)])) rfl rfl (hb hby at_199) _ ?_
        refine XS.astoreN X108.here hx rfl (hb hby at_200) rfl rfl (l' := #[.val (.int p1), .val (.ref b1), .val (.int (6 : Int32)), .val (.ref w6), .unset, .unset]) rfl ?_
        refine XS.iloadN X108.here hx rfl (hb hby at_201) rfl ?_
        refine XS.iconst X108.here hx rfl (hb hby at_202) ?_
        refine XS.icmpNo X108.here hx rfl (hb hby at_203) rfl (feq ((by decide) : ¬ ((6 : Int32) = (2 : Int32)))).1 ?_
        refine XS.iloadN X108.here hx rfl (hb hby at_206) rfl ?_
        show Steps p.tables e below (T108.setTop (mkF m 207 #[.val (.int p1), .val (.ref b1), .val (.int (6 : Int32)), .val (.ref w6), .unset, .unset] [(.int (6 : Int32))])) _
        refine XS.iconst X108.here hx rfl (hb hby at_207) ?_
        refine XS.icmpNo X108.here hx rfl (hb hby at_208) rfl (feq ((by decide) : ¬ ((6 : Int32) = (4 : Int32)))).1 ?_
        refine XS.iloadN X108.here hx rfl (hb hby at_211) rfl ?_
        refine XS.iconst X108.here hx rfl (hb hby at_212) ?_
        refine XS.icmpNo X108.here hx rfl (hb hby at_213) rfl (feq ((by decide) : ¬ ((6 : Int32) = (5 : Int32)))).1 ?_
        refine XS.iloadN X108.here hx rfl (hb hby at_216) rfl ?_
        show Steps p.tables e below (T108.setTop (mkF m 217 #[.val (.int p1), .val (.ref b1), .val (.int (6 : Int32)), .val (.ref w6), .unset, .unset] [(.int (6 : Int32))])) _
        refine XS.bipush X108.here hx rfl (hb hby at_217) ?_
        refine XS.icmpYes X108.here hx rfl (pc0 := 219) (pc' := 228) rfl (hb hby at_219) rfl (teq ((by decide) : (6 : Int32) = (6 : Int32))).1 (by decide) (by decide) ?_
        refine XS.iconst X108.here hx rfl (hb hby at_228) ?_
        refine XS.goto X108.here hx rfl (pc0 := 229) (pc' := 233) rfl (hb hby at_229) (by decide) (by decide) ?_
        refine XS.istore X108.here hx rfl (hb hby at_233) rfl (l' := #[.val (.int p1), .val (.ref b1), .val (.int (6 : Int32)), .val (.ref w6), .val (.int (1 : Int32)), .unset]) rfl ?_
        refine XS.aloadN X108.here hx rfl (hb hby at_235) rfl rfl ?_
        show Steps p.tables e below (T108.setTop (mkF m 236 #[.val (.int p1), .val (.ref b1), .val (.int (6 : Int32)), .val (.ref w6), .val (.int (1 : Int32)), .unset] [(.ref w6)])) _
        refine st333.trans ?_
        refine XS.istore X333.here hx rfl (hb hby at_239) rfl (l' := #[.val (.int p1), .val (.ref b1), .val (.int (6 : Int32)), .val (.ref w6), .val (.int (1 : Int32)), .val (.int (1 : Int32))]) rfl ?_
        refine XS.iload X333.here hx rfl (hb hby at_241) rfl ?_
        refine XS.iload X333.here hx rfl (hb hby at_243) rfl ?_
        refine XS.icmpNo X333.here hx rfl (hb hby at_245) rfl (teq ((by decide) : (1 : Int32) = (1 : Int32))).2 ?_
        refine XS.iload X333.here hx rfl (hb hby at_248) rfl ?_
        show Steps p.tables e below (T333.setTop (mkF m 250 #[.val (.int p1), .val (.ref b1), .val (.int (6 : Int32)), .val (.ref w6), .val (.int (1 : Int32)), .val (.int (1 : Int32))] [(.int (1 : Int32))])) _
        refine XS.ifNo X333.here hx rfl (hb hby at_250) rfl ((if0 _ _).trans (feq ((by decide) : ¬ ((1 : Int32) = (0 : Int32)))).1) ?_
        refine XS.aloadN X333.here hx rfl (hb hby at_253) rfl rfl ?_
        show Steps p.tables e below (T333.setTop (mkF m 254 #[.val (.int p1), .val (.ref b1), .val (.int (6 : Int32)), .val (.ref w6), .val (.int (1 : Int32)), .val (.int (1 : Int32))] [(.ref w6)])) _
        refine st367 _ ?_
        refine XS.iconst X367.here hx rfl (hb hby at_257) ?_
        refine XS.icmpNo X367.here hx rfl (hb hby at_258) rfl (teq ((by decide) : (1 : Int32) = (1 : Int32))).2 ?_
        refine XS.iconst X367.here hx rfl (hb hby at_261) ?_
        refine XS.goto X367.here hx rfl (pc0 := 262) (pc' := 266) rfl (hb hby at_262) (by decide) (by decide) ?_
        exact kt
      obtain ⟨fs, hr, hrun, hended, hW, hsame⟩ := X367.leave (v := some (.int (1 : Int32))) (fun h => by rw [Bd.returns] at h; cases h)
      refine ⟨_, _, pre0 _ (S368 _ ?_), hrun, hended, _, _, rfl, ?_, ⟨_, rfl⟩, hW, hsame.mono (by decide) (by decide)⟩
      · exact retN X367 hx (t := .boolean) Bd.returns (by simp) (hb hby at_266) hr
      · show Q_rm_law Z p1 w0 w1 w2 w3 w4 w5 w6 w7 w8 w9 w10 w11 w12 w13 w14 w15 w16 w17 w18 w19 w20 w21 w22 w23 w24 w25 w26 h0 n0 _ T367.heap _
        rw [e367]
        exact ⟨rfl, N366⟩
    · exact absurd (rfl : w6 = w6) c363
  · obtain ⟨cl369, Ar369, q369, Sz369, Nn369, Hh369, Gg369⟩ := id F108
    have in369 : ¬ ((7 : Int32) < 0 ∨ cl369.slots.size ≤ ((7 : Int32)).toNatClampNeg) := by exact inb_of Sz369 ⟨by decide, by decide⟩
    have at369 : cl369.slots[((7 : Int32)).toNatClampNeg]? = some (.ref w7) := by
      refine Has.at Hh369 in369 ?_
      rfl
    obtain ⟨cq370, kq370, q370a, q370b, q370c⟩ := isOf hZ e108 (E_STRING.ext O109.2)
    obtain ⟨_, _, ⟨T370, L370, k370, n370⟩, -, X370, ⟨Lc370, hQ370, l370, y370, z370⟩, st370⟩ := X108.virtualBack hx (y := (⟨"com/example/pico_notify/piconotify/XPathExpr$Function", "takesNodeSets", "()Z"⟩ : MethodName)) (z := (⟨"com/example/pico_notify/piconotify/XPathExpr$Function", "takesNodeSets", "()Z"⟩ : MethodName)) hown (mvT hZ (own_w hw 59 rfl)) (mvT hZ (own_w hw 60 rfl)) (notFace_of_selects (args := #[]) (mvT hZ (own_w hw 62 rfl))) (mvT hZ (own_w hw 62 rfl)) (mvT hZ (own_w hw 61 rfl)) (by decide) (backOf (W := 0) (rm_takes l Z a0 hw [] w7 w2 w23 w4 w5 w6 h108 n0 O109 S_COUNT S_SUM S_LOCAL_NAME S_NAMESPACE_URI S_NAME) hZ (own_w hw 63 rfl) (own_w hw 3 rfl) (by decide) (by decide)) q370a q370c (g := (mkF m 236 #[.val (.int p1), .val (.ref b1), .val (.int (7 : Int32)), .val (.ref w7), .val (.int (0 : Int32)), .unset] [(.ref w7)])) rfl (by rw [hml]; rfl) (Steps.refl _) (argsL := []) (rest := []) (lenOf pd_0 rfl) rfl (by show 2 * 0 + _ ≤ _; exact Nat.le_of_eq rfl) (hb hby at_236) (fun _ _ => ⟨rfl, e108, (by decide : 1 + 0 ≤ _), (by decide : 27 + 0 ≤ _)⟩)
    dsimp only [Pt.U, Pt.locs, Pt.cells, Pt.slots] at X370 l370 y370 z370 st370 hQ370
    rw [l370, y370, z370] at X370
    rcases hQ370 with ⟨c371, rfl, N372, k373⟩ | ⟨c374, c375, rfl, N376, k377⟩ | ⟨c378, c379, c380, rfl, N381, k382⟩ | ⟨c383, c384, c385, c386, rfl, N387, k388⟩ | ⟨c389, c390, c391, c392, c393, rfl, N394, k395⟩ | ⟨c396, c397, c398, c399, c400, rfl, N401, k402⟩
    · exact absurd c371 ((Fld.ne Fo_STRING Fo_COUNT (by decide)) : ¬ (w7 = w2))
    · exact absurd c375 ((Fld.ne Fo_STRING Fo_SUM (by decide)) : ¬ (w7 = w23))
    · exact absurd c380 ((Fld.ne Fo_STRING Fo_LOCAL_NAME (by decide)) : ¬ (w7 = w4))
    · exact absurd c386 ((Fld.ne Fo_STRING Fo_NAMESPACE_URI (by decide)) : ¬ (w7 = w5))
    · exact absurd c393 ((Fld.ne Fo_STRING Fo_NAME (by decide)) : ¬ (w7 = w6))
    · have N403 := Fr.app N110 N401
      have S404 : ∀ t, Steps p.tables e below (T370.setTop (mkF m 266 #[.val (.int p1), .val (.ref b1), .val (.int (7 : Int32)), .val (.ref w7), .val (.int (0 : Int32)), .val (.int (0 : Int32))] [(.int (1 : Int32))])) t → Steps p.tables e below (s₁.setTop (mkF m 0 #[.val (.int p1), .unset, .unset, .unset, .unset, .unset] [])) t := by
        intro t kt
        refine S112 t ?_
        refine XS.istoreN X108.here hx rfl (hb hby at_196) rfl (l' := #[.val (.int p1), .val (.ref b1), .val (.int (7 : Int32)), .unset, .unset, .unset]) rfl ?_
        refine XS.aloadN X108.here hx rfl (hb hby at_197) rfl rfl ?_
        refine XS.iloadN X108.here hx rfl (hb hby at_198) rfl ?_
        show Steps p.tables e below (T108.setTop (mkF m 199 #[.val (.int p1), .val (.ref b1), .val (.int (7 : Int32)), .unset, .unset, .unset] [(.int (7 : Int32)), (.ref b1)])) _
        refine X108.aaload hx (j := (7 : Int32)) (v := (.ref w7)) (by rw [e108]; exact Ar369.1) (State.isArrayOf_alike hZ.alike Ar369.2.1) rfl Ar369.2.2 in369 at369 (g := (mkF m 199 #[.val (.int p1), .val (.ref b1), .val (.int (7 : Int32)), .unset, .unset, .unset] [(.int (7 : Int32)), (.ref b1)])) rfl rfl (hb hby at_199) _ ?_
        refine XS.astoreN X108.here hx rfl (hb hby at_200) rfl rfl (l' := #[.val (.int p1), .val (.ref b1), .val (.int (7 : Int32)), .val (.ref w7), .unset, .unset]) rfl ?_
        refine XS.iloadN X108.here hx rfl (hb hby at_201) rfl ?_
        refine XS.iconst X108.here hx rfl (hb hby at_202) ?_
        refine XS.icmpNo X108.here hx rfl (hb hby at_203) rfl (feq ((by decide) : ¬ ((7 : Int32) = (2 : Int32)))).1 ?_
        refine XS.iloadN X108.here hx rfl (hb hby at_206) rfl ?_
        show Steps p.tables e below (T108.setTop (mkF m 207 #[.val (.int p1), .val (.ref b1), .val (.int (7 : Int32)), .val (.ref w7), .unset, .unset] [(.int (7 : Int32))])) _
        refine XS.iconst X108.here hx rfl (hb hby at_207) ?_
        refine XS.icmpNo X108.here hx rfl (hb hby at_208) rfl (feq ((by decide) : ¬ ((7 : Int32) = (4 : Int32)))).1 ?_
        refine XS.iloadN X108.here hx rfl (hb hby at_211) rfl ?_
        refine XS.iconst X108.here hx rfl (hb hby at_212) ?_
        refine XS.icmpNo X108.here hx rfl (hb hby at_213) rfl (feq ((by decide) : ¬ ((7 : Int32) = (5 : Int32)))).1 ?_
        refine XS.iloadN X108.here hx rfl (hb hby at_216) rfl ?_
        show Steps p.tables e below (T108.setTop (mkF m 217 #[.val (.int p1), .val (.ref b1), .val (.int (7 : Int32)), .val (.ref w7), .unset, .unset] [(.int (7 : Int32))])) _
        refine XS.bipush X108.here hx rfl (hb hby at_217) ?_
        refine XS.icmpNo X108.here hx rfl (hb hby at_219) rfl (feq ((by decide) : ¬ ((7 : Int32) = (6 : Int32)))).1 ?_
        refine XS.iloadN X108.here hx rfl (hb hby at_222) rfl ?_
        refine XS.bipush X108.here hx rfl (hb hby at_223) ?_
        refine XS.icmpYes X108.here hx rfl (pc0 := 225) (pc' := 232) rfl (hb hby at_225) rfl (feq ((by decide) : ¬ ((7 : Int32) = (23 : Int32)))).2 (by decide) (by decide) ?_
        refine XS.iconst X108.here hx rfl (hb hby at_232) ?_
        show Steps p.tables e below (T108.setTop (mkF m 233 #[.val (.int p1), .val (.ref b1), .val (.int (7 : Int32)), .val (.ref w7), .unset, .unset] [(.int (0 : Int32))])) _
        refine XS.istore X108.here hx rfl (hb hby at_233) rfl (l' := #[.val (.int p1), .val (.ref b1), .val (.int (7 : Int32)), .val (.ref w7), .val (.int (0 : Int32)), .unset]) rfl ?_
        refine XS.aloadN X108.here hx rfl (hb hby at_235) rfl rfl ?_
        show Steps p.tables e below (T108.setTop (mkF m 236 #[.val (.int p1), .val (.ref b1), .val (.int (7 : Int32)), .val (.ref w7), .val (.int (0 : Int32)), .unset] [(.ref w7)])) _
        refine st370.trans ?_
        refine XS.istore X370.here hx rfl (hb hby at_239) rfl (l' := #[.val (.int p1), .val (.ref b1), .val (.int (7 : Int32)), .val (.ref w7), .val (.int (0 : Int32)), .val (.int (0 : Int32))]) rfl ?_
        refine XS.iload X370.here hx rfl (hb hby at_241) rfl ?_
        refine XS.iload X370.here hx rfl (hb hby at_243) rfl ?_
        refine XS.icmpNo X370.here hx rfl (hb hby at_245) rfl (teq ((by decide) : (0 : Int32) = (0 : Int32))).2 ?_
        refine XS.iload X370.here hx rfl (hb hby at_248) rfl ?_
        show Steps p.tables e below (T370.setTop (mkF m 250 #[.val (.int p1), .val (.ref b1), .val (.int (7 : Int32)), .val (.ref w7), .val (.int (0 : Int32)), .val (.int (0 : Int32))] [(.int (0 : Int32))])) _
        refine XS.ifYes X370.here hx rfl (pc0 := 250) (pc' := 261) rfl (hb hby at_250) rfl ((if0 _ _).trans (teq ((by decide) : (0 : Int32) = (0 : Int32))).1) (by decide) (by decide) ?_
        refine XS.iconst X370.here hx rfl (hb hby at_261) ?_
        refine XS.goto X370.here hx rfl (pc0 := 262) (pc' := 266) rfl (hb hby at_262) (by decide) (by decide) ?_
        exact kt
      obtain ⟨fs, hr, hrun, hended, hW, hsame⟩ := X370.leave (v := some (.int (1 : Int32))) (fun h => by rw [Bd.returns] at h; cases h)
      refine ⟨_, _, pre0 _ (S404 _ ?_), hrun, hended, _, _, rfl, ?_, ⟨_, rfl⟩, hW, hsame.mono (by decide) (by decide)⟩
      · exact retN X370 hx (t := .boolean) Bd.returns (by simp) (hb hby at_266) hr
      · show Q_rm_law Z p1 w0 w1 w2 w3 w4 w5 w6 w7 w8 w9 w10 w11 w12 w13 w14 w15 w16 w17 w18 w19 w20 w21 w22 w23 w24 w25 w26 h0 n0 _ T370.heap _
        rw [k402]
        exact ⟨rfl, N403⟩
  · obtain ⟨cl405, Ar405, q405, Sz405, Nn405, Hh405, Gg405⟩ := id F108
    have in405 : ¬ ((8 : Int32) < 0 ∨ cl405.slots.size ≤ ((8 : Int32)).toNatClampNeg) := by exact inb_of Sz405 ⟨by decide, by decide⟩
    have at405 : cl405.slots[((8 : Int32)).toNatClampNeg]? = some (.ref w8) := by
      refine Has.at Hh405 in405 ?_
      rfl
    obtain ⟨cq406, kq406, q406a, q406b, q406c⟩ := isOf hZ e108 (E_CONCAT.ext O109.2)
    obtain ⟨_, _, ⟨T406, L406, k406, n406⟩, -, X406, ⟨Lc406, hQ406, l406, y406, z406⟩, st406⟩ := X108.virtualBack hx (y := (⟨"com/example/pico_notify/piconotify/XPathExpr$Function", "takesNodeSets", "()Z"⟩ : MethodName)) (z := (⟨"com/example/pico_notify/piconotify/XPathExpr$Function", "takesNodeSets", "()Z"⟩ : MethodName)) hown (mvT hZ (own_w hw 59 rfl)) (mvT hZ (own_w hw 60 rfl)) (notFace_of_selects (args := #[]) (mvT hZ (own_w hw 62 rfl))) (mvT hZ (own_w hw 62 rfl)) (mvT hZ (own_w hw 61 rfl)) (by decide) (backOf (W := 0) (rm_takes l Z a0 hw [] w8 w2 w23 w4 w5 w6 h108 n0 O109 S_COUNT S_SUM S_LOCAL_NAME S_NAMESPACE_URI S_NAME) hZ (own_w hw 63 rfl) (own_w hw 3 rfl) (by decide) (by decide)) q406a q406c (g := (mkF m 236 #[.val (.int p1), .val (.ref b1), .val (.int (8 : Int32)), .val (.ref w8), .val (.int (0 : Int32)), .unset] [(.ref w8)])) rfl (by rw [hml]; rfl) (Steps.refl _) (argsL := []) (rest := []) (lenOf pd_0 rfl) rfl (by show 2 * 0 + _ ≤ _; exact Nat.le_of_eq rfl) (hb hby at_236) (fun _ _ => ⟨rfl, e108, (by decide : 1 + 0 ≤ _), (by decide : 27 + 0 ≤ _)⟩)
    dsimp only [Pt.U, Pt.locs, Pt.cells, Pt.slots] at X406 l406 y406 z406 st406 hQ406
    rw [l406, y406, z406] at X406
    rcases hQ406 with ⟨c407, rfl, N408, k409⟩ | ⟨c410, c411, rfl, N412, k413⟩ | ⟨c414, c415, c416, rfl, N417, k418⟩ | ⟨c419, c420, c421, c422, rfl, N423, k424⟩ | ⟨c425, c426, c427, c428, c429, rfl, N430, k431⟩ | ⟨c432, c433, c434, c435, c436, rfl, N437, k438⟩
    · exact absurd c407 ((Fld.ne Fo_CONCAT Fo_COUNT (by decide)) : ¬ (w8 = w2))
    · exact absurd c411 ((Fld.ne Fo_CONCAT Fo_SUM (by decide)) : ¬ (w8 = w23))
    · exact absurd c416 ((Fld.ne Fo_CONCAT Fo_LOCAL_NAME (by decide)) : ¬ (w8 = w4))
    · exact absurd c422 ((Fld.ne Fo_CONCAT Fo_NAMESPACE_URI (by decide)) : ¬ (w8 = w5))
    · exact absurd c429 ((Fld.ne Fo_CONCAT Fo_NAME (by decide)) : ¬ (w8 = w6))
    · have N439 := Fr.app N110 N437
      have S440 : ∀ t, Steps p.tables e below (T406.setTop (mkF m 266 #[.val (.int p1), .val (.ref b1), .val (.int (8 : Int32)), .val (.ref w8), .val (.int (0 : Int32)), .val (.int (0 : Int32))] [(.int (1 : Int32))])) t → Steps p.tables e below (s₁.setTop (mkF m 0 #[.val (.int p1), .unset, .unset, .unset, .unset, .unset] [])) t := by
        intro t kt
        refine S112 t ?_
        refine XS.istoreN X108.here hx rfl (hb hby at_196) rfl (l' := #[.val (.int p1), .val (.ref b1), .val (.int (8 : Int32)), .unset, .unset, .unset]) rfl ?_
        refine XS.aloadN X108.here hx rfl (hb hby at_197) rfl rfl ?_
        refine XS.iloadN X108.here hx rfl (hb hby at_198) rfl ?_
        show Steps p.tables e below (T108.setTop (mkF m 199 #[.val (.int p1), .val (.ref b1), .val (.int (8 : Int32)), .unset, .unset, .unset] [(.int (8 : Int32)), (.ref b1)])) _
        refine X108.aaload hx (j := (8 : Int32)) (v := (.ref w8)) (by rw [e108]; exact Ar405.1) (State.isArrayOf_alike hZ.alike Ar405.2.1) rfl Ar405.2.2 in405 at405 (g := (mkF m 199 #[.val (.int p1), .val (.ref b1), .val (.int (8 : Int32)), .unset, .unset, .unset] [(.int (8 : Int32)), (.ref b1)])) rfl rfl (hb hby at_199) _ ?_
        refine XS.astoreN X108.here hx rfl (hb hby at_200) rfl rfl (l' := #[.val (.int p1), .val (.ref b1), .val (.int (8 : Int32)), .val (.ref w8), .unset, .unset]) rfl ?_
        refine XS.iloadN X108.here hx rfl (hb hby at_201) rfl ?_
        refine XS.iconst X108.here hx rfl (hb hby at_202) ?_
        refine XS.icmpNo X108.here hx rfl (hb hby at_203) rfl (feq ((by decide) : ¬ ((8 : Int32) = (2 : Int32)))).1 ?_
        refine XS.iloadN X108.here hx rfl (hb hby at_206) rfl ?_
        show Steps p.tables e below (T108.setTop (mkF m 207 #[.val (.int p1), .val (.ref b1), .val (.int (8 : Int32)), .val (.ref w8), .unset, .unset] [(.int (8 : Int32))])) _
        refine XS.iconst X108.here hx rfl (hb hby at_207) ?_
        refine XS.icmpNo X108.here hx rfl (hb hby at_208) rfl (feq ((by decide) : ¬ ((8 : Int32) = (4 : Int32)))).1 ?_
        refine XS.iloadN X108.here hx rfl (hb hby at_211) rfl ?_
        refine XS.iconst X108.here hx rfl (hb hby at_212) ?_
        refine XS.icmpNo X108.here hx rfl (hb hby at_213) rfl (feq ((by decide) : ¬ ((8 : Int32) = (5 : Int32)))).1 ?_
        refine XS.iloadN X108.here hx rfl (hb hby at_216) rfl ?_
        show Steps p.tables e below (T108.setTop (mkF m 217 #[.val (.int p1), .val (.ref b1), .val (.int (8 : Int32)), .val (.ref w8), .unset, .unset] [(.int (8 : Int32))])) _
        refine XS.bipush X108.here hx rfl (hb hby at_217) ?_
        refine XS.icmpNo X108.here hx rfl (hb hby at_219) rfl (feq ((by decide) : ¬ ((8 : Int32) = (6 : Int32)))).1 ?_
        refine XS.iloadN X108.here hx rfl (hb hby at_222) rfl ?_
        refine XS.bipush X108.here hx rfl (hb hby at_223) ?_
        refine XS.icmpYes X108.here hx rfl (pc0 := 225) (pc' := 232) rfl (hb hby at_225) rfl (feq ((by decide) : ¬ ((8 : Int32) = (23 : Int32)))).2 (by decide) (by decide) ?_
        refine XS.iconst X108.here hx rfl (hb hby at_232) ?_
        show Steps p.tables e below (T108.setTop (mkF m 233 #[.val (.int p1), .val (.ref b1), .val (.int (8 : Int32)), .val (.ref w8), .unset, .unset] [(.int (0 : Int32))])) _
        refine XS.istore X108.here hx rfl (hb hby at_233) rfl (l' := #[.val (.int p1), .val (.ref b1), .val (.int (8 : Int32)), .val (.ref w8), .val (.int (0 : Int32)), .unset]) rfl ?_
        refine XS.aloadN X108.here hx rfl (hb hby at_235) rfl rfl ?_
        show Steps p.tables e below (T108.setTop (mkF m 236 #[.val (.int p1), .val (.ref b1), .val (.int (8 : Int32)), .val (.ref w8), .val (.int (0 : Int32)), .unset] [(.ref w8)])) _
        refine st406.trans ?_
        refine XS.istore X406.here hx rfl (hb hby at_239) rfl (l' := #[.val (.int p1), .val (.ref b1), .val (.int (8 : Int32)), .val (.ref w8), .val (.int (0 : Int32)), .val (.int (0 : Int32))]) rfl ?_
        refine XS.iload X406.here hx rfl (hb hby at_241) rfl ?_
        refine XS.iload X406.here hx rfl (hb hby at_243) rfl ?_
        refine XS.icmpNo X406.here hx rfl (hb hby at_245) rfl (teq ((by decide) : (0 : Int32) = (0 : Int32))).2 ?_
        refine XS.iload X406.here hx rfl (hb hby at_248) rfl ?_
        show Steps p.tables e below (T406.setTop (mkF m 250 #[.val (.int p1), .val (.ref b1), .val (.int (8 : Int32)), .val (.ref w8), .val (.int (0 : Int32)), .val (.int (0 : Int32))] [(.int (0 : Int32))])) _
        refine XS.ifYes X406.here hx rfl (pc0 := 250) (pc' := 261) rfl (hb hby at_250) rfl ((if0 _ _).trans (teq ((by decide) : (0 : Int32) = (0 : Int32))).1) (by decide) (by decide) ?_
        refine XS.iconst X406.here hx rfl (hb hby at_261) ?_
        refine XS.goto X406.here hx rfl (pc0 := 262) (pc' := 266) rfl (hb hby at_262) (by decide) (by decide) ?_
        exact kt
      obtain ⟨fs, hr, hrun, hended, hW, hsame⟩ := X406.leave (v := some (.int (1 : Int32))) (fun h => by rw [Bd.returns] at h; cases h)
      refine ⟨_, _, pre0 _ (S440 _ ?_), hrun, hended, _, _, rfl, ?_, ⟨_, rfl⟩, hW, hsame.mono (by decide) (by decide)⟩
      · exact retN X406 hx (t := .boolean) Bd.returns (by simp) (hb hby at_266) hr
      · show Q_rm_law Z p1 w0 w1 w2 w3 w4 w5 w6 w7 w8 w9 w10 w11 w12 w13 w14 w15 w16 w17 w18 w19 w20 w21 w22 w23 w24 w25 w26 h0 n0 _ T406.heap _
        rw [k438]
        exact ⟨rfl, N439⟩
  · obtain ⟨cl441, Ar441, q441, Sz441, Nn441, Hh441, Gg441⟩ := id F108
    have in441 : ¬ ((9 : Int32) < 0 ∨ cl441.slots.size ≤ ((9 : Int32)).toNatClampNeg) := by exact inb_of Sz441 ⟨by decide, by decide⟩
    have at441 : cl441.slots[((9 : Int32)).toNatClampNeg]? = some (.ref w9) := by
      refine Has.at Hh441 in441 ?_
      rfl
    obtain ⟨cq442, kq442, q442a, q442b, q442c⟩ := isOf hZ e108 (E_STARTS_WITH.ext O109.2)
    obtain ⟨_, _, ⟨T442, L442, k442, n442⟩, -, X442, ⟨Lc442, hQ442, l442, y442, z442⟩, st442⟩ := X108.virtualBack hx (y := (⟨"com/example/pico_notify/piconotify/XPathExpr$Function", "takesNodeSets", "()Z"⟩ : MethodName)) (z := (⟨"com/example/pico_notify/piconotify/XPathExpr$Function", "takesNodeSets", "()Z"⟩ : MethodName)) hown (mvT hZ (own_w hw 59 rfl)) (mvT hZ (own_w hw 60 rfl)) (notFace_of_selects (args := #[]) (mvT hZ (own_w hw 62 rfl))) (mvT hZ (own_w hw 62 rfl)) (mvT hZ (own_w hw 61 rfl)) (by decide) (backOf (W := 0) (rm_takes l Z a0 hw [] w9 w2 w23 w4 w5 w6 h108 n0 O109 S_COUNT S_SUM S_LOCAL_NAME S_NAMESPACE_URI S_NAME) hZ (own_w hw 63 rfl) (own_w hw 3 rfl) (by decide) (by decide)) q442a q442c (g := (mkF m 236 #[.val (.int p1), .val (.ref b1), .val (.int (9 : Int32)), .val (.ref w9), .val (.int (0 : Int32)), .unset] [(.ref w9)])) rfl (by rw [hml]; rfl) (Steps.refl _) (argsL := []) (rest := []) (lenOf pd_0 rfl) rfl (by show 2 * 0 + _ ≤ _; exact Nat.le_of_eq rfl) (hb hby at_236) (fun _ _ => ⟨rfl, e108, (by decide : 1 + 0 ≤ _), (by decide : 27 + 0 ≤ _)⟩)
    dsimp only [Pt.U, Pt.locs, Pt.cells, Pt.slots] at X442 l442 y442 z442 st442 hQ442
    rw [l442, y442, z442] at X442
    rcases hQ442 with ⟨c443, rfl, N444, k445⟩ | ⟨c446, c447, rfl, N448, k449⟩ | ⟨c450, c451, c452, rfl, N453, k454⟩ | ⟨c455, c456, c457, c458, rfl, N459, k460⟩ | ⟨c461, c462, c463, c464, c465, rfl, N466, k467⟩ | ⟨c468, c469, c470, c471, c472, rfl, N473, k474⟩
    · exact absurd c443 ((Fld.ne Fo_STARTS_WITH Fo_COUNT (by decide)) : ¬ (w9 = w2))
    · exact absurd c447 ((Fld.ne Fo_STARTS_WITH Fo_SUM (by decide)) : ¬ (w9 = w23))
    · exact absurd c452 ((Fld.ne Fo_STARTS_WITH Fo_LOCAL_NAME (by decide)) : ¬ (w9 = w4))
    · exact absurd c458 ((Fld.ne Fo_STARTS_WITH Fo_NAMESPACE_URI (by decide)) : ¬ (w9 = w5))
    · exact absurd c465 ((Fld.ne Fo_STARTS_WITH Fo_NAME (by decide)) : ¬ (w9 = w6))
    · have N475 := Fr.app N110 N473
      have S476 : ∀ t, Steps p.tables e below (T442.setTop (mkF m 266 #[.val (.int p1), .val (.ref b1), .val (.int (9 : Int32)), .val (.ref w9), .val (.int (0 : Int32)), .val (.int (0 : Int32))] [(.int (1 : Int32))])) t → Steps p.tables e below (s₁.setTop (mkF m 0 #[.val (.int p1), .unset, .unset, .unset, .unset, .unset] [])) t := by
        intro t kt
        refine S112 t ?_
        refine XS.istoreN X108.here hx rfl (hb hby at_196) rfl (l' := #[.val (.int p1), .val (.ref b1), .val (.int (9 : Int32)), .unset, .unset, .unset]) rfl ?_
        refine XS.aloadN X108.here hx rfl (hb hby at_197) rfl rfl ?_
        refine XS.iloadN X108.here hx rfl (hb hby at_198) rfl ?_
        show Steps p.tables e below (T108.setTop (mkF m 199 #[.val (.int p1), .val (.ref b1), .val (.int (9 : Int32)), .unset, .unset, .unset] [(.int (9 : Int32)), (.ref b1)])) _
        refine X108.aaload hx (j := (9 : Int32)) (v := (.ref w9)) (by rw [e108]; exact Ar441.1) (State.isArrayOf_alike hZ.alike Ar441.2.1) rfl Ar441.2.2 in441 at441 (g := (mkF m 199 #[.val (.int p1), .val (.ref b1), .val (.int (9 : Int32)), .unset, .unset, .unset] [(.int (9 : Int32)), (.ref b1)])) rfl rfl (hb hby at_199) _ ?_
        refine XS.astoreN X108.here hx rfl (hb hby at_200) rfl rfl (l' := #[.val (.int p1), .val (.ref b1), .val (.int (9 : Int32)), .val (.ref w9), .unset, .unset]) rfl ?_
        refine XS.iloadN X108.here hx rfl (hb hby at_201) rfl ?_
        refine XS.iconst X108.here hx rfl (hb hby at_202) ?_
        refine XS.icmpNo X108.here hx rfl (hb hby at_203) rfl (feq ((by decide) : ¬ ((9 : Int32) = (2 : Int32)))).1 ?_
        refine XS.iloadN X108.here hx rfl (hb hby at_206) rfl ?_
        show Steps p.tables e below (T108.setTop (mkF m 207 #[.val (.int p1), .val (.ref b1), .val (.int (9 : Int32)), .val (.ref w9), .unset, .unset] [(.int (9 : Int32))])) _
        refine XS.iconst X108.here hx rfl (hb hby at_207) ?_
        refine XS.icmpNo X108.here hx rfl (hb hby at_208) rfl (feq ((by decide) : ¬ ((9 : Int32) = (4 : Int32)))).1 ?_
        refine XS.iloadN X108.here hx rfl (hb hby at_211) rfl ?_
        refine XS.iconst X108.here hx rfl (hb hby at_212) ?_
        refine XS.icmpNo X108.here hx rfl (hb hby at_213) rfl (feq ((by decide) : ¬ ((9 : Int32) = (5 : Int32)))).1 ?_
        refine XS.iloadN X108.here hx rfl (hb hby at_216) rfl ?_
        show Steps p.tables e below (T108.setTop (mkF m 217 #[.val (.int p1), .val (.ref b1), .val (.int (9 : Int32)), .val (.ref w9), .unset, .unset] [(.int (9 : Int32))])) _
        refine XS.bipush X108.here hx rfl (hb hby at_217) ?_
        refine XS.icmpNo X108.here hx rfl (hb hby at_219) rfl (feq ((by decide) : ¬ ((9 : Int32) = (6 : Int32)))).1 ?_
        refine XS.iloadN X108.here hx rfl (hb hby at_222) rfl ?_
        refine XS.bipush X108.here hx rfl (hb hby at_223) ?_
        refine XS.icmpYes X108.here hx rfl (pc0 := 225) (pc' := 232) rfl (hb hby at_225) rfl (feq ((by decide) : ¬ ((9 : Int32) = (23 : Int32)))).2 (by decide) (by decide) ?_
        refine XS.iconst X108.here hx rfl (hb hby at_232) ?_
        show Steps p.tables e below (T108.setTop (mkF m 233 #[.val (.int p1), .val (.ref b1), .val (.int (9 : Int32)), .val (.ref w9), .unset, .unset] [(.int (0 : Int32))])) _
        refine XS.istore X108.here hx rfl (hb hby at_233) rfl (l' := #[.val (.int p1), .val (.ref b1), .val (.int (9 : Int32)), .val (.ref w9), .val (.int (0 : Int32)), .unset]) rfl ?_
        refine XS.aloadN X108.here hx rfl (hb hby at_235) rfl rfl ?_
        show Steps p.tables e below (T108.setTop (mkF m 236 #[.val (.int p1), .val (.ref b1), .val (.int (9 : Int32)), .val (.ref w9), .val (.int (0 : Int32)), .unset] [(.ref w9)])) _
        refine st442.trans ?_
        refine XS.istore X442.here hx rfl (hb hby at_239) rfl (l' := #[.val (.int p1), .val (.ref b1), .val (.int (9 : Int32)), .val (.ref w9), .val (.int (0 : Int32)), .val (.int (0 : Int32))]) rfl ?_
        refine XS.iload X442.here hx rfl (hb hby at_241) rfl ?_
        refine XS.iload X442.here hx rfl (hb hby at_243) rfl ?_
        refine XS.icmpNo X442.here hx rfl (hb hby at_245) rfl (teq ((by decide) : (0 : Int32) = (0 : Int32))).2 ?_
        refine XS.iload X442.here hx rfl (hb hby at_248) rfl ?_
        show Steps p.tables e below (T442.setTop (mkF m 250 #[.val (.int p1), .val (.ref b1), .val (.int (9 : Int32)), .val (.ref w9), .val (.int (0 : Int32)), .val (.int (0 : Int32))] [(.int (0 : Int32))])) _
        refine XS.ifYes X442.here hx rfl (pc0 := 250) (pc' := 261) rfl (hb hby at_250) rfl ((if0 _ _).trans (teq ((by decide) : (0 : Int32) = (0 : Int32))).1) (by decide) (by decide) ?_
        refine XS.iconst X442.here hx rfl (hb hby at_261) ?_
        refine XS.goto X442.here hx rfl (pc0 := 262) (pc' := 266) rfl (hb hby at_262) (by decide) (by decide) ?_
        exact kt
      obtain ⟨fs, hr, hrun, hended, hW, hsame⟩ := X442.leave (v := some (.int (1 : Int32))) (fun h => by rw [Bd.returns] at h; cases h)
      refine ⟨_, _, pre0 _ (S476 _ ?_), hrun, hended, _, _, rfl, ?_, ⟨_, rfl⟩, hW, hsame.mono (by decide) (by decide)⟩
      · exact retN X442 hx (t := .boolean) Bd.returns (by simp) (hb hby at_266) hr
      · show Q_rm_law Z p1 w0 w1 w2 w3 w4 w5 w6 w7 w8 w9 w10 w11 w12 w13 w14 w15 w16 w17 w18 w19 w20 w21 w22 w23 w24 w25 w26 h0 n0 _ T442.heap _
        rw [k474]
        exact ⟨rfl, N475⟩
  · obtain ⟨cl477, Ar477, q477, Sz477, Nn477, Hh477, Gg477⟩ := id F108
    have in477 : ¬ ((10 : Int32) < 0 ∨ cl477.slots.size ≤ ((10 : Int32)).toNatClampNeg) := by exact inb_of Sz477 ⟨by decide, by decide⟩
    have at477 : cl477.slots[((10 : Int32)).toNatClampNeg]? = some (.ref w10) := by
      refine Has.at Hh477 in477 ?_
      rfl
    obtain ⟨cq478, kq478, q478a, q478b, q478c⟩ := isOf hZ e108 (E_CONTAINS.ext O109.2)
    obtain ⟨_, _, ⟨T478, L478, k478, n478⟩, -, X478, ⟨Lc478, hQ478, l478, y478, z478⟩, st478⟩ := X108.virtualBack hx (y := (⟨"com/example/pico_notify/piconotify/XPathExpr$Function", "takesNodeSets", "()Z"⟩ : MethodName)) (z := (⟨"com/example/pico_notify/piconotify/XPathExpr$Function", "takesNodeSets", "()Z"⟩ : MethodName)) hown (mvT hZ (own_w hw 59 rfl)) (mvT hZ (own_w hw 60 rfl)) (notFace_of_selects (args := #[]) (mvT hZ (own_w hw 62 rfl))) (mvT hZ (own_w hw 62 rfl)) (mvT hZ (own_w hw 61 rfl)) (by decide) (backOf (W := 0) (rm_takes l Z a0 hw [] w10 w2 w23 w4 w5 w6 h108 n0 O109 S_COUNT S_SUM S_LOCAL_NAME S_NAMESPACE_URI S_NAME) hZ (own_w hw 63 rfl) (own_w hw 3 rfl) (by decide) (by decide)) q478a q478c (g := (mkF m 236 #[.val (.int p1), .val (.ref b1), .val (.int (10 : Int32)), .val (.ref w10), .val (.int (0 : Int32)), .unset] [(.ref w10)])) rfl (by rw [hml]; rfl) (Steps.refl _) (argsL := []) (rest := []) (lenOf pd_0 rfl) rfl (by show 2 * 0 + _ ≤ _; exact Nat.le_of_eq rfl) (hb hby at_236) (fun _ _ => ⟨rfl, e108, (by decide : 1 + 0 ≤ _), (by decide : 27 + 0 ≤ _)⟩)
    dsimp only [Pt.U, Pt.locs, Pt.cells, Pt.slots] at X478 l478 y478 z478 st478 hQ478
    rw [l478, y478, z478] at X478
    rcases hQ478 with ⟨c479, rfl, N480, k481⟩ | ⟨c482, c483, rfl, N484, k485⟩ | ⟨c486, c487, c488, rfl, N489, k490⟩ | ⟨c491, c492, c493, c494, rfl, N495, k496⟩ | ⟨c497, c498, c499, c500, c501, rfl, N502, k503⟩ | ⟨c504, c505, c506, c507, c508, rfl, N509, k510⟩
    · exact absurd c479 ((Fld.ne Fo_CONTAINS Fo_COUNT (by decide)) : ¬ (w10 = w2))
    · exact absurd c483 ((Fld.ne Fo_CONTAINS Fo_SUM (by decide)) : ¬ (w10 = w23))
    · exact absurd c488 ((Fld.ne Fo_CONTAINS Fo_LOCAL_NAME (by decide)) : ¬ (w10 = w4))
    · exact absurd c494 ((Fld.ne Fo_CONTAINS Fo_NAMESPACE_URI (by decide)) : ¬ (w10 = w5))
    · exact absurd c501 ((Fld.ne Fo_CONTAINS Fo_NAME (by decide)) : ¬ (w10 = w6))
    · have N511 := Fr.app N110 N509
      have S512 : ∀ t, Steps p.tables e below (T478.setTop (mkF m 266 #[.val (.int p1), .val (.ref b1), .val (.int (10 : Int32)), .val (.ref w10), .val (.int (0 : Int32)), .val (.int (0 : Int32))] [(.int (1 : Int32))])) t → Steps p.tables e below (s₁.setTop (mkF m 0 #[.val (.int p1), .unset, .unset, .unset, .unset, .unset] [])) t := by
        intro t kt
        refine S112 t ?_
        refine XS.istoreN X108.here hx rfl (hb hby at_196) rfl (l' := #[.val (.int p1), .val (.ref b1), .val (.int (10 : Int32)), .unset, .unset, .unset]) rfl ?_
        refine XS.aloadN X108.here hx rfl (hb hby at_197) rfl rfl ?_
        refine XS.iloadN X108.here hx rfl (hb hby at_198) rfl ?_
        show Steps p.tables e below (T108.setTop (mkF m 199 #[.val (.int p1), .val (.ref b1), .val (.int (10 : Int32)), .unset, .unset, .unset] [(.int (10 : Int32)), (.ref b1)])) _
        refine X108.aaload hx (j := (10 : Int32)) (v := (.ref w10)) (by rw [e108]; exact Ar477.1) (State.isArrayOf_alike hZ.alike Ar477.2.1) rfl Ar477.2.2 in477 at477 (g := (mkF m 199 #[.val (.int p1), .val (.ref b1), .val (.int (10 : Int32)), .unset, .unset, .unset] [(.int (10 : Int32)), (.ref b1)])) rfl rfl (hb hby at_199) _ ?_
        refine XS.astoreN X108.here hx rfl (hb hby at_200) rfl rfl (l' := #[.val (.int p1), .val (.ref b1), .val (.int (10 : Int32)), .val (.ref w10), .unset, .unset]) rfl ?_
        refine XS.iloadN X108.here hx rfl (hb hby at_201) rfl ?_
        refine XS.iconst X108.here hx rfl (hb hby at_202) ?_
        refine XS.icmpNo X108.here hx rfl (hb hby at_203) rfl (feq ((by decide) : ¬ ((10 : Int32) = (2 : Int32)))).1 ?_
        refine XS.iloadN X108.here hx rfl (hb hby at_206) rfl ?_
        show Steps p.tables e below (T108.setTop (mkF m 207 #[.val (.int p1), .val (.ref b1), .val (.int (10 : Int32)), .val (.ref w10), .unset, .unset] [(.int (10 : Int32))])) _
        refine XS.iconst X108.here hx rfl (hb hby at_207) ?_
        refine XS.icmpNo X108.here hx rfl (hb hby at_208) rfl (feq ((by decide) : ¬ ((10 : Int32) = (4 : Int32)))).1 ?_
        refine XS.iloadN X108.here hx rfl (hb hby at_211) rfl ?_
        refine XS.iconst X108.here hx rfl (hb hby at_212) ?_
        refine XS.icmpNo X108.here hx rfl (hb hby at_213) rfl (feq ((by decide) : ¬ ((10 : Int32) = (5 : Int32)))).1 ?_
        refine XS.iloadN X108.here hx rfl (hb hby at_216) rfl ?_
        show Steps p.tables e below (T108.setTop (mkF m 217 #[.val (.int p1), .val (.ref b1), .val (.int (10 : Int32)), .val (.ref w10), .unset, .unset] [(.int (10 : Int32))])) _
        refine XS.bipush X108.here hx rfl (hb hby at_217) ?_
        refine XS.icmpNo X108.here hx rfl (hb hby at_219) rfl (feq ((by decide) : ¬ ((10 : Int32) = (6 : Int32)))).1 ?_
        refine XS.iloadN X108.here hx rfl (hb hby at_222) rfl ?_
        refine XS.bipush X108.here hx rfl (hb hby at_223) ?_
        refine XS.icmpYes X108.here hx rfl (pc0 := 225) (pc' := 232) rfl (hb hby at_225) rfl (feq ((by decide) : ¬ ((10 : Int32) = (23 : Int32)))).2 (by decide) (by decide) ?_
        refine XS.iconst X108.here hx rfl (hb hby at_232) ?_
        show Steps p.tables e below (T108.setTop (mkF m 233 #[.val (.int p1), .val (.ref b1), .val (.int (10 : Int32)), .val (.ref w10), .unset, .unset] [(.int (0 : Int32))])) _
        refine XS.istore X108.here hx rfl (hb hby at_233) rfl (l' := #[.val (.int p1), .val (.ref b1), .val (.int (10 : Int32)), .val (.ref w10), .val (.int (0 : Int32)), .unset]) rfl ?_
        refine XS.aloadN X108.here hx rfl (hb hby at_235) rfl rfl ?_
        show Steps p.tables e below (T108.setTop (mkF m 236 #[.val (.int p1), .val (.ref b1), .val (.int (10 : Int32)), .val (.ref w10), .val (.int (0 : Int32)), .unset] [(.ref w10)])) _
        refine st478.trans ?_
        refine XS.istore X478.here hx rfl (hb hby at_239) rfl (l' := #[.val (.int p1), .val (.ref b1), .val (.int (10 : Int32)), .val (.ref w10), .val (.int (0 : Int32)), .val (.int (0 : Int32))]) rfl ?_
        refine XS.iload X478.here hx rfl (hb hby at_241) rfl ?_
        refine XS.iload X478.here hx rfl (hb hby at_243) rfl ?_
        refine XS.icmpNo X478.here hx rfl (hb hby at_245) rfl (teq ((by decide) : (0 : Int32) = (0 : Int32))).2 ?_
        refine XS.iload X478.here hx rfl (hb hby at_248) rfl ?_
        show Steps p.tables e below (T478.setTop (mkF m 250 #[.val (.int p1), .val (.ref b1), .val (.int (10 : Int32)), .val (.ref w10), .val (.int (0 : Int32)), .val (.int (0 : Int32))] [(.int (0 : Int32))])) _
        refine XS.ifYes X478.here hx rfl (pc0 := 250) (pc' := 261) rfl (hb hby at_250) rfl ((if0 _ _).trans (teq ((by decide) : (0 : Int32) = (0 : Int32))).1) (by decide) (by decide) ?_
        refine XS.iconst X478.here hx rfl (hb hby at_261) ?_
        refine XS.goto X478.here hx rfl (pc0 := 262) (pc' := 266) rfl (hb hby at_262) (by decide) (by decide) ?_
        exact kt
      obtain ⟨fs, hr, hrun, hended, hW, hsame⟩ := X478.leave (v := some (.int (1 : Int32))) (fun h => by rw [Bd.returns] at h; cases h)
      refine ⟨_, _, pre0 _ (S512 _ ?_), hrun, hended, _, _, rfl, ?_, ⟨_, rfl⟩, hW, hsame.mono (by decide) (by decide)⟩
      · exact retN X478 hx (t := .boolean) Bd.returns (by simp) (hb hby at_266) hr
      · show Q_rm_law Z p1 w0 w1 w2 w3 w4 w5 w6 w7 w8 w9 w10 w11 w12 w13 w14 w15 w16 w17 w18 w19 w20 w21 w22 w23 w24 w25 w26 h0 n0 _ T478.heap _
        rw [k510]
        exact ⟨rfl, N511⟩
  · obtain ⟨cl513, Ar513, q513, Sz513, Nn513, Hh513, Gg513⟩ := id F108
    have in513 : ¬ ((11 : Int32) < 0 ∨ cl513.slots.size ≤ ((11 : Int32)).toNatClampNeg) := by exact inb_of Sz513 ⟨by decide, by decide⟩
    have at513 : cl513.slots[((11 : Int32)).toNatClampNeg]? = some (.ref w11) := by
      refine Has.at Hh513 in513 ?_
      rfl
    obtain ⟨cq514, kq514, q514a, q514b, q514c⟩ := isOf hZ e108 (E_SUBSTRING_BEFORE.ext O109.2)
    obtain ⟨_, _, ⟨T514, L514, k514, n514⟩, -, X514, ⟨Lc514, hQ514, l514, y514, z514⟩, st514⟩ := X108.virtualBack hx (y := (⟨"com/example/pico_notify/piconotify/XPathExpr$Function", "takesNodeSets", "()Z"⟩ : MethodName)) (z := (⟨"com/example/pico_notify/piconotify/XPathExpr$Function", "takesNodeSets", "()Z"⟩ : MethodName)) hown (mvT hZ (own_w hw 59 rfl)) (mvT hZ (own_w hw 60 rfl)) (notFace_of_selects (args := #[]) (mvT hZ (own_w hw 62 rfl))) (mvT hZ (own_w hw 62 rfl)) (mvT hZ (own_w hw 61 rfl)) (by decide) (backOf (W := 0) (rm_takes l Z a0 hw [] w11 w2 w23 w4 w5 w6 h108 n0 O109 S_COUNT S_SUM S_LOCAL_NAME S_NAMESPACE_URI S_NAME) hZ (own_w hw 63 rfl) (own_w hw 3 rfl) (by decide) (by decide)) q514a q514c (g := (mkF m 236 #[.val (.int p1), .val (.ref b1), .val (.int (11 : Int32)), .val (.ref w11), .val (.int (0 : Int32)), .unset] [(.ref w11)])) rfl (by rw [hml]; rfl) (Steps.refl _) (argsL := []) (rest := []) (lenOf pd_0 rfl) rfl (by show 2 * 0 + _ ≤ _; exact Nat.le_of_eq rfl) (hb hby at_236) (fun _ _ => ⟨rfl, e108, (by decide : 1 + 0 ≤ _), (by decide : 27 + 0 ≤ _)⟩)
    dsimp only [Pt.U, Pt.locs, Pt.cells, Pt.slots] at X514 l514 y514 z514 st514 hQ514
    rw [l514, y514, z514] at X514
    rcases hQ514 with ⟨c515, rfl, N516, k517⟩ | ⟨c518, c519, rfl, N520, k521⟩ | ⟨c522, c523, c524, rfl, N525, k526⟩ | ⟨c527, c528, c529, c530, rfl, N531, k532⟩ | ⟨c533, c534, c535, c536, c537, rfl, N538, k539⟩ | ⟨c540, c541, c542, c543, c544, rfl, N545, k546⟩
    · exact absurd c515 ((Fld.ne Fo_SUBSTRING_BEFORE Fo_COUNT (by decide)) : ¬ (w11 = w2))
    · exact absurd c519 ((Fld.ne Fo_SUBSTRING_BEFORE Fo_SUM (by decide)) : ¬ (w11 = w23))
    · exact absurd c524 ((Fld.ne Fo_SUBSTRING_BEFORE Fo_LOCAL_NAME (by decide)) : ¬ (w11 = w4))
    · exact absurd c530 ((Fld.ne Fo_SUBSTRING_BEFORE Fo_NAMESPACE_URI (by decide)) : ¬ (w11 = w5))
    · exact absurd c537 ((Fld.ne Fo_SUBSTRING_BEFORE Fo_NAME (by decide)) : ¬ (w11 = w6))
    · have N547 := Fr.app N110 N545
      have S548 : ∀ t, Steps p.tables e below (T514.setTop (mkF m 266 #[.val (.int p1), .val (.ref b1), .val (.int (11 : Int32)), .val (.ref w11), .val (.int (0 : Int32)), .val (.int (0 : Int32))] [(.int (1 : Int32))])) t → Steps p.tables e below (s₁.setTop (mkF m 0 #[.val (.int p1), .unset, .unset, .unset, .unset, .unset] [])) t := by
        intro t kt
        refine S112 t ?_
        refine XS.istoreN X108.here hx rfl (hb hby at_196) rfl (l' := #[.val (.int p1), .val (.ref b1), .val (.int (11 : Int32)), .unset, .unset, .unset]) rfl ?_
        refine XS.aloadN X108.here hx rfl (hb hby at_197) rfl rfl ?_
        refine XS.iloadN X108.here hx rfl (hb hby at_198) rfl ?_
        show Steps p.tables e below (T108.setTop (mkF m 199 #[.val (.int p1), .val (.ref b1), .val (.int (11 : Int32)), .unset, .unset, .unset] [(.int (11 : Int32)), (.ref b1)])) _
        refine X108.aaload hx (j := (11 : Int32)) (v := (.ref w11)) (by rw [e108]; exact Ar513.1) (State.isArrayOf_alike hZ.alike Ar513.2.1) rfl Ar513.2.2 in513 at513 (g := (mkF m 199 #[.val (.int p1), .val (.ref b1), .val (.int (11 : Int32)), .unset, .unset, .unset] [(.int (11 : Int32)), (.ref b1)])) rfl rfl (hb hby at_199) _ ?_
        refine XS.astoreN X108.here hx rfl (hb hby at_200) rfl rfl (l' := #[.val (.int p1), .val (.ref b1), .val (.int (11 : Int32)), .val (.ref w11), .unset, .unset]) rfl ?_
        refine XS.iloadN X108.here hx rfl (hb hby at_201) rfl ?_
        refine XS.iconst X108.here hx rfl (hb hby at_202) ?_
        refine XS.icmpNo X108.here hx rfl (hb hby at_203) rfl (feq ((by decide) : ¬ ((11 : Int32) = (2 : Int32)))).1 ?_
        refine XS.iloadN X108.here hx rfl (hb hby at_206) rfl ?_
        show Steps p.tables e below (T108.setTop (mkF m 207 #[.val (.int p1), .val (.ref b1), .val (.int (11 : Int32)), .val (.ref w11), .unset, .unset] [(.int (11 : Int32))])) _
        refine XS.iconst X108.here hx rfl (hb hby at_207) ?_
        refine XS.icmpNo X108.here hx rfl (hb hby at_208) rfl (feq ((by decide) : ¬ ((11 : Int32) = (4 : Int32)))).1 ?_
        refine XS.iloadN X108.here hx rfl (hb hby at_211) rfl ?_
        refine XS.iconst X108.here hx rfl (hb hby at_212) ?_
        refine XS.icmpNo X108.here hx rfl (hb hby at_213) rfl (feq ((by decide) : ¬ ((11 : Int32) = (5 : Int32)))).1 ?_
        refine XS.iloadN X108.here hx rfl (hb hby at_216) rfl ?_
        show Steps p.tables e below (T108.setTop (mkF m 217 #[.val (.int p1), .val (.ref b1), .val (.int (11 : Int32)), .val (.ref w11), .unset, .unset] [(.int (11 : Int32))])) _
        refine XS.bipush X108.here hx rfl (hb hby at_217) ?_
        refine XS.icmpNo X108.here hx rfl (hb hby at_219) rfl (feq ((by decide) : ¬ ((11 : Int32) = (6 : Int32)))).1 ?_
        refine XS.iloadN X108.here hx rfl (hb hby at_222) rfl ?_
        refine XS.bipush X108.here hx rfl (hb hby at_223) ?_
        refine XS.icmpYes X108.here hx rfl (pc0 := 225) (pc' := 232) rfl (hb hby at_225) rfl (feq ((by decide) : ¬ ((11 : Int32) = (23 : Int32)))).2 (by decide) (by decide) ?_
        refine XS.iconst X108.here hx rfl (hb hby at_232) ?_
        show Steps p.tables e below (T108.setTop (mkF m 233 #[.val (.int p1), .val (.ref b1), .val (.int (11 : Int32)), .val (.ref w11), .unset, .unset] [(.int (0 : Int32))])) _
        refine XS.istore X108.here hx rfl (hb hby at_233) rfl (l' := #[.val (.int p1), .val (.ref b1), .val (.int (11 : Int32)), .val (.ref w11), .val (.int (0 : Int32)), .unset]) rfl ?_
        refine XS.aloadN X108.here hx rfl (hb hby at_235) rfl rfl ?_
        show Steps p.tables e below (T108.setTop (mkF m 236 #[.val (.int p1), .val (.ref b1), .val (.int (11 : Int32)), .val (.ref w11), .val (.int (0 : Int32)), .unset] [(.ref w11)])) _
        refine st514.trans ?_
        refine XS.istore X514.here hx rfl (hb hby at_239) rfl (l' := #[.val (.int p1), .val (.ref b1), .val (.int (11 : Int32)), .val (.ref w11), .val (.int (0 : Int32)), .val (.int (0 : Int32))]) rfl ?_
        refine XS.iload X514.here hx rfl (hb hby at_241) rfl ?_
        refine XS.iload X514.here hx rfl (hb hby at_243) rfl ?_
        refine XS.icmpNo X514.here hx rfl (hb hby at_245) rfl (teq ((by decide) : (0 : Int32) = (0 : Int32))).2 ?_
        refine XS.iload X514.here hx rfl (hb hby at_248) rfl ?_
        show Steps p.tables e below (T514.setTop (mkF m 250 #[.val (.int p1), .val (.ref b1), .val (.int (11 : Int32)), .val (.ref w11), .val (.int (0 : Int32)), .val (.int (0 : Int32))] [(.int (0 : Int32))])) _
        refine XS.ifYes X514.here hx rfl (pc0 := 250) (pc' := 261) rfl (hb hby at_250) rfl ((if0 _ _).trans (teq ((by decide) : (0 : Int32) = (0 : Int32))).1) (by decide) (by decide) ?_
        refine XS.iconst X514.here hx rfl (hb hby at_261) ?_
        refine XS.goto X514.here hx rfl (pc0 := 262) (pc' := 266) rfl (hb hby at_262) (by decide) (by decide) ?_
        exact kt
      obtain ⟨fs, hr, hrun, hended, hW, hsame⟩ := X514.leave (v := some (.int (1 : Int32))) (fun h => by rw [Bd.returns] at h; cases h)
      refine ⟨_, _, pre0 _ (S548 _ ?_), hrun, hended, _, _, rfl, ?_, ⟨_, rfl⟩, hW, hsame.mono (by decide) (by decide)⟩
      · exact retN X514 hx (t := .boolean) Bd.returns (by simp) (hb hby at_266) hr
      · show Q_rm_law Z p1 w0 w1 w2 w3 w4 w5 w6 w7 w8 w9 w10 w11 w12 w13 w14 w15 w16 w17 w18 w19 w20 w21 w22 w23 w24 w25 w26 h0 n0 _ T514.heap _
        rw [k546]
        exact ⟨rfl, N547⟩
  · obtain ⟨cl549, Ar549, q549, Sz549, Nn549, Hh549, Gg549⟩ := id F108
    have in549 : ¬ ((12 : Int32) < 0 ∨ cl549.slots.size ≤ ((12 : Int32)).toNatClampNeg) := by exact inb_of Sz549 ⟨by decide, by decide⟩
    have at549 : cl549.slots[((12 : Int32)).toNatClampNeg]? = some (.ref w12) := by
      refine Has.at Hh549 in549 ?_
      rfl
    obtain ⟨cq550, kq550, q550a, q550b, q550c⟩ := isOf hZ e108 (E_SUBSTRING_AFTER.ext O109.2)
    obtain ⟨_, _, ⟨T550, L550, k550, n550⟩, -, X550, ⟨Lc550, hQ550, l550, y550, z550⟩, st550⟩ := X108.virtualBack hx (y := (⟨"com/example/pico_notify/piconotify/XPathExpr$Function", "takesNodeSets", "()Z"⟩ : MethodName)) (z := (⟨"com/example/pico_notify/piconotify/XPathExpr$Function", "takesNodeSets", "()Z"⟩ : MethodName)) hown (mvT hZ (own_w hw 59 rfl)) (mvT hZ (own_w hw 60 rfl)) (notFace_of_selects (args := #[]) (mvT hZ (own_w hw 62 rfl))) (mvT hZ (own_w hw 62 rfl)) (mvT hZ (own_w hw 61 rfl)) (by decide) (backOf (W := 0) (rm_takes l Z a0 hw [] w12 w2 w23 w4 w5 w6 h108 n0 O109 S_COUNT S_SUM S_LOCAL_NAME S_NAMESPACE_URI S_NAME) hZ (own_w hw 63 rfl) (own_w hw 3 rfl) (by decide) (by decide)) q550a q550c (g := (mkF m 236 #[.val (.int p1), .val (.ref b1), .val (.int (12 : Int32)), .val (.ref w12), .val (.int (0 : Int32)), .unset] [(.ref w12)])) rfl (by rw [hml]; rfl) (Steps.refl _) (argsL := []) (rest := []) (lenOf pd_0 rfl) rfl (by show 2 * 0 + _ ≤ _; exact Nat.le_of_eq rfl) (hb hby at_236) (fun _ _ => ⟨rfl, e108, (by decide : 1 + 0 ≤ _), (by decide : 27 + 0 ≤ _)⟩)
    dsimp only [Pt.U, Pt.locs, Pt.cells, Pt.slots] at X550 l550 y550 z550 st550 hQ550
    rw [l550, y550, z550] at X550
    rcases hQ550 with ⟨c551, rfl, N552, k553⟩ | ⟨c554, c555, rfl, N556, k557⟩ | ⟨c558, c559, c560, rfl, N561, k562⟩ | ⟨c563, c564, c565, c566, rfl, N567, k568⟩ | ⟨c569, c570, c571, c572, c573, rfl, N574, k575⟩ | ⟨c576, c577, c578, c579, c580, rfl, N581, k582⟩
    · exact absurd c551 ((Fld.ne Fo_SUBSTRING_AFTER Fo_COUNT (by decide)) : ¬ (w12 = w2))
    · exact absurd c555 ((Fld.ne Fo_SUBSTRING_AFTER Fo_SUM (by decide)) : ¬ (w12 = w23))
    · exact absurd c560 ((Fld.ne Fo_SUBSTRING_AFTER Fo_LOCAL_NAME (by decide)) : ¬ (w12 = w4))
    · exact absurd c566 ((Fld.ne Fo_SUBSTRING_AFTER Fo_NAMESPACE_URI (by decide)) : ¬ (w12 = w5))
    · exact absurd c573 ((Fld.ne Fo_SUBSTRING_AFTER Fo_NAME (by decide)) : ¬ (w12 = w6))
    · have N583 := Fr.app N110 N581
      have S584 : ∀ t, Steps p.tables e below (T550.setTop (mkF m 266 #[.val (.int p1), .val (.ref b1), .val (.int (12 : Int32)), .val (.ref w12), .val (.int (0 : Int32)), .val (.int (0 : Int32))] [(.int (1 : Int32))])) t → Steps p.tables e below (s₁.setTop (mkF m 0 #[.val (.int p1), .unset, .unset, .unset, .unset, .unset] [])) t := by
        intro t kt
        refine S112 t ?_
        refine XS.istoreN X108.here hx rfl (hb hby at_196) rfl (l' := #[.val (.int p1), .val (.ref b1), .val (.int (12 : Int32)), .unset, .unset, .unset]) rfl ?_
        refine XS.aloadN X108.here hx rfl (hb hby at_197) rfl rfl ?_
        refine XS.iloadN X108.here hx rfl (hb hby at_198) rfl ?_
        show Steps p.tables e below (T108.setTop (mkF m 199 #[.val (.int p1), .val (.ref b1), .val (.int (12 : Int32)), .unset, .unset, .unset] [(.int (12 : Int32)), (.ref b1)])) _
        refine X108.aaload hx (j := (12 : Int32)) (v := (.ref w12)) (by rw [e108]; exact Ar549.1) (State.isArrayOf_alike hZ.alike Ar549.2.1) rfl Ar549.2.2 in549 at549 (g := (mkF m 199 #[.val (.int p1), .val (.ref b1), .val (.int (12 : Int32)), .unset, .unset, .unset] [(.int (12 : Int32)), (.ref b1)])) rfl rfl (hb hby at_199) _ ?_
        refine XS.astoreN X108.here hx rfl (hb hby at_200) rfl rfl (l' := #[.val (.int p1), .val (.ref b1), .val (.int (12 : Int32)), .val (.ref w12), .unset, .unset]) rfl ?_
        refine XS.iloadN X108.here hx rfl (hb hby at_201) rfl ?_
        refine XS.iconst X108.here hx rfl (hb hby at_202) ?_
        refine XS.icmpNo X108.here hx rfl (hb hby at_203) rfl (feq ((by decide) : ¬ ((12 : Int32) = (2 : Int32)))).1 ?_
        refine XS.iloadN X108.here hx rfl (hb hby at_206) rfl ?_
        show Steps p.tables e below (T108.setTop (mkF m 207 #[.val (.int p1), .val (.ref b1), .val (.int (12 : Int32)), .val (.ref w12), .unset, .unset] [(.int (12 : Int32))])) _
        refine XS.iconst X108.here hx rfl (hb hby at_207) ?_
        refine XS.icmpNo X108.here hx rfl (hb hby at_208) rfl (feq ((by decide) : ¬ ((12 : Int32) = (4 : Int32)))).1 ?_
        refine XS.iloadN X108.here hx rfl (hb hby at_211) rfl ?_
        refine XS.iconst X108.here hx rfl (hb hby at_212) ?_
        refine XS.icmpNo X108.here hx rfl (hb hby at_213) rfl (feq ((by decide) : ¬ ((12 : Int32) = (5 : Int32)))).1 ?_
        refine XS.iloadN X108.here hx rfl (hb hby at_216) rfl ?_
        show Steps p.tables e below (T108.setTop (mkF m 217 #[.val (.int p1), .val (.ref b1), .val (.int (12 : Int32)), .val (.ref w12), .unset, .unset] [(.int (12 : Int32))])) _
        refine XS.bipush X108.here hx rfl (hb hby at_217) ?_
        refine XS.icmpNo X108.here hx rfl (hb hby at_219) rfl (feq ((by decide) : ¬ ((12 : Int32) = (6 : Int32)))).1 ?_
        refine XS.iloadN X108.here hx rfl (hb hby at_222) rfl ?_
        refine XS.bipush X108.here hx rfl (hb hby at_223) ?_
        refine XS.icmpYes X108.here hx rfl (pc0 := 225) (pc' := 232) rfl (hb hby at_225) rfl (feq ((by decide) : ¬ ((12 : Int32) = (23 : Int32)))).2 (by decide) (by decide) ?_
        refine XS.iconst X108.here hx rfl (hb hby at_232) ?_
        show Steps p.tables e below (T108.setTop (mkF m 233 #[.val (.int p1), .val (.ref b1), .val (.int (12 : Int32)), .val (.ref w12), .unset, .unset] [(.int (0 : Int32))])) _
        refine XS.istore X108.here hx rfl (hb hby at_233) rfl (l' := #[.val (.int p1), .val (.ref b1), .val (.int (12 : Int32)), .val (.ref w12), .val (.int (0 : Int32)), .unset]) rfl ?_
        refine XS.aloadN X108.here hx rfl (hb hby at_235) rfl rfl ?_
        show Steps p.tables e below (T108.setTop (mkF m 236 #[.val (.int p1), .val (.ref b1), .val (.int (12 : Int32)), .val (.ref w12), .val (.int (0 : Int32)), .unset] [(.ref w12)])) _
        refine st550.trans ?_
        refine XS.istore X550.here hx rfl (hb hby at_239) rfl (l' := #[.val (.int p1), .val (.ref b1), .val (.int (12 : Int32)), .val (.ref w12), .val (.int (0 : Int32)), .val (.int (0 : Int32))]) rfl ?_
        refine XS.iload X550.here hx rfl (hb hby at_241) rfl ?_
        refine XS.iload X550.here hx rfl (hb hby at_243) rfl ?_
        refine XS.icmpNo X550.here hx rfl (hb hby at_245) rfl (teq ((by decide) : (0 : Int32) = (0 : Int32))).2 ?_
        refine XS.iload X550.here hx rfl (hb hby at_248) rfl ?_
        show Steps p.tables e below (T550.setTop (mkF m 250 #[.val (.int p1), .val (.ref b1), .val (.int (12 : Int32)), .val (.ref w12), .val (.int (0 : Int32)), .val (.int (0 : Int32))] [(.int (0 : Int32))])) _
        refine XS.ifYes X550.here hx rfl (pc0 := 250) (pc' := 261) rfl (hb hby at_250) rfl ((if0 _ _).trans (teq ((by decide) : (0 : Int32) = (0 : Int32))).1) (by decide) (by decide) ?_
        refine XS.iconst X550.here hx rfl (hb hby at_261) ?_
        refine XS.goto X550.here hx rfl (pc0 := 262) (pc' := 266) rfl (hb hby at_262) (by decide) (by decide) ?_
        exact kt
      obtain ⟨fs, hr, hrun, hended, hW, hsame⟩ := X550.leave (v := some (.int (1 : Int32))) (fun h => by rw [Bd.returns] at h; cases h)
      refine ⟨_, _, pre0 _ (S584 _ ?_), hrun, hended, _, _, rfl, ?_, ⟨_, rfl⟩, hW, hsame.mono (by decide) (by decide)⟩
      · exact retN X550 hx (t := .boolean) Bd.returns (by simp) (hb hby at_266) hr
      · show Q_rm_law Z p1 w0 w1 w2 w3 w4 w5 w6 w7 w8 w9 w10 w11 w12 w13 w14 w15 w16 w17 w18 w19 w20 w21 w22 w23 w24 w25 w26 h0 n0 _ T550.heap _
        rw [k582]
        exact ⟨rfl, N583⟩
  · obtain ⟨cl585, Ar585, q585, Sz585, Nn585, Hh585, Gg585⟩ := id F108
    have in585 : ¬ ((13 : Int32) < 0 ∨ cl585.slots.size ≤ ((13 : Int32)).toNatClampNeg) := by exact inb_of Sz585 ⟨by decide, by decide⟩
    have at585 : cl585.slots[((13 : Int32)).toNatClampNeg]? = some (.ref w13) := by
      refine Has.at Hh585 in585 ?_
      rfl
    obtain ⟨cq586, kq586, q586a, q586b, q586c⟩ := isOf hZ e108 (E_SUBSTRING.ext O109.2)
    obtain ⟨_, _, ⟨T586, L586, k586, n586⟩, -, X586, ⟨Lc586, hQ586, l586, y586, z586⟩, st586⟩ := X108.virtualBack hx (y := (⟨"com/example/pico_notify/piconotify/XPathExpr$Function", "takesNodeSets", "()Z"⟩ : MethodName)) (z := (⟨"com/example/pico_notify/piconotify/XPathExpr$Function", "takesNodeSets", "()Z"⟩ : MethodName)) hown (mvT hZ (own_w hw 59 rfl)) (mvT hZ (own_w hw 60 rfl)) (notFace_of_selects (args := #[]) (mvT hZ (own_w hw 62 rfl))) (mvT hZ (own_w hw 62 rfl)) (mvT hZ (own_w hw 61 rfl)) (by decide) (backOf (W := 0) (rm_takes l Z a0 hw [] w13 w2 w23 w4 w5 w6 h108 n0 O109 S_COUNT S_SUM S_LOCAL_NAME S_NAMESPACE_URI S_NAME) hZ (own_w hw 63 rfl) (own_w hw 3 rfl) (by decide) (by decide)) q586a q586c (g := (mkF m 236 #[.val (.int p1), .val (.ref b1), .val (.int (13 : Int32)), .val (.ref w13), .val (.int (0 : Int32)), .unset] [(.ref w13)])) rfl (by rw [hml]; rfl) (Steps.refl _) (argsL := []) (rest := []) (lenOf pd_0 rfl) rfl (by show 2 * 0 + _ ≤ _; exact Nat.le_of_eq rfl) (hb hby at_236) (fun _ _ => ⟨rfl, e108, (by decide : 1 + 0 ≤ _), (by decide : 27 + 0 ≤ _)⟩)
    dsimp only [Pt.U, Pt.locs, Pt.cells, Pt.slots] at X586 l586 y586 z586 st586 hQ586
    rw [l586, y586, z586] at X586
    rcases hQ586 with ⟨c587, rfl, N588, k589⟩ | ⟨c590, c591, rfl, N592, k593⟩ | ⟨c594, c595, c596, rfl, N597, k598⟩ | ⟨c599, c600, c601, c602, rfl, N603, k604⟩ | ⟨c605, c606, c607, c608, c609, rfl, N610, k611⟩ | ⟨c612, c613, c614, c615, c616, rfl, N617, k618⟩
    · exact absurd c587 ((Fld.ne Fo_SUBSTRING Fo_COUNT (by decide)) : ¬ (w13 = w2))
    · exact absurd c591 ((Fld.ne Fo_SUBSTRING Fo_SUM (by decide)) : ¬ (w13 = w23))
    · exact absurd c596 ((Fld.ne Fo_SUBSTRING Fo_LOCAL_NAME (by decide)) : ¬ (w13 = w4))
    · exact absurd c602 ((Fld.ne Fo_SUBSTRING Fo_NAMESPACE_URI (by decide)) : ¬ (w13 = w5))
    · exact absurd c609 ((Fld.ne Fo_SUBSTRING Fo_NAME (by decide)) : ¬ (w13 = w6))
    · have N619 := Fr.app N110 N617
      have S620 : ∀ t, Steps p.tables e below (T586.setTop (mkF m 266 #[.val (.int p1), .val (.ref b1), .val (.int (13 : Int32)), .val (.ref w13), .val (.int (0 : Int32)), .val (.int (0 : Int32))] [(.int (1 : Int32))])) t → Steps p.tables e below (s₁.setTop (mkF m 0 #[.val (.int p1), .unset, .unset, .unset, .unset, .unset] [])) t := by
        intro t kt
        refine S112 t ?_
        refine XS.istoreN X108.here hx rfl (hb hby at_196) rfl (l' := #[.val (.int p1), .val (.ref b1), .val (.int (13 : Int32)), .unset, .unset, .unset]) rfl ?_
        refine XS.aloadN X108.here hx rfl (hb hby at_197) rfl rfl ?_
        refine XS.iloadN X108.here hx rfl (hb hby at_198) rfl ?_
        show Steps p.tables e below (T108.setTop (mkF m 199 #[.val (.int p1), .val (.ref b1), .val (.int (13 : Int32)), .unset, .unset, .unset] [(.int (13 : Int32)), (.ref b1)])) _
        refine X108.aaload hx (j := (13 : Int32)) (v := (.ref w13)) (by rw [e108]; exact Ar585.1) (State.isArrayOf_alike hZ.alike Ar585.2.1) rfl Ar585.2.2 in585 at585 (g := (mkF m 199 #[.val (.int p1), .val (.ref b1), .val (.int (13 : Int32)), .unset, .unset, .unset] [(.int (13 : Int32)), (.ref b1)])) rfl rfl (hb hby at_199) _ ?_
        refine XS.astoreN X108.here hx rfl (hb hby at_200) rfl rfl (l' := #[.val (.int p1), .val (.ref b1), .val (.int (13 : Int32)), .val (.ref w13), .unset, .unset]) rfl ?_
        refine XS.iloadN X108.here hx rfl (hb hby at_201) rfl ?_
        refine XS.iconst X108.here hx rfl (hb hby at_202) ?_
        refine XS.icmpNo X108.here hx rfl (hb hby at_203) rfl (feq ((by decide) : ¬ ((13 : Int32) = (2 : Int32)))).1 ?_
        refine XS.iloadN X108.here hx rfl (hb hby at_206) rfl ?_
        show Steps p.tables e below (T108.setTop (mkF m 207 #[.val (.int p1), .val (.ref b1), .val (.int (13 : Int32)), .val (.ref w13), .unset, .unset] [(.int (13 : Int32))])) _
        refine XS.iconst X108.here hx rfl (hb hby at_207) ?_
        refine XS.icmpNo X108.here hx rfl (hb hby at_208) rfl (feq ((by decide) : ¬ ((13 : Int32) = (4 : Int32)))).1 ?_
        refine XS.iloadN X108.here hx rfl (hb hby at_211) rfl ?_
        refine XS.iconst X108.here hx rfl (hb hby at_212) ?_
        refine XS.icmpNo X108.here hx rfl (hb hby at_213) rfl (feq ((by decide) : ¬ ((13 : Int32) = (5 : Int32)))).1 ?_
        refine XS.iloadN X108.here hx rfl (hb hby at_216) rfl ?_
        show Steps p.tables e below (T108.setTop (mkF m 217 #[.val (.int p1), .val (.ref b1), .val (.int (13 : Int32)), .val (.ref w13), .unset, .unset] [(.int (13 : Int32))])) _
        refine XS.bipush X108.here hx rfl (hb hby at_217) ?_
        refine XS.icmpNo X108.here hx rfl (hb hby at_219) rfl (feq ((by decide) : ¬ ((13 : Int32) = (6 : Int32)))).1 ?_
        refine XS.iloadN X108.here hx rfl (hb hby at_222) rfl ?_
        refine XS.bipush X108.here hx rfl (hb hby at_223) ?_
        refine XS.icmpYes X108.here hx rfl (pc0 := 225) (pc' := 232) rfl (hb hby at_225) rfl (feq ((by decide) : ¬ ((13 : Int32) = (23 : Int32)))).2 (by decide) (by decide) ?_
        refine XS.iconst X108.here hx rfl (hb hby at_232) ?_
        show Steps p.tables e below (T108.setTop (mkF m 233 #[.val (.int p1), .val (.ref b1), .val (.int (13 : Int32)), .val (.ref w13), .unset, .unset] [(.int (0 : Int32))])) _
        refine XS.istore X108.here hx rfl (hb hby at_233) rfl (l' := #[.val (.int p1), .val (.ref b1), .val (.int (13 : Int32)), .val (.ref w13), .val (.int (0 : Int32)), .unset]) rfl ?_
        refine XS.aloadN X108.here hx rfl (hb hby at_235) rfl rfl ?_
        show Steps p.tables e below (T108.setTop (mkF m 236 #[.val (.int p1), .val (.ref b1), .val (.int (13 : Int32)), .val (.ref w13), .val (.int (0 : Int32)), .unset] [(.ref w13)])) _
        refine st586.trans ?_
        refine XS.istore X586.here hx rfl (hb hby at_239) rfl (l' := #[.val (.int p1), .val (.ref b1), .val (.int (13 : Int32)), .val (.ref w13), .val (.int (0 : Int32)), .val (.int (0 : Int32))]) rfl ?_
        refine XS.iload X586.here hx rfl (hb hby at_241) rfl ?_
        refine XS.iload X586.here hx rfl (hb hby at_243) rfl ?_
        refine XS.icmpNo X586.here hx rfl (hb hby at_245) rfl (teq ((by decide) : (0 : Int32) = (0 : Int32))).2 ?_
        refine XS.iload X586.here hx rfl (hb hby at_248) rfl ?_
        show Steps p.tables e below (T586.setTop (mkF m 250 #[.val (.int p1), .val (.ref b1), .val (.int (13 : Int32)), .val (.ref w13), .val (.int (0 : Int32)), .val (.int (0 : Int32))] [(.int (0 : Int32))])) _
        refine XS.ifYes X586.here hx rfl (pc0 := 250) (pc' := 261) rfl (hb hby at_250) rfl ((if0 _ _).trans (teq ((by decide) : (0 : Int32) = (0 : Int32))).1) (by decide) (by decide) ?_
        refine XS.iconst X586.here hx rfl (hb hby at_261) ?_
        refine XS.goto X586.here hx rfl (pc0 := 262) (pc' := 266) rfl (hb hby at_262) (by decide) (by decide) ?_
        exact kt
      obtain ⟨fs, hr, hrun, hended, hW, hsame⟩ := X586.leave (v := some (.int (1 : Int32))) (fun h => by rw [Bd.returns] at h; cases h)
      refine ⟨_, _, pre0 _ (S620 _ ?_), hrun, hended, _, _, rfl, ?_, ⟨_, rfl⟩, hW, hsame.mono (by decide) (by decide)⟩
      · exact retN X586 hx (t := .boolean) Bd.returns (by simp) (hb hby at_266) hr
      · show Q_rm_law Z p1 w0 w1 w2 w3 w4 w5 w6 w7 w8 w9 w10 w11 w12 w13 w14 w15 w16 w17 w18 w19 w20 w21 w22 w23 w24 w25 w26 h0 n0 _ T586.heap _
        rw [k618]
        exact ⟨rfl, N619⟩
  · obtain ⟨cl621, Ar621, q621, Sz621, Nn621, Hh621, Gg621⟩ := id F108
    have in621 : ¬ ((14 : Int32) < 0 ∨ cl621.slots.size ≤ ((14 : Int32)).toNatClampNeg) := by exact inb_of Sz621 ⟨by decide, by decide⟩
    have at621 : cl621.slots[((14 : Int32)).toNatClampNeg]? = some (.ref w14) := by
      refine Has.at Hh621 in621 ?_
      rfl
    obtain ⟨cq622, kq622, q622a, q622b, q622c⟩ := isOf hZ e108 (E_STRING_LENGTH.ext O109.2)
    obtain ⟨_, _, ⟨T622, L622, k622, n622⟩, -, X622, ⟨Lc622, hQ622, l622, y622, z622⟩, st622⟩ := X108.virtualBack hx (y := (⟨"com/example/pico_notify/piconotify/XPathExpr$Function", "takesNodeSets", "()Z"⟩ : MethodName)) (z := (⟨"com/example/pico_notify/piconotify/XPathExpr$Function", "takesNodeSets", "()Z"⟩ : MethodName)) hown (mvT hZ (own_w hw 59 rfl)) (mvT hZ (own_w hw 60 rfl)) (notFace_of_selects (args := #[]) (mvT hZ (own_w hw 62 rfl))) (mvT hZ (own_w hw 62 rfl)) (mvT hZ (own_w hw 61 rfl)) (by decide) (backOf (W := 0) (rm_takes l Z a0 hw [] w14 w2 w23 w4 w5 w6 h108 n0 O109 S_COUNT S_SUM S_LOCAL_NAME S_NAMESPACE_URI S_NAME) hZ (own_w hw 63 rfl) (own_w hw 3 rfl) (by decide) (by decide)) q622a q622c (g := (mkF m 236 #[.val (.int p1), .val (.ref b1), .val (.int (14 : Int32)), .val (.ref w14), .val (.int (0 : Int32)), .unset] [(.ref w14)])) rfl (by rw [hml]; rfl) (Steps.refl _) (argsL := []) (rest := []) (lenOf pd_0 rfl) rfl (by show 2 * 0 + _ ≤ _; exact Nat.le_of_eq rfl) (hb hby at_236) (fun _ _ => ⟨rfl, e108, (by decide : 1 + 0 ≤ _), (by decide : 27 + 0 ≤ _)⟩)
    dsimp only [Pt.U, Pt.locs, Pt.cells, Pt.slots] at X622 l622 y622 z622 st622 hQ622
    rw [l622, y622, z622] at X622
    rcases hQ622 with ⟨c623, rfl, N624, k625⟩ | ⟨c626, c627, rfl, N628, k629⟩ | ⟨c630, c631, c632, rfl, N633, k634⟩ | ⟨c635, c636, c637, c638, rfl, N639, k640⟩ | ⟨c641, c642, c643, c644, c645, rfl, N646, k647⟩ | ⟨c648, c649, c650, c651, c652, rfl, N653, k654⟩
    · exact absurd c623 ((Fld.ne Fo_STRING_LENGTH Fo_COUNT (by decide)) : ¬ (w14 = w2))
    · exact absurd c627 ((Fld.ne Fo_STRING_LENGTH Fo_SUM (by decide)) : ¬ (w14 = w23))
    · exact absurd c632 ((Fld.ne Fo_STRING_LENGTH Fo_LOCAL_NAME (by decide)) : ¬ (w14 = w4))
    · exact absurd c638 ((Fld.ne Fo_STRING_LENGTH Fo_NAMESPACE_URI (by decide)) : ¬ (w14 = w5))
    · exact absurd c645 ((Fld.ne Fo_STRING_LENGTH Fo_NAME (by decide)) : ¬ (w14 = w6))
    · have N655 := Fr.app N110 N653
      have S656 : ∀ t, Steps p.tables e below (T622.setTop (mkF m 266 #[.val (.int p1), .val (.ref b1), .val (.int (14 : Int32)), .val (.ref w14), .val (.int (0 : Int32)), .val (.int (0 : Int32))] [(.int (1 : Int32))])) t → Steps p.tables e below (s₁.setTop (mkF m 0 #[.val (.int p1), .unset, .unset, .unset, .unset, .unset] [])) t := by
        intro t kt
        refine S112 t ?_
        refine XS.istoreN X108.here hx rfl (hb hby at_196) rfl (l' := #[.val (.int p1), .val (.ref b1), .val (.int (14 : Int32)), .unset, .unset, .unset]) rfl ?_
        refine XS.aloadN X108.here hx rfl (hb hby at_197) rfl rfl ?_
        refine XS.iloadN X108.here hx rfl (hb hby at_198) rfl ?_
        show Steps p.tables e below (T108.setTop (mkF m 199 #[.val (.int p1), .val (.ref b1), .val (.int (14 : Int32)), .unset, .unset, .unset] [(.int (14 : Int32)), (.ref b1)])) _
        refine X108.aaload hx (j := (14 : Int32)) (v := (.ref w14)) (by rw [e108]; exact Ar621.1) (State.isArrayOf_alike hZ.alike Ar621.2.1) rfl Ar621.2.2 in621 at621 (g := (mkF m 199 #[.val (.int p1), .val (.ref b1), .val (.int (14 : Int32)), .unset, .unset, .unset] [(.int (14 : Int32)), (.ref b1)])) rfl rfl (hb hby at_199) _ ?_
        refine XS.astoreN X108.here hx rfl (hb hby at_200) rfl rfl (l' := #[.val (.int p1), .val (.ref b1), .val (.int (14 : Int32)), .val (.ref w14), .unset, .unset]) rfl ?_
        refine XS.iloadN X108.here hx rfl (hb hby at_201) rfl ?_
        refine XS.iconst X108.here hx rfl (hb hby at_202) ?_
        refine XS.icmpNo X108.here hx rfl (hb hby at_203) rfl (feq ((by decide) : ¬ ((14 : Int32) = (2 : Int32)))).1 ?_
        refine XS.iloadN X108.here hx rfl (hb hby at_206) rfl ?_
        show Steps p.tables e below (T108.setTop (mkF m 207 #[.val (.int p1), .val (.ref b1), .val (.int (14 : Int32)), .val (.ref w14), .unset, .unset] [(.int (14 : Int32))])) _
        refine XS.iconst X108.here hx rfl (hb hby at_207) ?_
        refine XS.icmpNo X108.here hx rfl (hb hby at_208) rfl (feq ((by decide) : ¬ ((14 : Int32) = (4 : Int32)))).1 ?_
        refine XS.iloadN X108.here hx rfl (hb hby at_211) rfl ?_
        refine XS.iconst X108.here hx rfl (hb hby at_212) ?_
        refine XS.icmpNo X108.here hx rfl (hb hby at_213) rfl (feq ((by decide) : ¬ ((14 : Int32) = (5 : Int32)))).1 ?_
        refine XS.iloadN X108.here hx rfl (hb hby at_216) rfl ?_
        show Steps p.tables e below (T108.setTop (mkF m 217 #[.val (.int p1), .val (.ref b1), .val (.int (14 : Int32)), .val (.ref w14), .unset, .unset] [(.int (14 : Int32))])) _
        refine XS.bipush X108.here hx rfl (hb hby at_217) ?_
        refine XS.icmpNo X108.here hx rfl (hb hby at_219) rfl (feq ((by decide) : ¬ ((14 : Int32) = (6 : Int32)))).1 ?_
        refine XS.iloadN X108.here hx rfl (hb hby at_222) rfl ?_
        refine XS.bipush X108.here hx rfl (hb hby at_223) ?_
        refine XS.icmpYes X108.here hx rfl (pc0 := 225) (pc' := 232) rfl (hb hby at_225) rfl (feq ((by decide) : ¬ ((14 : Int32) = (23 : Int32)))).2 (by decide) (by decide) ?_
        refine XS.iconst X108.here hx rfl (hb hby at_232) ?_
        show Steps p.tables e below (T108.setTop (mkF m 233 #[.val (.int p1), .val (.ref b1), .val (.int (14 : Int32)), .val (.ref w14), .unset, .unset] [(.int (0 : Int32))])) _
        refine XS.istore X108.here hx rfl (hb hby at_233) rfl (l' := #[.val (.int p1), .val (.ref b1), .val (.int (14 : Int32)), .val (.ref w14), .val (.int (0 : Int32)), .unset]) rfl ?_
        refine XS.aloadN X108.here hx rfl (hb hby at_235) rfl rfl ?_
        show Steps p.tables e below (T108.setTop (mkF m 236 #[.val (.int p1), .val (.ref b1), .val (.int (14 : Int32)), .val (.ref w14), .val (.int (0 : Int32)), .unset] [(.ref w14)])) _
        refine st622.trans ?_
        refine XS.istore X622.here hx rfl (hb hby at_239) rfl (l' := #[.val (.int p1), .val (.ref b1), .val (.int (14 : Int32)), .val (.ref w14), .val (.int (0 : Int32)), .val (.int (0 : Int32))]) rfl ?_
        refine XS.iload X622.here hx rfl (hb hby at_241) rfl ?_
        refine XS.iload X622.here hx rfl (hb hby at_243) rfl ?_
        refine XS.icmpNo X622.here hx rfl (hb hby at_245) rfl (teq ((by decide) : (0 : Int32) = (0 : Int32))).2 ?_
        refine XS.iload X622.here hx rfl (hb hby at_248) rfl ?_
        show Steps p.tables e below (T622.setTop (mkF m 250 #[.val (.int p1), .val (.ref b1), .val (.int (14 : Int32)), .val (.ref w14), .val (.int (0 : Int32)), .val (.int (0 : Int32))] [(.int (0 : Int32))])) _
        refine XS.ifYes X622.here hx rfl (pc0 := 250) (pc' := 261) rfl (hb hby at_250) rfl ((if0 _ _).trans (teq ((by decide) : (0 : Int32) = (0 : Int32))).1) (by decide) (by decide) ?_
        refine XS.iconst X622.here hx rfl (hb hby at_261) ?_
        refine XS.goto X622.here hx rfl (pc0 := 262) (pc' := 266) rfl (hb hby at_262) (by decide) (by decide) ?_
        exact kt
      obtain ⟨fs, hr, hrun, hended, hW, hsame⟩ := X622.leave (v := some (.int (1 : Int32))) (fun h => by rw [Bd.returns] at h; cases h)
      refine ⟨_, _, pre0 _ (S656 _ ?_), hrun, hended, _, _, rfl, ?_, ⟨_, rfl⟩, hW, hsame.mono (by decide) (by decide)⟩
      · exact retN X622 hx (t := .boolean) Bd.returns (by simp) (hb hby at_266) hr
      · show Q_rm_law Z p1 w0 w1 w2 w3 w4 w5 w6 w7 w8 w9 w10 w11 w12 w13 w14 w15 w16 w17 w18 w19 w20 w21 w22 w23 w24 w25 w26 h0 n0 _ T622.heap _
        rw [k654]
        exact ⟨rfl, N655⟩
  · obtain ⟨cl657, Ar657, q657, Sz657, Nn657, Hh657, Gg657⟩ := id F108
    have in657 : ¬ ((15 : Int32) < 0 ∨ cl657.slots.size ≤ ((15 : Int32)).toNatClampNeg) := by exact inb_of Sz657 ⟨by decide, by decide⟩
    have at657 : cl657.slots[((15 : Int32)).toNatClampNeg]? = some (.ref w15) := by
      refine Has.at Hh657 in657 ?_
      rfl
    obtain ⟨cq658, kq658, q658a, q658b, q658c⟩ := isOf hZ e108 (E_NORMALIZE_SPACE.ext O109.2)
    obtain ⟨_, _, ⟨T658, L658, k658, n658⟩, -, X658, ⟨Lc658, hQ658, l658, y658, z658⟩, st658⟩ := X108.virtualBack hx (y := (⟨"com/example/pico_notify/piconotify/XPathExpr$Function", "takesNodeSets", "()Z"⟩ : MethodName)) (z := (⟨"com/example/pico_notify/piconotify/XPathExpr$Function", "takesNodeSets", "()Z"⟩ : MethodName)) hown (mvT hZ (own_w hw 59 rfl)) (mvT hZ (own_w hw 60 rfl)) (notFace_of_selects (args := #[]) (mvT hZ (own_w hw 62 rfl))) (mvT hZ (own_w hw 62 rfl)) (mvT hZ (own_w hw 61 rfl)) (by decide) (backOf (W := 0) (rm_takes l Z a0 hw [] w15 w2 w23 w4 w5 w6 h108 n0 O109 S_COUNT S_SUM S_LOCAL_NAME S_NAMESPACE_URI S_NAME) hZ (own_w hw 63 rfl) (own_w hw 3 rfl) (by decide) (by decide)) q658a q658c (g := (mkF m 236 #[.val (.int p1), .val (.ref b1), .val (.int (15 : Int32)), .val (.ref w15), .val (.int (0 : Int32)), .unset] [(.ref w15)])) rfl (by rw [hml]; rfl) (Steps.refl _) (argsL := []) (rest := []) (lenOf pd_0 rfl) rfl (by show 2 * 0 + _ ≤ _; exact Nat.le_of_eq rfl) (hb hby at_236) (fun _ _ => ⟨rfl, e108, (by decide : 1 + 0 ≤ _), (by decide : 27 + 0 ≤ _)⟩)
    dsimp only [Pt.U, Pt.locs, Pt.cells, Pt.slots] at X658 l658 y658 z658 st658 hQ658
    rw [l658, y658, z658] at X658
    rcases hQ658 with ⟨c659, rfl, N660, k661⟩ | ⟨c662, c663, rfl, N664, k665⟩ | ⟨c666, c667, c668, rfl, N669, k670⟩ | ⟨c671, c672, c673, c674, rfl, N675, k676⟩ | ⟨c677, c678, c679, c680, c681, rfl, N682, k683⟩ | ⟨c684, c685, c686, c687, c688, rfl, N689, k690⟩
    · exact absurd c659 ((Fld.ne Fo_NORMALIZE_SPACE Fo_COUNT (by decide)) : ¬ (w15 = w2))
    · exact absurd c663 ((Fld.ne Fo_NORMALIZE_SPACE Fo_SUM (by decide)) : ¬ (w15 = w23))
    · exact absurd c668 ((Fld.ne Fo_NORMALIZE_SPACE Fo_LOCAL_NAME (by decide)) : ¬ (w15 = w4))
    · exact absurd c674 ((Fld.ne Fo_NORMALIZE_SPACE Fo_NAMESPACE_URI (by decide)) : ¬ (w15 = w5))
    · exact absurd c681 ((Fld.ne Fo_NORMALIZE_SPACE Fo_NAME (by decide)) : ¬ (w15 = w6))
    · have N691 := Fr.app N110 N689
      have S692 : ∀ t, Steps p.tables e below (T658.setTop (mkF m 266 #[.val (.int p1), .val (.ref b1), .val (.int (15 : Int32)), .val (.ref w15), .val (.int (0 : Int32)), .val (.int (0 : Int32))] [(.int (1 : Int32))])) t → Steps p.tables e below (s₁.setTop (mkF m 0 #[.val (.int p1), .unset, .unset, .unset, .unset, .unset] [])) t := by
        intro t kt
        refine S112 t ?_
        refine XS.istoreN X108.here hx rfl (hb hby at_196) rfl (l' := #[.val (.int p1), .val (.ref b1), .val (.int (15 : Int32)), .unset, .unset, .unset]) rfl ?_
        refine XS.aloadN X108.here hx rfl (hb hby at_197) rfl rfl ?_
        refine XS.iloadN X108.here hx rfl (hb hby at_198) rfl ?_
        show Steps p.tables e below (T108.setTop (mkF m 199 #[.val (.int p1), .val (.ref b1), .val (.int (15 : Int32)), .unset, .unset, .unset] [(.int (15 : Int32)), (.ref b1)])) _
        refine X108.aaload hx (j := (15 : Int32)) (v := (.ref w15)) (by rw [e108]; exact Ar657.1) (State.isArrayOf_alike hZ.alike Ar657.2.1) rfl Ar657.2.2 in657 at657 (g := (mkF m 199 #[.val (.int p1), .val (.ref b1), .val (.int (15 : Int32)), .unset, .unset, .unset] [(.int (15 : Int32)), (.ref b1)])) rfl rfl (hb hby at_199) _ ?_
        refine XS.astoreN X108.here hx rfl (hb hby at_200) rfl rfl (l' := #[.val (.int p1), .val (.ref b1), .val (.int (15 : Int32)), .val (.ref w15), .unset, .unset]) rfl ?_
        refine XS.iloadN X108.here hx rfl (hb hby at_201) rfl ?_
        refine XS.iconst X108.here hx rfl (hb hby at_202) ?_
        refine XS.icmpNo X108.here hx rfl (hb hby at_203) rfl (feq ((by decide) : ¬ ((15 : Int32) = (2 : Int32)))).1 ?_
        refine XS.iloadN X108.here hx rfl (hb hby at_206) rfl ?_
        show Steps p.tables e below (T108.setTop (mkF m 207 #[.val (.int p1), .val (.ref b1), .val (.int (15 : Int32)), .val (.ref w15), .unset, .unset] [(.int (15 : Int32))])) _
        refine XS.iconst X108.here hx rfl (hb hby at_207) ?_
        refine XS.icmpNo X108.here hx rfl (hb hby at_208) rfl (feq ((by decide) : ¬ ((15 : Int32) = (4 : Int32)))).1 ?_
        refine XS.iloadN X108.here hx rfl (hb hby at_211) rfl ?_
        refine XS.iconst X108.here hx rfl (hb hby at_212) ?_
        refine XS.icmpNo X108.here hx rfl (hb hby at_213) rfl (feq ((by decide) : ¬ ((15 : Int32) = (5 : Int32)))).1 ?_
        refine XS.iloadN X108.here hx rfl (hb hby at_216) rfl ?_
        show Steps p.tables e below (T108.setTop (mkF m 217 #[.val (.int p1), .val (.ref b1), .val (.int (15 : Int32)), .val (.ref w15), .unset, .unset] [(.int (15 : Int32))])) _
        refine XS.bipush X108.here hx rfl (hb hby at_217) ?_
        refine XS.icmpNo X108.here hx rfl (hb hby at_219) rfl (feq ((by decide) : ¬ ((15 : Int32) = (6 : Int32)))).1 ?_
        refine XS.iloadN X108.here hx rfl (hb hby at_222) rfl ?_
        refine XS.bipush X108.here hx rfl (hb hby at_223) ?_
        refine XS.icmpYes X108.here hx rfl (pc0 := 225) (pc' := 232) rfl (hb hby at_225) rfl (feq ((by decide) : ¬ ((15 : Int32) = (23 : Int32)))).2 (by decide) (by decide) ?_
        refine XS.iconst X108.here hx rfl (hb hby at_232) ?_
        show Steps p.tables e below (T108.setTop (mkF m 233 #[.val (.int p1), .val (.ref b1), .val (.int (15 : Int32)), .val (.ref w15), .unset, .unset] [(.int (0 : Int32))])) _
        refine XS.istore X108.here hx rfl (hb hby at_233) rfl (l' := #[.val (.int p1), .val (.ref b1), .val (.int (15 : Int32)), .val (.ref w15), .val (.int (0 : Int32)), .unset]) rfl ?_
        refine XS.aloadN X108.here hx rfl (hb hby at_235) rfl rfl ?_
        show Steps p.tables e below (T108.setTop (mkF m 236 #[.val (.int p1), .val (.ref b1), .val (.int (15 : Int32)), .val (.ref w15), .val (.int (0 : Int32)), .unset] [(.ref w15)])) _
        refine st658.trans ?_
        refine XS.istore X658.here hx rfl (hb hby at_239) rfl (l' := #[.val (.int p1), .val (.ref b1), .val (.int (15 : Int32)), .val (.ref w15), .val (.int (0 : Int32)), .val (.int (0 : Int32))]) rfl ?_
        refine XS.iload X658.here hx rfl (hb hby at_241) rfl ?_
        refine XS.iload X658.here hx rfl (hb hby at_243) rfl ?_
        refine XS.icmpNo X658.here hx rfl (hb hby at_245) rfl (teq ((by decide) : (0 : Int32) = (0 : Int32))).2 ?_
        refine XS.iload X658.here hx rfl (hb hby at_248) rfl ?_
        show Steps p.tables e below (T658.setTop (mkF m 250 #[.val (.int p1), .val (.ref b1), .val (.int (15 : Int32)), .val (.ref w15), .val (.int (0 : Int32)), .val (.int (0 : Int32))] [(.int (0 : Int32))])) _
        refine XS.ifYes X658.here hx rfl (pc0 := 250) (pc' := 261) rfl (hb hby at_250) rfl ((if0 _ _).trans (teq ((by decide) : (0 : Int32) = (0 : Int32))).1) (by decide) (by decide) ?_
        refine XS.iconst X658.here hx rfl (hb hby at_261) ?_
        refine XS.goto X658.here hx rfl (pc0 := 262) (pc' := 266) rfl (hb hby at_262) (by decide) (by decide) ?_
        exact kt
      obtain ⟨fs, hr, hrun, hended, hW, hsame⟩ := X658.leave (v := some (.int (1 : Int32))) (fun h => by rw [Bd.returns] at h; cases h)
      refine ⟨_, _, pre0 _ (S692 _ ?_), hrun, hended, _, _, rfl, ?_, ⟨_, rfl⟩, hW, hsame.mono (by decide) (by decide)⟩
      · exact retN X658 hx (t := .boolean) Bd.returns (by simp) (hb hby at_266) hr
      · show Q_rm_law Z p1 w0 w1 w2 w3 w4 w5 w6 w7 w8 w9 w10 w11 w12 w13 w14 w15 w16 w17 w18 w19 w20 w21 w22 w23 w24 w25 w26 h0 n0 _ T658.heap _
        rw [k690]
        exact ⟨rfl, N691⟩
  · obtain ⟨cl693, Ar693, q693, Sz693, Nn693, Hh693, Gg693⟩ := id F108
    have in693 : ¬ ((16 : Int32) < 0 ∨ cl693.slots.size ≤ ((16 : Int32)).toNatClampNeg) := by exact inb_of Sz693 ⟨by decide, by decide⟩
    have at693 : cl693.slots[((16 : Int32)).toNatClampNeg]? = some (.ref w16) := by
      refine Has.at Hh693 in693 ?_
      rfl
    obtain ⟨cq694, kq694, q694a, q694b, q694c⟩ := isOf hZ e108 (E_TRANSLATE.ext O109.2)
    obtain ⟨_, _, ⟨T694, L694, k694, n694⟩, -, X694, ⟨Lc694, hQ694, l694, y694, z694⟩, st694⟩ := X108.virtualBack hx (y := (⟨"com/example/pico_notify/piconotify/XPathExpr$Function", "takesNodeSets", "()Z"⟩ : MethodName)) (z := (⟨"com/example/pico_notify/piconotify/XPathExpr$Function", "takesNodeSets", "()Z"⟩ : MethodName)) hown (mvT hZ (own_w hw 59 rfl)) (mvT hZ (own_w hw 60 rfl)) (notFace_of_selects (args := #[]) (mvT hZ (own_w hw 62 rfl))) (mvT hZ (own_w hw 62 rfl)) (mvT hZ (own_w hw 61 rfl)) (by decide) (backOf (W := 0) (rm_takes l Z a0 hw [] w16 w2 w23 w4 w5 w6 h108 n0 O109 S_COUNT S_SUM S_LOCAL_NAME S_NAMESPACE_URI S_NAME) hZ (own_w hw 63 rfl) (own_w hw 3 rfl) (by decide) (by decide)) q694a q694c (g := (mkF m 236 #[.val (.int p1), .val (.ref b1), .val (.int (16 : Int32)), .val (.ref w16), .val (.int (0 : Int32)), .unset] [(.ref w16)])) rfl (by rw [hml]; rfl) (Steps.refl _) (argsL := []) (rest := []) (lenOf pd_0 rfl) rfl (by show 2 * 0 + _ ≤ _; exact Nat.le_of_eq rfl) (hb hby at_236) (fun _ _ => ⟨rfl, e108, (by decide : 1 + 0 ≤ _), (by decide : 27 + 0 ≤ _)⟩)
    dsimp only [Pt.U, Pt.locs, Pt.cells, Pt.slots] at X694 l694 y694 z694 st694 hQ694
    rw [l694, y694, z694] at X694
    rcases hQ694 with ⟨c695, rfl, N696, k697⟩ | ⟨c698, c699, rfl, N700, k701⟩ | ⟨c702, c703, c704, rfl, N705, k706⟩ | ⟨c707, c708, c709, c710, rfl, N711, k712⟩ | ⟨c713, c714, c715, c716, c717, rfl, N718, k719⟩ | ⟨c720, c721, c722, c723, c724, rfl, N725, k726⟩
    · exact absurd c695 ((Fld.ne Fo_TRANSLATE Fo_COUNT (by decide)) : ¬ (w16 = w2))
    · exact absurd c699 ((Fld.ne Fo_TRANSLATE Fo_SUM (by decide)) : ¬ (w16 = w23))
    · exact absurd c704 ((Fld.ne Fo_TRANSLATE Fo_LOCAL_NAME (by decide)) : ¬ (w16 = w4))
    · exact absurd c710 ((Fld.ne Fo_TRANSLATE Fo_NAMESPACE_URI (by decide)) : ¬ (w16 = w5))
    · exact absurd c717 ((Fld.ne Fo_TRANSLATE Fo_NAME (by decide)) : ¬ (w16 = w6))
    · have N727 := Fr.app N110 N725
      have S728 : ∀ t, Steps p.tables e below (T694.setTop (mkF m 266 #[.val (.int p1), .val (.ref b1), .val (.int (16 : Int32)), .val (.ref w16), .val (.int (0 : Int32)), .val (.int (0 : Int32))] [(.int (1 : Int32))])) t → Steps p.tables e below (s₁.setTop (mkF m 0 #[.val (.int p1), .unset, .unset, .unset, .unset, .unset] [])) t := by
        intro t kt
        refine S112 t ?_
        refine XS.istoreN X108.here hx rfl (hb hby at_196) rfl (l' := #[.val (.int p1), .val (.ref b1), .val (.int (16 : Int32)), .unset, .unset, .unset]) rfl ?_
        refine XS.aloadN X108.here hx rfl (hb hby at_197) rfl rfl ?_
        refine XS.iloadN X108.here hx rfl (hb hby at_198) rfl ?_
        show Steps p.tables e below (T108.setTop (mkF m 199 #[.val (.int p1), .val (.ref b1), .val (.int (16 : Int32)), .unset, .unset, .unset] [(.int (16 : Int32)), (.ref b1)])) _
        refine X108.aaload hx (j := (16 : Int32)) (v := (.ref w16)) (by rw [e108]; exact Ar693.1) (State.isArrayOf_alike hZ.alike Ar693.2.1) rfl Ar693.2.2 in693 at693 (g := (mkF m 199 #[.val (.int p1), .val (.ref b1), .val (.int (16 : Int32)), .unset, .unset, .unset] [(.int (16 : Int32)), (.ref b1)])) rfl rfl (hb hby at_199) _ ?_
        refine XS.astoreN X108.here hx rfl (hb hby at_200) rfl rfl (l' := #[.val (.int p1), .val (.ref b1), .val (.int (16 : Int32)), .val (.ref w16), .unset, .unset]) rfl ?_
        refine XS.iloadN X108.here hx rfl (hb hby at_201) rfl ?_
        refine XS.iconst X108.here hx rfl (hb hby at_202) ?_
        refine XS.icmpNo X108.here hx rfl (hb hby at_203) rfl (feq ((by decide) : ¬ ((16 : Int32) = (2 : Int32)))).1 ?_
        refine XS.iloadN X108.here hx rfl (hb hby at_206) rfl ?_
        show Steps p.tables e below (T108.setTop (mkF m 207 #[.val (.int p1), .val (.ref b1), .val (.int (16 : Int32)), .val (.ref w16), .unset, .unset] [(.int (16 : Int32))])) _
        refine XS.iconst X108.here hx rfl (hb hby at_207) ?_
        refine XS.icmpNo X108.here hx rfl (hb hby at_208) rfl (feq ((by decide) : ¬ ((16 : Int32) = (4 : Int32)))).1 ?_
        refine XS.iloadN X108.here hx rfl (hb hby at_211) rfl ?_
        refine XS.iconst X108.here hx rfl (hb hby at_212) ?_
        refine XS.icmpNo X108.here hx rfl (hb hby at_213) rfl (feq ((by decide) : ¬ ((16 : Int32) = (5 : Int32)))).1 ?_
        refine XS.iloadN X108.here hx rfl (hb hby at_216) rfl ?_
        show Steps p.tables e below (T108.setTop (mkF m 217 #[.val (.int p1), .val (.ref b1), .val (.int (16 : Int32)), .val (.ref w16), .unset, .unset] [(.int (16 : Int32))])) _
        refine XS.bipush X108.here hx rfl (hb hby at_217) ?_
        refine XS.icmpNo X108.here hx rfl (hb hby at_219) rfl (feq ((by decide) : ¬ ((16 : Int32) = (6 : Int32)))).1 ?_
        refine XS.iloadN X108.here hx rfl (hb hby at_222) rfl ?_
        refine XS.bipush X108.here hx rfl (hb hby at_223) ?_
        refine XS.icmpYes X108.here hx rfl (pc0 := 225) (pc' := 232) rfl (hb hby at_225) rfl (feq ((by decide) : ¬ ((16 : Int32) = (23 : Int32)))).2 (by decide) (by decide) ?_
        refine XS.iconst X108.here hx rfl (hb hby at_232) ?_
        show Steps p.tables e below (T108.setTop (mkF m 233 #[.val (.int p1), .val (.ref b1), .val (.int (16 : Int32)), .val (.ref w16), .unset, .unset] [(.int (0 : Int32))])) _
        refine XS.istore X108.here hx rfl (hb hby at_233) rfl (l' := #[.val (.int p1), .val (.ref b1), .val (.int (16 : Int32)), .val (.ref w16), .val (.int (0 : Int32)), .unset]) rfl ?_
        refine XS.aloadN X108.here hx rfl (hb hby at_235) rfl rfl ?_
        show Steps p.tables e below (T108.setTop (mkF m 236 #[.val (.int p1), .val (.ref b1), .val (.int (16 : Int32)), .val (.ref w16), .val (.int (0 : Int32)), .unset] [(.ref w16)])) _
        refine st694.trans ?_
        refine XS.istore X694.here hx rfl (hb hby at_239) rfl (l' := #[.val (.int p1), .val (.ref b1), .val (.int (16 : Int32)), .val (.ref w16), .val (.int (0 : Int32)), .val (.int (0 : Int32))]) rfl ?_
        refine XS.iload X694.here hx rfl (hb hby at_241) rfl ?_
        refine XS.iload X694.here hx rfl (hb hby at_243) rfl ?_
        refine XS.icmpNo X694.here hx rfl (hb hby at_245) rfl (teq ((by decide) : (0 : Int32) = (0 : Int32))).2 ?_
        refine XS.iload X694.here hx rfl (hb hby at_248) rfl ?_
        show Steps p.tables e below (T694.setTop (mkF m 250 #[.val (.int p1), .val (.ref b1), .val (.int (16 : Int32)), .val (.ref w16), .val (.int (0 : Int32)), .val (.int (0 : Int32))] [(.int (0 : Int32))])) _
        refine XS.ifYes X694.here hx rfl (pc0 := 250) (pc' := 261) rfl (hb hby at_250) rfl ((if0 _ _).trans (teq ((by decide) : (0 : Int32) = (0 : Int32))).1) (by decide) (by decide) ?_
        refine XS.iconst X694.here hx rfl (hb hby at_261) ?_
        refine XS.goto X694.here hx rfl (pc0 := 262) (pc' := 266) rfl (hb hby at_262) (by decide) (by decide) ?_
        exact kt
      obtain ⟨fs, hr, hrun, hended, hW, hsame⟩ := X694.leave (v := some (.int (1 : Int32))) (fun h => by rw [Bd.returns] at h; cases h)
      refine ⟨_, _, pre0 _ (S728 _ ?_), hrun, hended, _, _, rfl, ?_, ⟨_, rfl⟩, hW, hsame.mono (by decide) (by decide)⟩
      · exact retN X694 hx (t := .boolean) Bd.returns (by simp) (hb hby at_266) hr
      · show Q_rm_law Z p1 w0 w1 w2 w3 w4 w5 w6 w7 w8 w9 w10 w11 w12 w13 w14 w15 w16 w17 w18 w19 w20 w21 w22 w23 w24 w25 w26 h0 n0 _ T694.heap _
        rw [k726]
        exact ⟨rfl, N727⟩
  · obtain ⟨cl729, Ar729, q729, Sz729, Nn729, Hh729, Gg729⟩ := id F108
    have in729 : ¬ ((17 : Int32) < 0 ∨ cl729.slots.size ≤ ((17 : Int32)).toNatClampNeg) := by exact inb_of Sz729 ⟨by decide, by decide⟩
    have at729 : cl729.slots[((17 : Int32)).toNatClampNeg]? = some (.ref w17) := by
      refine Has.at Hh729 in729 ?_
      rfl
    obtain ⟨cq730, kq730, q730a, q730b, q730c⟩ := isOf hZ e108 (E_BOOLEAN.ext O109.2)
    obtain ⟨_, _, ⟨T730, L730, k730, n730⟩, -, X730, ⟨Lc730, hQ730, l730, y730, z730⟩, st730⟩ := X108.virtualBack hx (y := (⟨"com/example/pico_notify/piconotify/XPathExpr$Function", "takesNodeSets", "()Z"⟩ : MethodName)) (z := (⟨"com/example/pico_notify/piconotify/XPathExpr$Function", "takesNodeSets", "()Z"⟩ : MethodName)) hown (mvT hZ (own_w hw 59 rfl)) (mvT hZ (own_w hw 60 rfl)) (notFace_of_selects (args := #[]) (mvT hZ (own_w hw 62 rfl))) (mvT hZ (own_w hw 62 rfl)) (mvT hZ (own_w hw 61 rfl)) (by decide) (backOf (W := 0) (rm_takes l Z a0 hw [] w17 w2 w23 w4 w5 w6 h108 n0 O109 S_COUNT S_SUM S_LOCAL_NAME S_NAMESPACE_URI S_NAME) hZ (own_w hw 63 rfl) (own_w hw 3 rfl) (by decide) (by decide)) q730a q730c (g := (mkF m 236 #[.val (.int p1), .val (.ref b1), .val (.int (17 : Int32)), .val (.ref w17), .val (.int (0 : Int32)), .unset] [(.ref w17)])) rfl (by rw [hml]; rfl) (Steps.refl _) (argsL := []) (rest := []) (lenOf pd_0 rfl) rfl (by show 2 * 0 + _ ≤ _; exact Nat.le_of_eq rfl) (hb hby at_236) (fun _ _ => ⟨rfl, e108, (by decide : 1 + 0 ≤ _), (by decide : 27 + 0 ≤ _)⟩)
    dsimp only [Pt.U, Pt.locs, Pt.cells, Pt.slots] at X730 l730 y730 z730 st730 hQ730
    rw [l730, y730, z730] at X730
    rcases hQ730 with ⟨c731, rfl, N732, k733⟩ | ⟨c734, c735, rfl, N736, k737⟩ | ⟨c738, c739, c740, rfl, N741, k742⟩ | ⟨c743, c744, c745, c746, rfl, N747, k748⟩ | ⟨c749, c750, c751, c752, c753, rfl, N754, k755⟩ | ⟨c756, c757, c758, c759, c760, rfl, N761, k762⟩
    · exact absurd c731 ((Fld.ne Fo_BOOLEAN Fo_COUNT (by decide)) : ¬ (w17 = w2))
    · exact absurd c735 ((Fld.ne Fo_BOOLEAN Fo_SUM (by decide)) : ¬ (w17 = w23))
    · exact absurd c740 ((Fld.ne Fo_BOOLEAN Fo_LOCAL_NAME (by decide)) : ¬ (w17 = w4))
    · exact absurd c746 ((Fld.ne Fo_BOOLEAN Fo_NAMESPACE_URI (by decide)) : ¬ (w17 = w5))
    · exact absurd c753 ((Fld.ne Fo_BOOLEAN Fo_NAME (by decide)) : ¬ (w17 = w6))
    · have N763 := Fr.app N110 N761
      have S764 : ∀ t, Steps p.tables e below (T730.setTop (mkF m 266 #[.val (.int p1), .val (.ref b1), .val (.int (17 : Int32)), .val (.ref w17), .val (.int (0 : Int32)), .val (.int (0 : Int32))] [(.int (1 : Int32))])) t → Steps p.tables e below (s₁.setTop (mkF m 0 #[.val (.int p1), .unset, .unset, .unset, .unset, .unset] [])) t := by
        intro t kt
        refine S112 t ?_
        refine XS.istoreN X108.here hx rfl (hb hby at_196) rfl (l' := #[.val (.int p1), .val (.ref b1), .val (.int (17 : Int32)), .unset, .unset, .unset]) rfl ?_
        refine XS.aloadN X108.here hx rfl (hb hby at_197) rfl rfl ?_
        refine XS.iloadN X108.here hx rfl (hb hby at_198) rfl ?_
        show Steps p.tables e below (T108.setTop (mkF m 199 #[.val (.int p1), .val (.ref b1), .val (.int (17 : Int32)), .unset, .unset, .unset] [(.int (17 : Int32)), (.ref b1)])) _
        refine X108.aaload hx (j := (17 : Int32)) (v := (.ref w17)) (by rw [e108]; exact Ar729.1) (State.isArrayOf_alike hZ.alike Ar729.2.1) rfl Ar729.2.2 in729 at729 (g := (mkF m 199 #[.val (.int p1), .val (.ref b1), .val (.int (17 : Int32)), .unset, .unset, .unset] [(.int (17 : Int32)), (.ref b1)])) rfl rfl (hb hby at_199) _ ?_
        refine XS.astoreN X108.here hx rfl (hb hby at_200) rfl rfl (l' := #[.val (.int p1), .val (.ref b1), .val (.int (17 : Int32)), .val (.ref w17), .unset, .unset]) rfl ?_
        refine XS.iloadN X108.here hx rfl (hb hby at_201) rfl ?_
        refine XS.iconst X108.here hx rfl (hb hby at_202) ?_
        refine XS.icmpNo X108.here hx rfl (hb hby at_203) rfl (feq ((by decide) : ¬ ((17 : Int32) = (2 : Int32)))).1 ?_
        refine XS.iloadN X108.here hx rfl (hb hby at_206) rfl ?_
        show Steps p.tables e below (T108.setTop (mkF m 207 #[.val (.int p1), .val (.ref b1), .val (.int (17 : Int32)), .val (.ref w17), .unset, .unset] [(.int (17 : Int32))])) _
        refine XS.iconst X108.here hx rfl (hb hby at_207) ?_
        refine XS.icmpNo X108.here hx rfl (hb hby at_208) rfl (feq ((by decide) : ¬ ((17 : Int32) = (4 : Int32)))).1 ?_
        refine XS.iloadN X108.here hx rfl (hb hby at_211) rfl ?_
        refine XS.iconst X108.here hx rfl (hb hby at_212) ?_
        refine XS.icmpNo X108.here hx rfl (hb hby at_213) rfl (feq ((by decide) : ¬ ((17 : Int32) = (5 : Int32)))).1 ?_
        refine XS.iloadN X108.here hx rfl (hb hby at_216) rfl ?_
        show Steps p.tables e below (T108.setTop (mkF m 217 #[.val (.int p1), .val (.ref b1), .val (.int (17 : Int32)), .val (.ref w17), .unset, .unset] [(.int (17 : Int32))])) _
        refine XS.bipush X108.here hx rfl (hb hby at_217) ?_
        refine XS.icmpNo X108.here hx rfl (hb hby at_219) rfl (feq ((by decide) : ¬ ((17 : Int32) = (6 : Int32)))).1 ?_
        refine XS.iloadN X108.here hx rfl (hb hby at_222) rfl ?_
        refine XS.bipush X108.here hx rfl (hb hby at_223) ?_
        refine XS.icmpYes X108.here hx rfl (pc0 := 225) (pc' := 232) rfl (hb hby at_225) rfl (feq ((by decide) : ¬ ((17 : Int32) = (23 : Int32)))).2 (by decide) (by decide) ?_
        refine XS.iconst X108.here hx rfl (hb hby at_232) ?_
        show Steps p.tables e below (T108.setTop (mkF m 233 #[.val (.int p1), .val (.ref b1), .val (.int (17 : Int32)), .val (.ref w17), .unset, .unset] [(.int (0 : Int32))])) _
        refine XS.istore X108.here hx rfl (hb hby at_233) rfl (l' := #[.val (.int p1), .val (.ref b1), .val (.int (17 : Int32)), .val (.ref w17), .val (.int (0 : Int32)), .unset]) rfl ?_
        refine XS.aloadN X108.here hx rfl (hb hby at_235) rfl rfl ?_
        show Steps p.tables e below (T108.setTop (mkF m 236 #[.val (.int p1), .val (.ref b1), .val (.int (17 : Int32)), .val (.ref w17), .val (.int (0 : Int32)), .unset] [(.ref w17)])) _
        refine st730.trans ?_
        refine XS.istore X730.here hx rfl (hb hby at_239) rfl (l' := #[.val (.int p1), .val (.ref b1), .val (.int (17 : Int32)), .val (.ref w17), .val (.int (0 : Int32)), .val (.int (0 : Int32))]) rfl ?_
        refine XS.iload X730.here hx rfl (hb hby at_241) rfl ?_
        refine XS.iload X730.here hx rfl (hb hby at_243) rfl ?_
        refine XS.icmpNo X730.here hx rfl (hb hby at_245) rfl (teq ((by decide) : (0 : Int32) = (0 : Int32))).2 ?_
        refine XS.iload X730.here hx rfl (hb hby at_248) rfl ?_
        show Steps p.tables e below (T730.setTop (mkF m 250 #[.val (.int p1), .val (.ref b1), .val (.int (17 : Int32)), .val (.ref w17), .val (.int (0 : Int32)), .val (.int (0 : Int32))] [(.int (0 : Int32))])) _
        refine XS.ifYes X730.here hx rfl (pc0 := 250) (pc' := 261) rfl (hb hby at_250) rfl ((if0 _ _).trans (teq ((by decide) : (0 : Int32) = (0 : Int32))).1) (by decide) (by decide) ?_
        refine XS.iconst X730.here hx rfl (hb hby at_261) ?_
        refine XS.goto X730.here hx rfl (pc0 := 262) (pc' := 266) rfl (hb hby at_262) (by decide) (by decide) ?_
        exact kt
      obtain ⟨fs, hr, hrun, hended, hW, hsame⟩ := X730.leave (v := some (.int (1 : Int32))) (fun h => by rw [Bd.returns] at h; cases h)
      refine ⟨_, _, pre0 _ (S764 _ ?_), hrun, hended, _, _, rfl, ?_, ⟨_, rfl⟩, hW, hsame.mono (by decide) (by decide)⟩
      · exact retN X730 hx (t := .boolean) Bd.returns (by simp) (hb hby at_266) hr
      · show Q_rm_law Z p1 w0 w1 w2 w3 w4 w5 w6 w7 w8 w9 w10 w11 w12 w13 w14 w15 w16 w17 w18 w19 w20 w21 w22 w23 w24 w25 w26 h0 n0 _ T730.heap _
        rw [k762]
        exact ⟨rfl, N763⟩
  · obtain ⟨cl765, Ar765, q765, Sz765, Nn765, Hh765, Gg765⟩ := id F108
    have in765 : ¬ ((18 : Int32) < 0 ∨ cl765.slots.size ≤ ((18 : Int32)).toNatClampNeg) := by exact inb_of Sz765 ⟨by decide, by decide⟩
    have at765 : cl765.slots[((18 : Int32)).toNatClampNeg]? = some (.ref w18) := by
      refine Has.at Hh765 in765 ?_
      rfl
    obtain ⟨cq766, kq766, q766a, q766b, q766c⟩ := isOf hZ e108 (E_NOT.ext O109.2)
    obtain ⟨_, _, ⟨T766, L766, k766, n766⟩, -, X766, ⟨Lc766, hQ766, l766, y766, z766⟩, st766⟩ := X108.virtualBack hx (y := (⟨"com/example/pico_notify/piconotify/XPathExpr$Function", "takesNodeSets", "()Z"⟩ : MethodName)) (z := (⟨"com/example/pico_notify/piconotify/XPathExpr$Function", "takesNodeSets", "()Z"⟩ : MethodName)) hown (mvT hZ (own_w hw 59 rfl)) (mvT hZ (own_w hw 60 rfl)) (notFace_of_selects (args := #[]) (mvT hZ (own_w hw 62 rfl))) (mvT hZ (own_w hw 62 rfl)) (mvT hZ (own_w hw 61 rfl)) (by decide) (backOf (W := 0) (rm_takes l Z a0 hw [] w18 w2 w23 w4 w5 w6 h108 n0 O109 S_COUNT S_SUM S_LOCAL_NAME S_NAMESPACE_URI S_NAME) hZ (own_w hw 63 rfl) (own_w hw 3 rfl) (by decide) (by decide)) q766a q766c (g := (mkF m 236 #[.val (.int p1), .val (.ref b1), .val (.int (18 : Int32)), .val (.ref w18), .val (.int (0 : Int32)), .unset] [(.ref w18)])) rfl (by rw [hml]; rfl) (Steps.refl _) (argsL := []) (rest := []) (lenOf pd_0 rfl) rfl (by show 2 * 0 + _ ≤ _; exact Nat.le_of_eq rfl) (hb hby at_236) (fun _ _ => ⟨rfl, e108, (by decide : 1 + 0 ≤ _), (by decide : 27 + 0 ≤ _)⟩)
    dsimp only [Pt.U, Pt.locs, Pt.cells, Pt.slots] at X766 l766 y766 z766 st766 hQ766
    rw [l766, y766, z766] at X766
    rcases hQ766 with ⟨c767, rfl, N768, k769⟩ | ⟨c770, c771, rfl, N772, k773⟩ | ⟨c774, c775, c776, rfl, N777, k778⟩ | ⟨c779, c780, c781, c782, rfl, N783, k784⟩ | ⟨c785, c786, c787, c788, c789, rfl, N790, k791⟩ | ⟨c792, c793, c794, c795, c796, rfl, N797, k798⟩
    · exact absurd c767 ((Fld.ne Fo_NOT Fo_COUNT (by decide)) : ¬ (w18 = w2))
    · exact absurd c771 ((Fld.ne Fo_NOT Fo_SUM (by decide)) : ¬ (w18 = w23))
    · exact absurd c776 ((Fld.ne Fo_NOT Fo_LOCAL_NAME (by decide)) : ¬ (w18 = w4))
    · exact absurd c782 ((Fld.ne Fo_NOT Fo_NAMESPACE_URI (by decide)) : ¬ (w18 = w5))
    · exact absurd c789 ((Fld.ne Fo_NOT Fo_NAME (by decide)) : ¬ (w18 = w6))
    · have N799 := Fr.app N110 N797
      have S800 : ∀ t, Steps p.tables e below (T766.setTop (mkF m 266 #[.val (.int p1), .val (.ref b1), .val (.int (18 : Int32)), .val (.ref w18), .val (.int (0 : Int32)), .val (.int (0 : Int32))] [(.int (1 : Int32))])) t → Steps p.tables e below (s₁.setTop (mkF m 0 #[.val (.int p1), .unset, .unset, .unset, .unset, .unset] [])) t := by
        intro t kt
        refine S112 t ?_
        refine XS.istoreN X108.here hx rfl (hb hby at_196) rfl (l' := #[.val (.int p1), .val (.ref b1), .val (.int (18 : Int32)), .unset, .unset, .unset]) rfl ?_
        refine XS.aloadN X108.here hx rfl (hb hby at_197) rfl rfl ?_
        refine XS.iloadN X108.here hx rfl (hb hby at_198) rfl ?_
        show Steps p.tables e below (T108.setTop (mkF m 199 #[.val (.int p1), .val (.ref b1), .val (.int (18 : Int32)), .unset, .unset, .unset] [(.int (18 : Int32)), (.ref b1)])) _
        refine X108.aaload hx (j := (18 : Int32)) (v := (.ref w18)) (by rw [e108]; exact Ar765.1) (State.isArrayOf_alike hZ.alike Ar765.2.1) rfl Ar765.2.2 in765 at765 (g := (mkF m 199 #[.val (.int p1), .val (.ref b1), .val (.int (18 : Int32)), .unset, .unset, .unset] [(.int (18 : Int32)), (.ref b1)])) rfl rfl (hb hby at_199) _ ?_
        refine XS.astoreN X108.here hx rfl (hb hby at_200) rfl rfl (l' := #[.val (.int p1), .val (.ref b1), .val (.int (18 : Int32)), .val (.ref w18), .unset, .unset]) rfl ?_
        refine XS.iloadN X108.here hx rfl (hb hby at_201) rfl ?_
        refine XS.iconst X108.here hx rfl (hb hby at_202) ?_
        refine XS.icmpNo X108.here hx rfl (hb hby at_203) rfl (feq ((by decide) : ¬ ((18 : Int32) = (2 : Int32)))).1 ?_
        refine XS.iloadN X108.here hx rfl (hb hby at_206) rfl ?_
        show Steps p.tables e below (T108.setTop (mkF m 207 #[.val (.int p1), .val (.ref b1), .val (.int (18 : Int32)), .val (.ref w18), .unset, .unset] [(.int (18 : Int32))])) _
        refine XS.iconst X108.here hx rfl (hb hby at_207) ?_
        refine XS.icmpNo X108.here hx rfl (hb hby at_208) rfl (feq ((by decide) : ¬ ((18 : Int32) = (4 : Int32)))).1 ?_
        refine XS.iloadN X108.here hx rfl (hb hby at_211) rfl ?_
        refine XS.iconst X108.here hx rfl (hb hby at_212) ?_
        refine XS.icmpNo X108.here hx rfl (hb hby at_213) rfl (feq ((by decide) : ¬ ((18 : Int32) = (5 : Int32)))).1 ?_
        refine XS.iloadN X108.here hx rfl (hb hby at_216) rfl ?_
        show Steps p.tables e below (T108.setTop (mkF m 217 #[.val (.int p1), .val (.ref b1), .val (.int (18 : Int32)), .val (.ref w18), .unset, .unset] [(.int (18 : Int32))])) _
        refine XS.bipush X108.here hx rfl (hb hby at_217) ?_
        refine XS.icmpNo X108.here hx rfl (hb hby at_219) rfl (feq ((by decide) : ¬ ((18 : Int32) = (6 : Int32)))).1 ?_
        refine XS.iloadN X108.here hx rfl (hb hby at_222) rfl ?_
        refine XS.bipush X108.here hx rfl (hb hby at_223) ?_
        refine XS.icmpYes X108.here hx rfl (pc0 := 225) (pc' := 232) rfl (hb hby at_225) rfl (feq ((by decide) : ¬ ((18 : Int32) = (23 : Int32)))).2 (by decide) (by decide) ?_
        refine XS.iconst X108.here hx rfl (hb hby at_232) ?_
        show Steps p.tables e below (T108.setTop (mkF m 233 #[.val (.int p1), .val (.ref b1), .val (.int (18 : Int32)), .val (.ref w18), .unset, .unset] [(.int (0 : Int32))])) _
        refine XS.istore X108.here hx rfl (hb hby at_233) rfl (l' := #[.val (.int p1), .val (.ref b1), .val (.int (18 : Int32)), .val (.ref w18), .val (.int (0 : Int32)), .unset]) rfl ?_
        refine XS.aloadN X108.here hx rfl (hb hby at_235) rfl rfl ?_
        show Steps p.tables e below (T108.setTop (mkF m 236 #[.val (.int p1), .val (.ref b1), .val (.int (18 : Int32)), .val (.ref w18), .val (.int (0 : Int32)), .unset] [(.ref w18)])) _
        refine st766.trans ?_
        refine XS.istore X766.here hx rfl (hb hby at_239) rfl (l' := #[.val (.int p1), .val (.ref b1), .val (.int (18 : Int32)), .val (.ref w18), .val (.int (0 : Int32)), .val (.int (0 : Int32))]) rfl ?_
        refine XS.iload X766.here hx rfl (hb hby at_241) rfl ?_
        refine XS.iload X766.here hx rfl (hb hby at_243) rfl ?_
        refine XS.icmpNo X766.here hx rfl (hb hby at_245) rfl (teq ((by decide) : (0 : Int32) = (0 : Int32))).2 ?_
        refine XS.iload X766.here hx rfl (hb hby at_248) rfl ?_
        show Steps p.tables e below (T766.setTop (mkF m 250 #[.val (.int p1), .val (.ref b1), .val (.int (18 : Int32)), .val (.ref w18), .val (.int (0 : Int32)), .val (.int (0 : Int32))] [(.int (0 : Int32))])) _
        refine XS.ifYes X766.here hx rfl (pc0 := 250) (pc' := 261) rfl (hb hby at_250) rfl ((if0 _ _).trans (teq ((by decide) : (0 : Int32) = (0 : Int32))).1) (by decide) (by decide) ?_
        refine XS.iconst X766.here hx rfl (hb hby at_261) ?_
        refine XS.goto X766.here hx rfl (pc0 := 262) (pc' := 266) rfl (hb hby at_262) (by decide) (by decide) ?_
        exact kt
      obtain ⟨fs, hr, hrun, hended, hW, hsame⟩ := X766.leave (v := some (.int (1 : Int32))) (fun h => by rw [Bd.returns] at h; cases h)
      refine ⟨_, _, pre0 _ (S800 _ ?_), hrun, hended, _, _, rfl, ?_, ⟨_, rfl⟩, hW, hsame.mono (by decide) (by decide)⟩
      · exact retN X766 hx (t := .boolean) Bd.returns (by simp) (hb hby at_266) hr
      · show Q_rm_law Z p1 w0 w1 w2 w3 w4 w5 w6 w7 w8 w9 w10 w11 w12 w13 w14 w15 w16 w17 w18 w19 w20 w21 w22 w23 w24 w25 w26 h0 n0 _ T766.heap _
        rw [k798]
        exact ⟨rfl, N799⟩
  · obtain ⟨cl801, Ar801, q801, Sz801, Nn801, Hh801, Gg801⟩ := id F108
    have in801 : ¬ ((19 : Int32) < 0 ∨ cl801.slots.size ≤ ((19 : Int32)).toNatClampNeg) := by exact inb_of Sz801 ⟨by decide, by decide⟩
    have at801 : cl801.slots[((19 : Int32)).toNatClampNeg]? = some (.ref w19) := by
      refine Has.at Hh801 in801 ?_
      rfl
    obtain ⟨cq802, kq802, q802a, q802b, q802c⟩ := isOf hZ e108 (E_TRUE.ext O109.2)
    obtain ⟨_, _, ⟨T802, L802, k802, n802⟩, -, X802, ⟨Lc802, hQ802, l802, y802, z802⟩, st802⟩ := X108.virtualBack hx (y := (⟨"com/example/pico_notify/piconotify/XPathExpr$Function", "takesNodeSets", "()Z"⟩ : MethodName)) (z := (⟨"com/example/pico_notify/piconotify/XPathExpr$Function", "takesNodeSets", "()Z"⟩ : MethodName)) hown (mvT hZ (own_w hw 59 rfl)) (mvT hZ (own_w hw 60 rfl)) (notFace_of_selects (args := #[]) (mvT hZ (own_w hw 62 rfl))) (mvT hZ (own_w hw 62 rfl)) (mvT hZ (own_w hw 61 rfl)) (by decide) (backOf (W := 0) (rm_takes l Z a0 hw [] w19 w2 w23 w4 w5 w6 h108 n0 O109 S_COUNT S_SUM S_LOCAL_NAME S_NAMESPACE_URI S_NAME) hZ (own_w hw 63 rfl) (own_w hw 3 rfl) (by decide) (by decide)) q802a q802c (g := (mkF m 236 #[.val (.int p1), .val (.ref b1), .val (.int (19 : Int32)), .val (.ref w19), .val (.int (0 : Int32)), .unset] [(.ref w19)])) rfl (by rw [hml]; rfl) (Steps.refl _) (argsL := []) (rest := []) (lenOf pd_0 rfl) rfl (by show 2 * 0 + _ ≤ _; exact Nat.le_of_eq rfl) (hb hby at_236) (fun _ _ => ⟨rfl, e108, (by decide : 1 + 0 ≤ _), (by decide : 27 + 0 ≤ _)⟩)
    dsimp only [Pt.U, Pt.locs, Pt.cells, Pt.slots] at X802 l802 y802 z802 st802 hQ802
    rw [l802, y802, z802] at X802
    rcases hQ802 with ⟨c803, rfl, N804, k805⟩ | ⟨c806, c807, rfl, N808, k809⟩ | ⟨c810, c811, c812, rfl, N813, k814⟩ | ⟨c815, c816, c817, c818, rfl, N819, k820⟩ | ⟨c821, c822, c823, c824, c825, rfl, N826, k827⟩ | ⟨c828, c829, c830, c831, c832, rfl, N833, k834⟩
    · exact absurd c803 ((Fld.ne Fo_TRUE Fo_COUNT (by decide)) : ¬ (w19 = w2))
    · exact absurd c807 ((Fld.ne Fo_TRUE Fo_SUM (by decide)) : ¬ (w19 = w23))
    · exact absurd c812 ((Fld.ne Fo_TRUE Fo_LOCAL_NAME (by decide)) : ¬ (w19 = w4))
    · exact absurd c818 ((Fld.ne Fo_TRUE Fo_NAMESPACE_URI (by decide)) : ¬ (w19 = w5))
    · exact absurd c825 ((Fld.ne Fo_TRUE Fo_NAME (by decide)) : ¬ (w19 = w6))
    · have N835 := Fr.app N110 N833
      have S836 : ∀ t, Steps p.tables e below (T802.setTop (mkF m 266 #[.val (.int p1), .val (.ref b1), .val (.int (19 : Int32)), .val (.ref w19), .val (.int (0 : Int32)), .val (.int (0 : Int32))] [(.int (1 : Int32))])) t → Steps p.tables e below (s₁.setTop (mkF m 0 #[.val (.int p1), .unset, .unset, .unset, .unset, .unset] [])) t := by
        intro t kt
        refine S112 t ?_
        refine XS.istoreN X108.here hx rfl (hb hby at_196) rfl (l' := #[.val (.int p1), .val (.ref b1), .val (.int (19 : Int32)), .unset, .unset, .unset]) rfl ?_
        refine XS.aloadN X108.here hx rfl (hb hby at_197) rfl rfl ?_
        refine XS.iloadN X108.here hx rfl (hb hby at_198) rfl ?_
        show Steps p.tables e below (T108.setTop (mkF m 199 #[.val (.int p1), .val (.ref b1), .val (.int (19 : Int32)), .unset, .unset, .unset] [(.int (19 : Int32)), (.ref b1)])) _
        refine X108.aaload hx (j := (19 : Int32)) (v := (.ref w19)) (by rw [e108]; exact Ar801.1) (State.isArrayOf_alike hZ.alike Ar801.2.1) rfl Ar801.2.2 in801 at801 (g := (mkF m 199 #[.val (.int p1), .val (.ref b1), .val (.int (19 : Int32)), .unset, .unset, .unset] [(.int (19 : Int32)), (.ref b1)])) rfl rfl (hb hby at_199) _ ?_
        refine XS.astoreN X108.here hx rfl (hb hby at_200) rfl rfl (l' := #[.val (.int p1), .val (.ref b1), .val (.int (19 : Int32)), .val (.ref w19), .unset, .unset]) rfl ?_
        refine XS.iloadN X108.here hx rfl (hb hby at_201) rfl ?_
        refine XS.iconst X108.here hx rfl (hb hby at_202) ?_
        refine XS.icmpNo X108.here hx rfl (hb hby at_203) rfl (feq ((by decide) : ¬ ((19 : Int32) = (2 : Int32)))).1 ?_
        refine XS.iloadN X108.here hx rfl (hb hby at_206) rfl ?_
        show Steps p.tables e below (T108.setTop (mkF m 207 #[.val (.int p1), .val (.ref b1), .val (.int (19 : Int32)), .val (.ref w19), .unset, .unset] [(.int (19 : Int32))])) _
        refine XS.iconst X108.here hx rfl (hb hby at_207) ?_
        refine XS.icmpNo X108.here hx rfl (hb hby at_208) rfl (feq ((by decide) : ¬ ((19 : Int32) = (4 : Int32)))).1 ?_
        refine XS.iloadN X108.here hx rfl (hb hby at_211) rfl ?_
        refine XS.iconst X108.here hx rfl (hb hby at_212) ?_
        refine XS.icmpNo X108.here hx rfl (hb hby at_213) rfl (feq ((by decide) : ¬ ((19 : Int32) = (5 : Int32)))).1 ?_
        refine XS.iloadN X108.here hx rfl (hb hby at_216) rfl ?_
        show Steps p.tables e below (T108.setTop (mkF m 217 #[.val (.int p1), .val (.ref b1), .val (.int (19 : Int32)), .val (.ref w19), .unset, .unset] [(.int (19 : Int32))])) _
        refine XS.bipush X108.here hx rfl (hb hby at_217) ?_
        refine XS.icmpNo X108.here hx rfl (hb hby at_219) rfl (feq ((by decide) : ¬ ((19 : Int32) = (6 : Int32)))).1 ?_
        refine XS.iloadN X108.here hx rfl (hb hby at_222) rfl ?_
        refine XS.bipush X108.here hx rfl (hb hby at_223) ?_
        refine XS.icmpYes X108.here hx rfl (pc0 := 225) (pc' := 232) rfl (hb hby at_225) rfl (feq ((by decide) : ¬ ((19 : Int32) = (23 : Int32)))).2 (by decide) (by decide) ?_
        refine XS.iconst X108.here hx rfl (hb hby at_232) ?_
        show Steps p.tables e below (T108.setTop (mkF m 233 #[.val (.int p1), .val (.ref b1), .val (.int (19 : Int32)), .val (.ref w19), .unset, .unset] [(.int (0 : Int32))])) _
        refine XS.istore X108.here hx rfl (hb hby at_233) rfl (l' := #[.val (.int p1), .val (.ref b1), .val (.int (19 : Int32)), .val (.ref w19), .val (.int (0 : Int32)), .unset]) rfl ?_
        refine XS.aloadN X108.here hx rfl (hb hby at_235) rfl rfl ?_
        show Steps p.tables e below (T108.setTop (mkF m 236 #[.val (.int p1), .val (.ref b1), .val (.int (19 : Int32)), .val (.ref w19), .val (.int (0 : Int32)), .unset] [(.ref w19)])) _
        refine st802.trans ?_
        refine XS.istore X802.here hx rfl (hb hby at_239) rfl (l' := #[.val (.int p1), .val (.ref b1), .val (.int (19 : Int32)), .val (.ref w19), .val (.int (0 : Int32)), .val (.int (0 : Int32))]) rfl ?_
        refine XS.iload X802.here hx rfl (hb hby at_241) rfl ?_
        refine XS.iload X802.here hx rfl (hb hby at_243) rfl ?_
        refine XS.icmpNo X802.here hx rfl (hb hby at_245) rfl (teq ((by decide) : (0 : Int32) = (0 : Int32))).2 ?_
        refine XS.iload X802.here hx rfl (hb hby at_248) rfl ?_
        show Steps p.tables e below (T802.setTop (mkF m 250 #[.val (.int p1), .val (.ref b1), .val (.int (19 : Int32)), .val (.ref w19), .val (.int (0 : Int32)), .val (.int (0 : Int32))] [(.int (0 : Int32))])) _
        refine XS.ifYes X802.here hx rfl (pc0 := 250) (pc' := 261) rfl (hb hby at_250) rfl ((if0 _ _).trans (teq ((by decide) : (0 : Int32) = (0 : Int32))).1) (by decide) (by decide) ?_
        refine XS.iconst X802.here hx rfl (hb hby at_261) ?_
        refine XS.goto X802.here hx rfl (pc0 := 262) (pc' := 266) rfl (hb hby at_262) (by decide) (by decide) ?_
        exact kt
      obtain ⟨fs, hr, hrun, hended, hW, hsame⟩ := X802.leave (v := some (.int (1 : Int32))) (fun h => by rw [Bd.returns] at h; cases h)
      refine ⟨_, _, pre0 _ (S836 _ ?_), hrun, hended, _, _, rfl, ?_, ⟨_, rfl⟩, hW, hsame.mono (by decide) (by decide)⟩
      · exact retN X802 hx (t := .boolean) Bd.returns (by simp) (hb hby at_266) hr
      · show Q_rm_law Z p1 w0 w1 w2 w3 w4 w5 w6 w7 w8 w9 w10 w11 w12 w13 w14 w15 w16 w17 w18 w19 w20 w21 w22 w23 w24 w25 w26 h0 n0 _ T802.heap _
        rw [k834]
        exact ⟨rfl, N835⟩
  · obtain ⟨cl837, Ar837, q837, Sz837, Nn837, Hh837, Gg837⟩ := id F108
    have in837 : ¬ ((20 : Int32) < 0 ∨ cl837.slots.size ≤ ((20 : Int32)).toNatClampNeg) := by exact inb_of Sz837 ⟨by decide, by decide⟩
    have at837 : cl837.slots[((20 : Int32)).toNatClampNeg]? = some (.ref w20) := by
      refine Has.at Hh837 in837 ?_
      rfl
    obtain ⟨cq838, kq838, q838a, q838b, q838c⟩ := isOf hZ e108 (E_FALSE.ext O109.2)
    obtain ⟨_, _, ⟨T838, L838, k838, n838⟩, -, X838, ⟨Lc838, hQ838, l838, y838, z838⟩, st838⟩ := X108.virtualBack hx (y := (⟨"com/example/pico_notify/piconotify/XPathExpr$Function", "takesNodeSets", "()Z"⟩ : MethodName)) (z := (⟨"com/example/pico_notify/piconotify/XPathExpr$Function", "takesNodeSets", "()Z"⟩ : MethodName)) hown (mvT hZ (own_w hw 59 rfl)) (mvT hZ (own_w hw 60 rfl)) (notFace_of_selects (args := #[]) (mvT hZ (own_w hw 62 rfl))) (mvT hZ (own_w hw 62 rfl)) (mvT hZ (own_w hw 61 rfl)) (by decide) (backOf (W := 0) (rm_takes l Z a0 hw [] w20 w2 w23 w4 w5 w6 h108 n0 O109 S_COUNT S_SUM S_LOCAL_NAME S_NAMESPACE_URI S_NAME) hZ (own_w hw 63 rfl) (own_w hw 3 rfl) (by decide) (by decide)) q838a q838c (g := (mkF m 236 #[.val (.int p1), .val (.ref b1), .val (.int (20 : Int32)), .val (.ref w20), .val (.int (0 : Int32)), .unset] [(.ref w20)])) rfl (by rw [hml]; rfl) (Steps.refl _) (argsL := []) (rest := []) (lenOf pd_0 rfl) rfl (by show 2 * 0 + _ ≤ _; exact Nat.le_of_eq rfl) (hb hby at_236) (fun _ _ => ⟨rfl, e108, (by decide : 1 + 0 ≤ _), (by decide : 27 + 0 ≤ _)⟩)
    dsimp only [Pt.U, Pt.locs, Pt.cells, Pt.slots] at X838 l838 y838 z838 st838 hQ838
    rw [l838, y838, z838] at X838
    rcases hQ838 with ⟨c839, rfl, N840, k841⟩ | ⟨c842, c843, rfl, N844, k845⟩ | ⟨c846, c847, c848, rfl, N849, k850⟩ | ⟨c851, c852, c853, c854, rfl, N855, k856⟩ | ⟨c857, c858, c859, c860, c861, rfl, N862, k863⟩ | ⟨c864, c865, c866, c867, c868, rfl, N869, k870⟩
    · exact absurd c839 ((Fld.ne Fo_FALSE Fo_COUNT (by decide)) : ¬ (w20 = w2))
    · exact absurd c843 ((Fld.ne Fo_FALSE Fo_SUM (by decide)) : ¬ (w20 = w23))
    · exact absurd c848 ((Fld.ne Fo_FALSE Fo_LOCAL_NAME (by decide)) : ¬ (w20 = w4))
    · exact absurd c854 ((Fld.ne Fo_FALSE Fo_NAMESPACE_URI (by decide)) : ¬ (w20 = w5))
    · exact absurd c861 ((Fld.ne Fo_FALSE Fo_NAME (by decide)) : ¬ (w20 = w6))
    · have N871 := Fr.app N110 N869
      have S872 : ∀ t, Steps p.tables e below (T838.setTop (mkF m 266 #[.val (.int p1), .val (.ref b1), .val (.int (20 : Int32)), .val (.ref w20), .val (.int (0 : Int32)), .val (.int (0 : Int32))] [(.int (1 : Int32))])) t → Steps p.tables e below (s₁.setTop (mkF m 0 #[.val (.int p1), .unset, .unset, .unset, .unset, .unset] [])) t := by
        intro t kt
        refine S112 t ?_
        refine XS.istoreN X108.here hx rfl (hb hby at_196) rfl (l' := #[.val (.int p1), .val (.ref b1), .val (.int (20 : Int32)), .unset, .unset, .unset]) rfl ?_
        refine XS.aloadN X108.here hx rfl (hb hby at_197) rfl rfl ?_
        refine XS.iloadN X108.here hx rfl (hb hby at_198) rfl ?_
        show Steps p.tables e below (T108.setTop (mkF m 199 #[.val (.int p1), .val (.ref b1), .val (.int (20 : Int32)), .unset, .unset, .unset] [(.int (20 : Int32)), (.ref b1)])) _
        refine X108.aaload hx (j := (20 : Int32)) (v := (.ref w20)) (by rw [e108]; exact Ar837.1) (State.isArrayOf_alike hZ.alike Ar837.2.1) rfl Ar837.2.2 in837 at837 (g := (mkF m 199 #[.val (.int p1), .val (.ref b1), .val (.int (20 : Int32)), .unset, .unset, .unset] [(.int (20 : Int32)), (.ref b1)])) rfl rfl (hb hby at_199) _ ?_
        refine XS.astoreN X108.here hx rfl (hb hby at_200) rfl rfl (l' := #[.val (.int p1), .val (.ref b1), .val (.int (20 : Int32)), .val (.ref w20), .unset, .unset]) rfl ?_
        refine XS.iloadN X108.here hx rfl (hb hby at_201) rfl ?_
        refine XS.iconst X108.here hx rfl (hb hby at_202) ?_
        refine XS.icmpNo X108.here hx rfl (hb hby at_203) rfl (feq ((by decide) : ¬ ((20 : Int32) = (2 : Int32)))).1 ?_
        refine XS.iloadN X108.here hx rfl (hb hby at_206) rfl ?_
        show Steps p.tables e below (T108.setTop (mkF m 207 #[.val (.int p1), .val (.ref b1), .val (.int (20 : Int32)), .val (.ref w20), .unset, .unset] [(.int (20 : Int32))])) _
        refine XS.iconst X108.here hx rfl (hb hby at_207) ?_
        refine XS.icmpNo X108.here hx rfl (hb hby at_208) rfl (feq ((by decide) : ¬ ((20 : Int32) = (4 : Int32)))).1 ?_
        refine XS.iloadN X108.here hx rfl (hb hby at_211) rfl ?_
        refine XS.iconst X108.here hx rfl (hb hby at_212) ?_
        refine XS.icmpNo X108.here hx rfl (hb hby at_213) rfl (feq ((by decide) : ¬ ((20 : Int32) = (5 : Int32)))).1 ?_
        refine XS.iloadN X108.here hx rfl (hb hby at_216) rfl ?_
        show Steps p.tables e below (T108.setTop (mkF m 217 #[.val (.int p1), .val (.ref b1), .val (.int (20 : Int32)), .val (.ref w20), .unset, .unset] [(.int (20 : Int32))])) _
        refine XS.bipush X108.here hx rfl (hb hby at_217) ?_
        refine XS.icmpNo X108.here hx rfl (hb hby at_219) rfl (feq ((by decide) : ¬ ((20 : Int32) = (6 : Int32)))).1 ?_
        refine XS.iloadN X108.here hx rfl (hb hby at_222) rfl ?_
        refine XS.bipush X108.here hx rfl (hb hby at_223) ?_
        refine XS.icmpYes X108.here hx rfl (pc0 := 225) (pc' := 232) rfl (hb hby at_225) rfl (feq ((by decide) : ¬ ((20 : Int32) = (23 : Int32)))).2 (by decide) (by decide) ?_
        refine XS.iconst X108.here hx rfl (hb hby at_232) ?_
        show Steps p.tables e below (T108.setTop (mkF m 233 #[.val (.int p1), .val (.ref b1), .val (.int (20 : Int32)), .val (.ref w20), .unset, .unset] [(.int (0 : Int32))])) _
        refine XS.istore X108.here hx rfl (hb hby at_233) rfl (l' := #[.val (.int p1), .val (.ref b1), .val (.int (20 : Int32)), .val (.ref w20), .val (.int (0 : Int32)), .unset]) rfl ?_
        refine XS.aloadN X108.here hx rfl (hb hby at_235) rfl rfl ?_
        show Steps p.tables e below (T108.setTop (mkF m 236 #[.val (.int p1), .val (.ref b1), .val (.int (20 : Int32)), .val (.ref w20), .val (.int (0 : Int32)), .unset] [(.ref w20)])) _
        refine st838.trans ?_
        refine XS.istore X838.here hx rfl (hb hby at_239) rfl (l' := #[.val (.int p1), .val (.ref b1), .val (.int (20 : Int32)), .val (.ref w20), .val (.int (0 : Int32)), .val (.int (0 : Int32))]) rfl ?_
        refine XS.iload X838.here hx rfl (hb hby at_241) rfl ?_
        refine XS.iload X838.here hx rfl (hb hby at_243) rfl ?_
        refine XS.icmpNo X838.here hx rfl (hb hby at_245) rfl (teq ((by decide) : (0 : Int32) = (0 : Int32))).2 ?_
        refine XS.iload X838.here hx rfl (hb hby at_248) rfl ?_
        show Steps p.tables e below (T838.setTop (mkF m 250 #[.val (.int p1), .val (.ref b1), .val (.int (20 : Int32)), .val (.ref w20), .val (.int (0 : Int32)), .val (.int (0 : Int32))] [(.int (0 : Int32))])) _
        refine XS.ifYes X838.here hx rfl (pc0 := 250) (pc' := 261) rfl (hb hby at_250) rfl ((if0 _ _).trans (teq ((by decide) : (0 : Int32) = (0 : Int32))).1) (by decide) (by decide) ?_
        refine XS.iconst X838.here hx rfl (hb hby at_261) ?_
        refine XS.goto X838.here hx rfl (pc0 := 262) (pc' := 266) rfl (hb hby at_262) (by decide) (by decide) ?_
        exact kt
      obtain ⟨fs, hr, hrun, hended, hW, hsame⟩ := X838.leave (v := some (.int (1 : Int32))) (fun h => by rw [Bd.returns] at h; cases h)
      refine ⟨_, _, pre0 _ (S872 _ ?_), hrun, hended, _, _, rfl, ?_, ⟨_, rfl⟩, hW, hsame.mono (by decide) (by decide)⟩
      · exact retN X838 hx (t := .boolean) Bd.returns (by simp) (hb hby at_266) hr
      · show Q_rm_law Z p1 w0 w1 w2 w3 w4 w5 w6 w7 w8 w9 w10 w11 w12 w13 w14 w15 w16 w17 w18 w19 w20 w21 w22 w23 w24 w25 w26 h0 n0 _ T838.heap _
        rw [k870]
        exact ⟨rfl, N871⟩
  · obtain ⟨cl873, Ar873, q873, Sz873, Nn873, Hh873, Gg873⟩ := id F108
    have in873 : ¬ ((21 : Int32) < 0 ∨ cl873.slots.size ≤ ((21 : Int32)).toNatClampNeg) := by exact inb_of Sz873 ⟨by decide, by decide⟩
    have at873 : cl873.slots[((21 : Int32)).toNatClampNeg]? = some (.ref w21) := by
      refine Has.at Hh873 in873 ?_
      rfl
    obtain ⟨cq874, kq874, q874a, q874b, q874c⟩ := isOf hZ e108 (E_LANG.ext O109.2)
    obtain ⟨_, _, ⟨T874, L874, k874, n874⟩, -, X874, ⟨Lc874, hQ874, l874, y874, z874⟩, st874⟩ := X108.virtualBack hx (y := (⟨"com/example/pico_notify/piconotify/XPathExpr$Function", "takesNodeSets", "()Z"⟩ : MethodName)) (z := (⟨"com/example/pico_notify/piconotify/XPathExpr$Function", "takesNodeSets", "()Z"⟩ : MethodName)) hown (mvT hZ (own_w hw 59 rfl)) (mvT hZ (own_w hw 60 rfl)) (notFace_of_selects (args := #[]) (mvT hZ (own_w hw 62 rfl))) (mvT hZ (own_w hw 62 rfl)) (mvT hZ (own_w hw 61 rfl)) (by decide) (backOf (W := 0) (rm_takes l Z a0 hw [] w21 w2 w23 w4 w5 w6 h108 n0 O109 S_COUNT S_SUM S_LOCAL_NAME S_NAMESPACE_URI S_NAME) hZ (own_w hw 63 rfl) (own_w hw 3 rfl) (by decide) (by decide)) q874a q874c (g := (mkF m 236 #[.val (.int p1), .val (.ref b1), .val (.int (21 : Int32)), .val (.ref w21), .val (.int (0 : Int32)), .unset] [(.ref w21)])) rfl (by rw [hml]; rfl) (Steps.refl _) (argsL := []) (rest := []) (lenOf pd_0 rfl) rfl (by show 2 * 0 + _ ≤ _; exact Nat.le_of_eq rfl) (hb hby at_236) (fun _ _ => ⟨rfl, e108, (by decide : 1 + 0 ≤ _), (by decide : 27 + 0 ≤ _)⟩)
    dsimp only [Pt.U, Pt.locs, Pt.cells, Pt.slots] at X874 l874 y874 z874 st874 hQ874
    rw [l874, y874, z874] at X874
    rcases hQ874 with ⟨c875, rfl, N876, k877⟩ | ⟨c878, c879, rfl, N880, k881⟩ | ⟨c882, c883, c884, rfl, N885, k886⟩ | ⟨c887, c888, c889, c890, rfl, N891, k892⟩ | ⟨c893, c894, c895, c896, c897, rfl, N898, k899⟩ | ⟨c900, c901, c902, c903, c904, rfl, N905, k906⟩
    · exact absurd c875 ((Fld.ne Fo_LANG Fo_COUNT (by decide)) : ¬ (w21 = w2))
    · exact absurd c879 ((Fld.ne Fo_LANG Fo_SUM (by decide)) : ¬ (w21 = w23))
    · exact absurd c884 ((Fld.ne Fo_LANG Fo_LOCAL_NAME (by decide)) : ¬ (w21 = w4))
    · exact absurd c890 ((Fld.ne Fo_LANG Fo_NAMESPACE_URI (by decide)) : ¬ (w21 = w5))
    · exact absurd c897 ((Fld.ne Fo_LANG Fo_NAME (by decide)) : ¬ (w21 = w6))
    · have N907 := Fr.app N110 N905
      have S908 : ∀ t, Steps p.tables e below (T874.setTop (mkF m 266 #[.val (.int p1), .val (.ref b1), .val (.int (21 : Int32)), .val (.ref w21), .val (.int (0 : Int32)), .val (.int (0 : Int32))] [(.int (1 : Int32))])) t → Steps p.tables e below (s₁.setTop (mkF m 0 #[.val (.int p1), .unset, .unset, .unset, .unset, .unset] [])) t := by
        intro t kt
        refine S112 t ?_
        refine XS.istoreN X108.here hx rfl (hb hby at_196) rfl (l' := #[.val (.int p1), .val (.ref b1), .val (.int (21 : Int32)), .unset, .unset, .unset]) rfl ?_
        refine XS.aloadN X108.here hx rfl (hb hby at_197) rfl rfl ?_
        refine XS.iloadN X108.here hx rfl (hb hby at_198) rfl ?_
        show Steps p.tables e below (T108.setTop (mkF m 199 #[.val (.int p1), .val (.ref b1), .val (.int (21 : Int32)), .unset, .unset, .unset] [(.int (21 : Int32)), (.ref b1)])) _
        refine X108.aaload hx (j := (21 : Int32)) (v := (.ref w21)) (by rw [e108]; exact Ar873.1) (State.isArrayOf_alike hZ.alike Ar873.2.1) rfl Ar873.2.2 in873 at873 (g := (mkF m 199 #[.val (.int p1), .val (.ref b1), .val (.int (21 : Int32)), .unset, .unset, .unset] [(.int (21 : Int32)), (.ref b1)])) rfl rfl (hb hby at_199) _ ?_
        refine XS.astoreN X108.here hx rfl (hb hby at_200) rfl rfl (l' := #[.val (.int p1), .val (.ref b1), .val (.int (21 : Int32)), .val (.ref w21), .unset, .unset]) rfl ?_
        refine XS.iloadN X108.here hx rfl (hb hby at_201) rfl ?_
        refine XS.iconst X108.here hx rfl (hb hby at_202) ?_
        refine XS.icmpNo X108.here hx rfl (hb hby at_203) rfl (feq ((by decide) : ¬ ((21 : Int32) = (2 : Int32)))).1 ?_
        refine XS.iloadN X108.here hx rfl (hb hby at_206) rfl ?_
        show Steps p.tables e below (T108.setTop (mkF m 207 #[.val (.int p1), .val (.ref b1), .val (.int (21 : Int32)), .val (.ref w21), .unset, .unset] [(.int (21 : Int32))])) _
        refine XS.iconst X108.here hx rfl (hb hby at_207) ?_
        refine XS.icmpNo X108.here hx rfl (hb hby at_208) rfl (feq ((by decide) : ¬ ((21 : Int32) = (4 : Int32)))).1 ?_
        refine XS.iloadN X108.here hx rfl (hb hby at_211) rfl ?_
        refine XS.iconst X108.here hx rfl (hb hby at_212) ?_
        refine XS.icmpNo X108.here hx rfl (hb hby at_213) rfl (feq ((by decide) : ¬ ((21 : Int32) = (5 : Int32)))).1 ?_
        refine XS.iloadN X108.here hx rfl (hb hby at_216) rfl ?_
        show Steps p.tables e below (T108.setTop (mkF m 217 #[.val (.int p1), .val (.ref b1), .val (.int (21 : Int32)), .val (.ref w21), .unset, .unset] [(.int (21 : Int32))])) _
        refine XS.bipush X108.here hx rfl (hb hby at_217) ?_
        refine XS.icmpNo X108.here hx rfl (hb hby at_219) rfl (feq ((by decide) : ¬ ((21 : Int32) = (6 : Int32)))).1 ?_
        refine XS.iloadN X108.here hx rfl (hb hby at_222) rfl ?_
        refine XS.bipush X108.here hx rfl (hb hby at_223) ?_
        refine XS.icmpYes X108.here hx rfl (pc0 := 225) (pc' := 232) rfl (hb hby at_225) rfl (feq ((by decide) : ¬ ((21 : Int32) = (23 : Int32)))).2 (by decide) (by decide) ?_
        refine XS.iconst X108.here hx rfl (hb hby at_232) ?_
        show Steps p.tables e below (T108.setTop (mkF m 233 #[.val (.int p1), .val (.ref b1), .val (.int (21 : Int32)), .val (.ref w21), .unset, .unset] [(.int (0 : Int32))])) _
        refine XS.istore X108.here hx rfl (hb hby at_233) rfl (l' := #[.val (.int p1), .val (.ref b1), .val (.int (21 : Int32)), .val (.ref w21), .val (.int (0 : Int32)), .unset]) rfl ?_
        refine XS.aloadN X108.here hx rfl (hb hby at_235) rfl rfl ?_
        show Steps p.tables e below (T108.setTop (mkF m 236 #[.val (.int p1), .val (.ref b1), .val (.int (21 : Int32)), .val (.ref w21), .val (.int (0 : Int32)), .unset] [(.ref w21)])) _
        refine st874.trans ?_
        refine XS.istore X874.here hx rfl (hb hby at_239) rfl (l' := #[.val (.int p1), .val (.ref b1), .val (.int (21 : Int32)), .val (.ref w21), .val (.int (0 : Int32)), .val (.int (0 : Int32))]) rfl ?_
        refine XS.iload X874.here hx rfl (hb hby at_241) rfl ?_
        refine XS.iload X874.here hx rfl (hb hby at_243) rfl ?_
        refine XS.icmpNo X874.here hx rfl (hb hby at_245) rfl (teq ((by decide) : (0 : Int32) = (0 : Int32))).2 ?_
        refine XS.iload X874.here hx rfl (hb hby at_248) rfl ?_
        show Steps p.tables e below (T874.setTop (mkF m 250 #[.val (.int p1), .val (.ref b1), .val (.int (21 : Int32)), .val (.ref w21), .val (.int (0 : Int32)), .val (.int (0 : Int32))] [(.int (0 : Int32))])) _
        refine XS.ifYes X874.here hx rfl (pc0 := 250) (pc' := 261) rfl (hb hby at_250) rfl ((if0 _ _).trans (teq ((by decide) : (0 : Int32) = (0 : Int32))).1) (by decide) (by decide) ?_
        refine XS.iconst X874.here hx rfl (hb hby at_261) ?_
        refine XS.goto X874.here hx rfl (pc0 := 262) (pc' := 266) rfl (hb hby at_262) (by decide) (by decide) ?_
        exact kt
      obtain ⟨fs, hr, hrun, hended, hW, hsame⟩ := X874.leave (v := some (.int (1 : Int32))) (fun h => by rw [Bd.returns] at h; cases h)
      refine ⟨_, _, pre0 _ (S908 _ ?_), hrun, hended, _, _, rfl, ?_, ⟨_, rfl⟩, hW, hsame.mono (by decide) (by decide)⟩
      · exact retN X874 hx (t := .boolean) Bd.returns (by simp) (hb hby at_266) hr
      · show Q_rm_law Z p1 w0 w1 w2 w3 w4 w5 w6 w7 w8 w9 w10 w11 w12 w13 w14 w15 w16 w17 w18 w19 w20 w21 w22 w23 w24 w25 w26 h0 n0 _ T874.heap _
        rw [k906]
        exact ⟨rfl, N907⟩
  · obtain ⟨cl909, Ar909, q909, Sz909, Nn909, Hh909, Gg909⟩ := id F108
    have in909 : ¬ ((22 : Int32) < 0 ∨ cl909.slots.size ≤ ((22 : Int32)).toNatClampNeg) := by exact inb_of Sz909 ⟨by decide, by decide⟩
    have at909 : cl909.slots[((22 : Int32)).toNatClampNeg]? = some (.ref w22) := by
      refine Has.at Hh909 in909 ?_
      rfl
    obtain ⟨cq910, kq910, q910a, q910b, q910c⟩ := isOf hZ e108 (E_NUMBER.ext O109.2)
    obtain ⟨_, _, ⟨T910, L910, k910, n910⟩, -, X910, ⟨Lc910, hQ910, l910, y910, z910⟩, st910⟩ := X108.virtualBack hx (y := (⟨"com/example/pico_notify/piconotify/XPathExpr$Function", "takesNodeSets", "()Z"⟩ : MethodName)) (z := (⟨"com/example/pico_notify/piconotify/XPathExpr$Function", "takesNodeSets", "()Z"⟩ : MethodName)) hown (mvT hZ (own_w hw 59 rfl)) (mvT hZ (own_w hw 60 rfl)) (notFace_of_selects (args := #[]) (mvT hZ (own_w hw 62 rfl))) (mvT hZ (own_w hw 62 rfl)) (mvT hZ (own_w hw 61 rfl)) (by decide) (backOf (W := 0) (rm_takes l Z a0 hw [] w22 w2 w23 w4 w5 w6 h108 n0 O109 S_COUNT S_SUM S_LOCAL_NAME S_NAMESPACE_URI S_NAME) hZ (own_w hw 63 rfl) (own_w hw 3 rfl) (by decide) (by decide)) q910a q910c (g := (mkF m 236 #[.val (.int p1), .val (.ref b1), .val (.int (22 : Int32)), .val (.ref w22), .val (.int (0 : Int32)), .unset] [(.ref w22)])) rfl (by rw [hml]; rfl) (Steps.refl _) (argsL := []) (rest := []) (lenOf pd_0 rfl) rfl (by show 2 * 0 + _ ≤ _; exact Nat.le_of_eq rfl) (hb hby at_236) (fun _ _ => ⟨rfl, e108, (by decide : 1 + 0 ≤ _), (by decide : 27 + 0 ≤ _)⟩)
    dsimp only [Pt.U, Pt.locs, Pt.cells, Pt.slots] at X910 l910 y910 z910 st910 hQ910
    rw [l910, y910, z910] at X910
    rcases hQ910 with ⟨c911, rfl, N912, k913⟩ | ⟨c914, c915, rfl, N916, k917⟩ | ⟨c918, c919, c920, rfl, N921, k922⟩ | ⟨c923, c924, c925, c926, rfl, N927, k928⟩ | ⟨c929, c930, c931, c932, c933, rfl, N934, k935⟩ | ⟨c936, c937, c938, c939, c940, rfl, N941, k942⟩
    · exact absurd c911 ((Fld.ne Fo_NUMBER Fo_COUNT (by decide)) : ¬ (w22 = w2))
    · exact absurd c915 ((Fld.ne Fo_NUMBER Fo_SUM (by decide)) : ¬ (w22 = w23))
    · exact absurd c920 ((Fld.ne Fo_NUMBER Fo_LOCAL_NAME (by decide)) : ¬ (w22 = w4))
    · exact absurd c926 ((Fld.ne Fo_NUMBER Fo_NAMESPACE_URI (by decide)) : ¬ (w22 = w5))
    · exact absurd c933 ((Fld.ne Fo_NUMBER Fo_NAME (by decide)) : ¬ (w22 = w6))
    · have N943 := Fr.app N110 N941
      have S944 : ∀ t, Steps p.tables e below (T910.setTop (mkF m 266 #[.val (.int p1), .val (.ref b1), .val (.int (22 : Int32)), .val (.ref w22), .val (.int (0 : Int32)), .val (.int (0 : Int32))] [(.int (1 : Int32))])) t → Steps p.tables e below (s₁.setTop (mkF m 0 #[.val (.int p1), .unset, .unset, .unset, .unset, .unset] [])) t := by
        intro t kt
        refine S112 t ?_
        refine XS.istoreN X108.here hx rfl (hb hby at_196) rfl (l' := #[.val (.int p1), .val (.ref b1), .val (.int (22 : Int32)), .unset, .unset, .unset]) rfl ?_
        refine XS.aloadN X108.here hx rfl (hb hby at_197) rfl rfl ?_
        refine XS.iloadN X108.here hx rfl (hb hby at_198) rfl ?_
        show Steps p.tables e below (T108.setTop (mkF m 199 #[.val (.int p1), .val (.ref b1), .val (.int (22 : Int32)), .unset, .unset, .unset] [(.int (22 : Int32)), (.ref b1)])) _
        refine X108.aaload hx (j := (22 : Int32)) (v := (.ref w22)) (by rw [e108]; exact Ar909.1) (State.isArrayOf_alike hZ.alike Ar909.2.1) rfl Ar909.2.2 in909 at909 (g := (mkF m 199 #[.val (.int p1), .val (.ref b1), .val (.int (22 : Int32)), .unset, .unset, .unset] [(.int (22 : Int32)), (.ref b1)])) rfl rfl (hb hby at_199) _ ?_
        refine XS.astoreN X108.here hx rfl (hb hby at_200) rfl rfl (l' := #[.val (.int p1), .val (.ref b1), .val (.int (22 : Int32)), .val (.ref w22), .unset, .unset]) rfl ?_
        refine XS.iloadN X108.here hx rfl (hb hby at_201) rfl ?_
        refine XS.iconst X108.here hx rfl (hb hby at_202) ?_
        refine XS.icmpNo X108.here hx rfl (hb hby at_203) rfl (feq ((by decide) : ¬ ((22 : Int32) = (2 : Int32)))).1 ?_
        refine XS.iloadN X108.here hx rfl (hb hby at_206) rfl ?_
        show Steps p.tables e below (T108.setTop (mkF m 207 #[.val (.int p1), .val (.ref b1), .val (.int (22 : Int32)), .val (.ref w22), .unset, .unset] [(.int (22 : Int32))])) _
        refine XS.iconst X108.here hx rfl (hb hby at_207) ?_
        refine XS.icmpNo X108.here hx rfl (hb hby at_208) rfl (feq ((by decide) : ¬ ((22 : Int32) = (4 : Int32)))).1 ?_
        refine XS.iloadN X108.here hx rfl (hb hby at_211) rfl ?_
        refine XS.iconst X108.here hx rfl (hb hby at_212) ?_
        refine XS.icmpNo X108.here hx rfl (hb hby at_213) rfl (feq ((by decide) : ¬ ((22 : Int32) = (5 : Int32)))).1 ?_
        refine XS.iloadN X108.here hx rfl (hb hby at_216) rfl ?_
        show Steps p.tables e below (T108.setTop (mkF m 217 #[.val (.int p1), .val (.ref b1), .val (.int (22 : Int32)), .val (.ref w22), .unset, .unset] [(.int (22 : Int32))])) _
        refine XS.bipush X108.here hx rfl (hb hby at_217) ?_
        refine XS.icmpNo X108.here hx rfl (hb hby at_219) rfl (feq ((by decide) : ¬ ((22 : Int32) = (6 : Int32)))).1 ?_
        refine XS.iloadN X108.here hx rfl (hb hby at_222) rfl ?_
        refine XS.bipush X108.here hx rfl (hb hby at_223) ?_
        refine XS.icmpYes X108.here hx rfl (pc0 := 225) (pc' := 232) rfl (hb hby at_225) rfl (feq ((by decide) : ¬ ((22 : Int32) = (23 : Int32)))).2 (by decide) (by decide) ?_
        refine XS.iconst X108.here hx rfl (hb hby at_232) ?_
        show Steps p.tables e below (T108.setTop (mkF m 233 #[.val (.int p1), .val (.ref b1), .val (.int (22 : Int32)), .val (.ref w22), .unset, .unset] [(.int (0 : Int32))])) _
        refine XS.istore X108.here hx rfl (hb hby at_233) rfl (l' := #[.val (.int p1), .val (.ref b1), .val (.int (22 : Int32)), .val (.ref w22), .val (.int (0 : Int32)), .unset]) rfl ?_
        refine XS.aloadN X108.here hx rfl (hb hby at_235) rfl rfl ?_
        show Steps p.tables e below (T108.setTop (mkF m 236 #[.val (.int p1), .val (.ref b1), .val (.int (22 : Int32)), .val (.ref w22), .val (.int (0 : Int32)), .unset] [(.ref w22)])) _
        refine st910.trans ?_
        refine XS.istore X910.here hx rfl (hb hby at_239) rfl (l' := #[.val (.int p1), .val (.ref b1), .val (.int (22 : Int32)), .val (.ref w22), .val (.int (0 : Int32)), .val (.int (0 : Int32))]) rfl ?_
        refine XS.iload X910.here hx rfl (hb hby at_241) rfl ?_
        refine XS.iload X910.here hx rfl (hb hby at_243) rfl ?_
        refine XS.icmpNo X910.here hx rfl (hb hby at_245) rfl (teq ((by decide) : (0 : Int32) = (0 : Int32))).2 ?_
        refine XS.iload X910.here hx rfl (hb hby at_248) rfl ?_
        show Steps p.tables e below (T910.setTop (mkF m 250 #[.val (.int p1), .val (.ref b1), .val (.int (22 : Int32)), .val (.ref w22), .val (.int (0 : Int32)), .val (.int (0 : Int32))] [(.int (0 : Int32))])) _
        refine XS.ifYes X910.here hx rfl (pc0 := 250) (pc' := 261) rfl (hb hby at_250) rfl ((if0 _ _).trans (teq ((by decide) : (0 : Int32) = (0 : Int32))).1) (by decide) (by decide) ?_
        refine XS.iconst X910.here hx rfl (hb hby at_261) ?_
        refine XS.goto X910.here hx rfl (pc0 := 262) (pc' := 266) rfl (hb hby at_262) (by decide) (by decide) ?_
        exact kt
      obtain ⟨fs, hr, hrun, hended, hW, hsame⟩ := X910.leave (v := some (.int (1 : Int32))) (fun h => by rw [Bd.returns] at h; cases h)
      refine ⟨_, _, pre0 _ (S944 _ ?_), hrun, hended, _, _, rfl, ?_, ⟨_, rfl⟩, hW, hsame.mono (by decide) (by decide)⟩
      · exact retN X910 hx (t := .boolean) Bd.returns (by simp) (hb hby at_266) hr
      · show Q_rm_law Z p1 w0 w1 w2 w3 w4 w5 w6 w7 w8 w9 w10 w11 w12 w13 w14 w15 w16 w17 w18 w19 w20 w21 w22 w23 w24 w25 w26 h0 n0 _ T910.heap _
        rw [k942]
        exact ⟨rfl, N943⟩
  · obtain ⟨cl945, Ar945, q945, Sz945, Nn945, Hh945, Gg945⟩ := id F108
    have in945 : ¬ ((23 : Int32) < 0 ∨ cl945.slots.size ≤ ((23 : Int32)).toNatClampNeg) := by exact inb_of Sz945 ⟨by decide, by decide⟩
    have at945 : cl945.slots[((23 : Int32)).toNatClampNeg]? = some (.ref w23) := by
      refine Has.at Hh945 in945 ?_
      rfl
    obtain ⟨cq946, kq946, q946a, q946b, q946c⟩ := isOf hZ e108 (E_SUM.ext O109.2)
    obtain ⟨_, _, ⟨T946, L946, k946, n946⟩, -, X946, ⟨Lc946, hQ946, l946, y946, z946⟩, st946⟩ := X108.virtualBack hx (y := (⟨"com/example/pico_notify/piconotify/XPathExpr$Function", "takesNodeSets", "()Z"⟩ : MethodName)) (z := (⟨"com/example/pico_notify/piconotify/XPathExpr$Function", "takesNodeSets", "()Z"⟩ : MethodName)) hown (mvT hZ (own_w hw 59 rfl)) (mvT hZ (own_w hw 60 rfl)) (notFace_of_selects (args := #[]) (mvT hZ (own_w hw 62 rfl))) (mvT hZ (own_w hw 62 rfl)) (mvT hZ (own_w hw 61 rfl)) (by decide) (backOf (W := 0) (rm_takes l Z a0 hw [] w23 w2 w23 w4 w5 w6 h108 n0 O109 S_COUNT S_SUM S_LOCAL_NAME S_NAMESPACE_URI S_NAME) hZ (own_w hw 63 rfl) (own_w hw 3 rfl) (by decide) (by decide)) q946a q946c (g := (mkF m 236 #[.val (.int p1), .val (.ref b1), .val (.int (23 : Int32)), .val (.ref w23), .val (.int (1 : Int32)), .unset] [(.ref w23)])) rfl (by rw [hml]; rfl) (Steps.refl _) (argsL := []) (rest := []) (lenOf pd_0 rfl) rfl (by show 2 * 0 + _ ≤ _; exact Nat.le_of_eq rfl) (hb hby at_236) (fun _ _ => ⟨rfl, e108, (by decide : 1 + 0 ≤ _), (by decide : 27 + 0 ≤ _)⟩)
    dsimp only [Pt.U, Pt.locs, Pt.cells, Pt.slots] at X946 l946 y946 z946 st946 hQ946
    rw [l946, y946, z946] at X946
    rcases hQ946 with ⟨c947, rfl, N948, k949⟩ | ⟨c950, c951, rfl, N952, k953⟩ | ⟨c954, c955, c956, rfl, N957, k958⟩ | ⟨c959, c960, c961, c962, rfl, N963, k964⟩ | ⟨c965, c966, c967, c968, c969, rfl, N970, k971⟩ | ⟨c972, c973, c974, c975, c976, rfl, N977, k978⟩
    · exact absurd c947 ((Fld.ne Fo_SUM Fo_COUNT (by decide)) : ¬ (w23 = w2))
    · have N979 := Fr.app N110 N952
      obtain ⟨T980, X980, e980, st980⟩ := getF X946 hx hZ hown (host := "") (Or.inl (own_w hw 69 rfl)) Via.refl k953 (Fm_SUM.ext O109.2) (g := (mkF m 254 #[.val (.int p1), .val (.ref b1), .val (.int (23 : Int32)), .val (.ref w23), .val (.int (1 : Int32)), .val (.int (1 : Int32))] [(.ref w23)])) rfl rfl (hb hby at_254)
      have S981 : ∀ t, Steps p.tables e below (T980.setTop (mkF m 266 #[.val (.int p1), .val (.ref b1), .val (.int (23 : Int32)), .val (.ref w23), .val (.int (1 : Int32)), .val (.int (1 : Int32))] [(.int (1 : Int32))])) t → Steps p.tables e below (s₁.setTop (mkF m 0 #[.val (.int p1), .unset, .unset, .unset, .unset, .unset] [])) t := by
        intro t kt
        refine S112 t ?_
        refine XS.istoreN X108.here hx rfl (hb hby at_196) rfl (l' := #[.val (.int p1), .val (.ref b1), .val (.int (23 : Int32)), .unset, .unset, .unset]) rfl ?_
        refine XS.aloadN X108.here hx rfl (hb hby at_197) rfl rfl ?_
        refine XS.iloadN X108.here hx rfl (hb hby at_198) rfl ?_
        show Steps p.tables e below (T108.setTop (mkF m 199 #[.val (.int p1), .val (.ref b1), .val (.int (23 : Int32)), .unset, .unset, .unset] [(.int (23 : Int32)), (.ref b1)])) _
        refine X108.aaload hx (j := (23 : Int32)) (v := (.ref w23)) (by rw [e108]; exact Ar945.1) (State.isArrayOf_alike hZ.alike Ar945.2.1) rfl Ar945.2.2 in945 at945 (g := (mkF m 199 #[.val (.int p1), .val (.ref b1), .val (.int (23 : Int32)), .unset, .unset, .unset] [(.int (23 : Int32)), (.ref b1)])) rfl rfl (hb hby at_199) _ ?_
        refine XS.astoreN X108.here hx rfl (hb hby at_200) rfl rfl (l' := #[.val (.int p1), .val (.ref b1), .val (.int (23 : Int32)), .val (.ref w23), .unset, .unset]) rfl ?_
        refine XS.iloadN X108.here hx rfl (hb hby at_201) rfl ?_
        refine XS.iconst X108.here hx rfl (hb hby at_202) ?_
        refine XS.icmpNo X108.here hx rfl (hb hby at_203) rfl (feq ((by decide) : ¬ ((23 : Int32) = (2 : Int32)))).1 ?_
        refine XS.iloadN X108.here hx rfl (hb hby at_206) rfl ?_
        show Steps p.tables e below (T108.setTop (mkF m 207 #[.val (.int p1), .val (.ref b1), .val (.int (23 : Int32)), .val (.ref w23), .unset, .unset] [(.int (23 : Int32))])) _
        refine XS.iconst X108.here hx rfl (hb hby at_207) ?_
        refine XS.icmpNo X108.here hx rfl (hb hby at_208) rfl (feq ((by decide) : ¬ ((23 : Int32) = (4 : Int32)))).1 ?_
        refine XS.iloadN X108.here hx rfl (hb hby at_211) rfl ?_
        refine XS.iconst X108.here hx rfl (hb hby at_212) ?_
        refine XS.icmpNo X108.here hx rfl (hb hby at_213) rfl (feq ((by decide) : ¬ ((23 : Int32) = (5 : Int32)))).1 ?_
        refine XS.iloadN X108.here hx rfl (hb hby at_216) rfl ?_
        show Steps p.tables e below (T108.setTop (mkF m 217 #[.val (.int p1), .val (.ref b1), .val (.int (23 : Int32)), .val (.ref w23), .unset, .unset] [(.int (23 : Int32))])) _
        refine XS.bipush X108.here hx rfl (hb hby at_217) ?_
        refine XS.icmpNo X108.here hx rfl (hb hby at_219) rfl (feq ((by decide) : ¬ ((23 : Int32) = (6 : Int32)))).1 ?_
        refine XS.iloadN X108.here hx rfl (hb hby at_222) rfl ?_
        refine XS.bipush X108.here hx rfl (hb hby at_223) ?_
        refine XS.icmpNo X108.here hx rfl (hb hby at_225) rfl (teq ((by decide) : (23 : Int32) = (23 : Int32))).2 ?_
        refine XS.iconst X108.here hx rfl (hb hby at_228) ?_
        show Steps p.tables e below (T108.setTop (mkF m 229 #[.val (.int p1), .val (.ref b1), .val (.int (23 : Int32)), .val (.ref w23), .unset, .unset] [(.int (1 : Int32))])) _
        refine XS.goto X108.here hx rfl (pc0 := 229) (pc' := 233) rfl (hb hby at_229) (by decide) (by decide) ?_
        refine XS.istore X108.here hx rfl (hb hby at_233) rfl (l' := #[.val (.int p1), .val (.ref b1), .val (.int (23 : Int32)), .val (.ref w23), .val (.int (1 : Int32)), .unset]) rfl ?_
        refine XS.aloadN X108.here hx rfl (hb hby at_235) rfl rfl ?_
        show Steps p.tables e below (T108.setTop (mkF m 236 #[.val (.int p1), .val (.ref b1), .val (.int (23 : Int32)), .val (.ref w23), .val (.int (1 : Int32)), .unset] [(.ref w23)])) _
        refine st946.trans ?_
        refine XS.istore X946.here hx rfl (hb hby at_239) rfl (l' := #[.val (.int p1), .val (.ref b1), .val (.int (23 : Int32)), .val (.ref w23), .val (.int (1 : Int32)), .val (.int (1 : Int32))]) rfl ?_
        refine XS.iload X946.here hx rfl (hb hby at_241) rfl ?_
        refine XS.iload X946.here hx rfl (hb hby at_243) rfl ?_
        refine XS.icmpNo X946.here hx rfl (hb hby at_245) rfl (teq ((by decide) : (1 : Int32) = (1 : Int32))).2 ?_
        refine XS.iload X946.here hx rfl (hb hby at_248) rfl ?_
        show Steps p.tables e below (T946.setTop (mkF m 250 #[.val (.int p1), .val (.ref b1), .val (.int (23 : Int32)), .val (.ref w23), .val (.int (1 : Int32)), .val (.int (1 : Int32))] [(.int (1 : Int32))])) _
        refine XS.ifNo X946.here hx rfl (hb hby at_250) rfl ((if0 _ _).trans (feq ((by decide) : ¬ ((1 : Int32) = (0 : Int32)))).1) ?_
        refine XS.aloadN X946.here hx rfl (hb hby at_253) rfl rfl ?_
        show Steps p.tables e below (T946.setTop (mkF m 254 #[.val (.int p1), .val (.ref b1), .val (.int (23 : Int32)), .val (.ref w23), .val (.int (1 : Int32)), .val (.int (1 : Int32))] [(.ref w23)])) _
        refine st980 _ ?_
        refine XS.iconst X980.here hx rfl (hb hby at_257) ?_
        refine XS.icmpNo X980.here hx rfl (hb hby at_258) rfl (teq ((by decide) : (1 : Int32) = (1 : Int32))).2 ?_
        refine XS.iconst X980.here hx rfl (hb hby at_261) ?_
        refine XS.goto X980.here hx rfl (pc0 := 262) (pc' := 266) rfl (hb hby at_262) (by decide) (by decide) ?_
        exact kt
      obtain ⟨fs, hr, hrun, hended, hW, hsame⟩ := X980.leave (v := some (.int (1 : Int32))) (fun h => by rw [Bd.returns] at h; cases h)
      refine ⟨_, _, pre0 _ (S981 _ ?_), hrun, hended, _, _, rfl, ?_, ⟨_, rfl⟩, hW, hsame.mono (by decide) (by decide)⟩
      · exact retN X980 hx (t := .boolean) Bd.returns (by simp) (hb hby at_266) hr
      · show Q_rm_law Z p1 w0 w1 w2 w3 w4 w5 w6 w7 w8 w9 w10 w11 w12 w13 w14 w15 w16 w17 w18 w19 w20 w21 w22 w23 w24 w25 w26 h0 n0 _ T980.heap _
        rw [e980]
        exact ⟨rfl, N979⟩
    · exact absurd (rfl : w23 = w23) c955
    · exact absurd (rfl : w23 = w23) c960
    · exact absurd (rfl : w23 = w23) c966
    · exact absurd (rfl : w23 = w23) c973
  · obtain ⟨cl982, Ar982, q982, Sz982, Nn982, Hh982, Gg982⟩ := id F108
    have in982 : ¬ ((24 : Int32) < 0 ∨ cl982.slots.size ≤ ((24 : Int32)).toNatClampNeg) := by exact inb_of Sz982 ⟨by decide, by decide⟩
    have at982 : cl982.slots[((24 : Int32)).toNatClampNeg]? = some (.ref w24) := by
      refine Has.at Hh982 in982 ?_
      rfl
    obtain ⟨cq983, kq983, q983a, q983b, q983c⟩ := isOf hZ e108 (E_FLOOR.ext O109.2)
    obtain ⟨_, _, ⟨T983, L983, k983, n983⟩, -, X983, ⟨Lc983, hQ983, l983, y983, z983⟩, st983⟩ := X108.virtualBack hx (y := (⟨"com/example/pico_notify/piconotify/XPathExpr$Function", "takesNodeSets", "()Z"⟩ : MethodName)) (z := (⟨"com/example/pico_notify/piconotify/XPathExpr$Function", "takesNodeSets", "()Z"⟩ : MethodName)) hown (mvT hZ (own_w hw 59 rfl)) (mvT hZ (own_w hw 60 rfl)) (notFace_of_selects (args := #[]) (mvT hZ (own_w hw 62 rfl))) (mvT hZ (own_w hw 62 rfl)) (mvT hZ (own_w hw 61 rfl)) (by decide) (backOf (W := 0) (rm_takes l Z a0 hw [] w24 w2 w23 w4 w5 w6 h108 n0 O109 S_COUNT S_SUM S_LOCAL_NAME S_NAMESPACE_URI S_NAME) hZ (own_w hw 63 rfl) (own_w hw 3 rfl) (by decide) (by decide)) q983a q983c (g := (mkF m 236 #[.val (.int p1), .val (.ref b1), .val (.int (24 : Int32)), .val (.ref w24), .val (.int (0 : Int32)), .unset] [(.ref w24)])) rfl (by rw [hml]; rfl) (Steps.refl _) (argsL := []) (rest := []) (lenOf pd_0 rfl) rfl (by show 2 * 0 + _ ≤ _; exact Nat.le_of_eq rfl) (hb hby at_236) (fun _ _ => ⟨rfl, e108, (by decide : 1 + 0 ≤ _), (by decide : 27 + 0 ≤ _)⟩)
    dsimp only [Pt.U, Pt.locs, Pt.cells, Pt.slots] at X983 l983 y983 z983 st983 hQ983
    rw [l983, y983, z983] at X983
    rcases hQ983 with ⟨c984, rfl, N985, k986⟩ | ⟨c987, c988, rfl, N989, k990⟩ | ⟨c991, c992, c993, rfl, N994, k995⟩ | ⟨c996, c997, c998, c999, rfl, N1000, k1001⟩ | ⟨c1002, c1003, c1004, c1005, c1006, rfl, N1007, k1008⟩ | ⟨c1009, c1010, c1011, c1012, c1013, rfl, N1014, k1015⟩
    · exact absurd c984 ((Fld.ne Fo_FLOOR Fo_COUNT (by decide)) : ¬ (w24 = w2))
    · exact absurd c988 ((Fld.ne Fo_FLOOR Fo_SUM (by decide)) : ¬ (w24 = w23))
    · exact absurd c993 ((Fld.ne Fo_FLOOR Fo_LOCAL_NAME (by decide)) : ¬ (w24 = w4))
    · exact absurd c999 ((Fld.ne Fo_FLOOR Fo_NAMESPACE_URI (by decide)) : ¬ (w24 = w5))
    · exact absurd c1006 ((Fld.ne Fo_FLOOR Fo_NAME (by decide)) : ¬ (w24 = w6))
    · have N1016 := Fr.app N110 N1014
      have S1017 : ∀ t, Steps p.tables e below (T983.setTop (mkF m 266 #[.val (.int p1), .val (.ref b1), .val (.int (24 : Int32)), .val (.ref w24), .val (.int (0 : Int32)), .val (.int (0 : Int32))] [(.int (1 : Int32))])) t → Steps p.tables e below (s₁.setTop (mkF m 0 #[.val (.int p1), .unset, .unset, .unset, .unset, .unset] [])) t := by
        intro t kt
        refine S112 t ?_
        refine XS.istoreN X108.here hx rfl (hb hby at_196) rfl (l' := #[.val (.int p1), .val (.ref b1), .val (.int (24 : Int32)), .unset, .unset, .unset]) rfl ?_
        refine XS.aloadN X108.here hx rfl (hb hby at_197) rfl rfl ?_
        refine XS.iloadN X108.here hx rfl (hb hby at_198) rfl ?_
        show Steps p.tables e below (T108.setTop (mkF m 199 #[.val (.int p1), .val (.ref b1), .val (.int (24 : Int32)), .unset, .unset, .unset] [(.int (24 : Int32)), (.ref b1)])) _
        refine X108.aaload hx (j := (24 : Int32)) (v := (.ref w24)) (by rw [e108]; exact Ar982.1) (State.isArrayOf_alike hZ.alike Ar982.2.1) rfl Ar982.2.2 in982 at982 (g := (mkF m 199 #[.val (.int p1), .val (.ref b1), .val (.int (24 : Int32)), .unset, .unset, .unset] [(.int (24 : Int32)), (.ref b1)])) rfl rfl (hb hby at_199) _ ?_
        refine XS.astoreN X108.here hx rfl (hb hby at_200) rfl rfl (l' := #[.val (.int p1), .val (.ref b1), .val (.int (24 : Int32)), .val (.ref w24), .unset, .unset]) rfl ?_
        refine XS.iloadN X108.here hx rfl (hb hby at_201) rfl ?_
        refine XS.iconst X108.here hx rfl (hb hby at_202) ?_
        refine XS.icmpNo X108.here hx rfl (hb hby at_203) rfl (feq ((by decide) : ¬ ((24 : Int32) = (2 : Int32)))).1 ?_
        refine XS.iloadN X108.here hx rfl (hb hby at_206) rfl ?_
        show Steps p.tables e below (T108.setTop (mkF m 207 #[.val (.int p1), .val (.ref b1), .val (.int (24 : Int32)), .val (.ref w24), .unset, .unset] [(.int (24 : Int32))])) _
        refine XS.iconst X108.here hx rfl (hb hby at_207) ?_
        refine XS.icmpNo X108.here hx rfl (hb hby at_208) rfl (feq ((by decide) : ¬ ((24 : Int32) = (4 : Int32)))).1 ?_
        refine XS.iloadN X108.here hx rfl (hb hby at_211) rfl ?_
        refine XS.iconst X108.here hx rfl (hb hby at_212) ?_
        refine XS.icmpNo X108.here hx rfl (hb hby at_213) rfl (feq ((by decide) : ¬ ((24 : Int32) = (5 : Int32)))).1 ?_
        refine XS.iloadN X108.here hx rfl (hb hby at_216) rfl ?_
        show Steps p.tables e below (T108.setTop (mkF m 217 #[.val (.int p1), .val (.ref b1), .val (.int (24 : Int32)), .val (.ref w24), .unset, .unset] [(.int (24 : Int32))])) _
        refine XS.bipush X108.here hx rfl (hb hby at_217) ?_
        refine XS.icmpNo X108.here hx rfl (hb hby at_219) rfl (feq ((by decide) : ¬ ((24 : Int32) = (6 : Int32)))).1 ?_
        refine XS.iloadN X108.here hx rfl (hb hby at_222) rfl ?_
        refine XS.bipush X108.here hx rfl (hb hby at_223) ?_
        refine XS.icmpYes X108.here hx rfl (pc0 := 225) (pc' := 232) rfl (hb hby at_225) rfl (feq ((by decide) : ¬ ((24 : Int32) = (23 : Int32)))).2 (by decide) (by decide) ?_
        refine XS.iconst X108.here hx rfl (hb hby at_232) ?_
        show Steps p.tables e below (T108.setTop (mkF m 233 #[.val (.int p1), .val (.ref b1), .val (.int (24 : Int32)), .val (.ref w24), .unset, .unset] [(.int (0 : Int32))])) _
        refine XS.istore X108.here hx rfl (hb hby at_233) rfl (l' := #[.val (.int p1), .val (.ref b1), .val (.int (24 : Int32)), .val (.ref w24), .val (.int (0 : Int32)), .unset]) rfl ?_
        refine XS.aloadN X108.here hx rfl (hb hby at_235) rfl rfl ?_
        show Steps p.tables e below (T108.setTop (mkF m 236 #[.val (.int p1), .val (.ref b1), .val (.int (24 : Int32)), .val (.ref w24), .val (.int (0 : Int32)), .unset] [(.ref w24)])) _
        refine st983.trans ?_
        refine XS.istore X983.here hx rfl (hb hby at_239) rfl (l' := #[.val (.int p1), .val (.ref b1), .val (.int (24 : Int32)), .val (.ref w24), .val (.int (0 : Int32)), .val (.int (0 : Int32))]) rfl ?_
        refine XS.iload X983.here hx rfl (hb hby at_241) rfl ?_
        refine XS.iload X983.here hx rfl (hb hby at_243) rfl ?_
        refine XS.icmpNo X983.here hx rfl (hb hby at_245) rfl (teq ((by decide) : (0 : Int32) = (0 : Int32))).2 ?_
        refine XS.iload X983.here hx rfl (hb hby at_248) rfl ?_
        show Steps p.tables e below (T983.setTop (mkF m 250 #[.val (.int p1), .val (.ref b1), .val (.int (24 : Int32)), .val (.ref w24), .val (.int (0 : Int32)), .val (.int (0 : Int32))] [(.int (0 : Int32))])) _
        refine XS.ifYes X983.here hx rfl (pc0 := 250) (pc' := 261) rfl (hb hby at_250) rfl ((if0 _ _).trans (teq ((by decide) : (0 : Int32) = (0 : Int32))).1) (by decide) (by decide) ?_
        refine XS.iconst X983.here hx rfl (hb hby at_261) ?_
        refine XS.goto X983.here hx rfl (pc0 := 262) (pc' := 266) rfl (hb hby at_262) (by decide) (by decide) ?_
        exact kt
      obtain ⟨fs, hr, hrun, hended, hW, hsame⟩ := X983.leave (v := some (.int (1 : Int32))) (fun h => by rw [Bd.returns] at h; cases h)
      refine ⟨_, _, pre0 _ (S1017 _ ?_), hrun, hended, _, _, rfl, ?_, ⟨_, rfl⟩, hW, hsame.mono (by decide) (by decide)⟩
      · exact retN X983 hx (t := .boolean) Bd.returns (by simp) (hb hby at_266) hr
      · show Q_rm_law Z p1 w0 w1 w2 w3 w4 w5 w6 w7 w8 w9 w10 w11 w12 w13 w14 w15 w16 w17 w18 w19 w20 w21 w22 w23 w24 w25 w26 h0 n0 _ T983.heap _
        rw [k1015]
        exact ⟨rfl, N1016⟩
  · obtain ⟨cl1018, Ar1018, q1018, Sz1018, Nn1018, Hh1018, Gg1018⟩ := id F108
    have in1018 : ¬ ((25 : Int32) < 0 ∨ cl1018.slots.size ≤ ((25 : Int32)).toNatClampNeg) := by exact inb_of Sz1018 ⟨by decide, by decide⟩
    have at1018 : cl1018.slots[((25 : Int32)).toNatClampNeg]? = some (.ref w25) := by
      refine Has.at Hh1018 in1018 ?_
      rfl
    obtain ⟨cq1019, kq1019, q1019a, q1019b, q1019c⟩ := isOf hZ e108 (E_CEILING.ext O109.2)
    obtain ⟨_, _, ⟨T1019, L1019, k1019, n1019⟩, -, X1019, ⟨Lc1019, hQ1019, l1019, y1019, z1019⟩, st1019⟩ := X108.virtualBack hx (y := (⟨"com/example/pico_notify/piconotify/XPathExpr$Function", "takesNodeSets", "()Z"⟩ : MethodName)) (z := (⟨"com/example/pico_notify/piconotify/XPathExpr$Function", "takesNodeSets", "()Z"⟩ : MethodName)) hown (mvT hZ (own_w hw 59 rfl)) (mvT hZ (own_w hw 60 rfl)) (notFace_of_selects (args := #[]) (mvT hZ (own_w hw 62 rfl))) (mvT hZ (own_w hw 62 rfl)) (mvT hZ (own_w hw 61 rfl)) (by decide) (backOf (W := 0) (rm_takes l Z a0 hw [] w25 w2 w23 w4 w5 w6 h108 n0 O109 S_COUNT S_SUM S_LOCAL_NAME S_NAMESPACE_URI S_NAME) hZ (own_w hw 63 rfl) (own_w hw 3 rfl) (by decide) (by decide)) q1019a q1019c (g := (mkF m 236 #[.val (.int p1), .val (.ref b1), .val (.int (25 : Int32)), .val (.ref w25), .val (.int (0 : Int32)), .unset] [(.ref w25)])) rfl (by rw [hml]; rfl) (Steps.refl _) (argsL := []) (rest := []) (lenOf pd_0 rfl) rfl (by show 2 * 0 + _ ≤ _; exact Nat.le_of_eq rfl) (hb hby at_236) (fun _ _ => ⟨rfl, e108, (by decide : 1 + 0 ≤ _), (by decide : 27 + 0 ≤ _)⟩)
    dsimp only [Pt.U, Pt.locs, Pt.cells, Pt.slots] at X1019 l1019 y1019 z1019 st1019 hQ1019
    rw [l1019, y1019, z1019] at X1019
    rcases hQ1019 with ⟨c1020, rfl, N1021, k1022⟩ | ⟨c1023, c1024, rfl, N1025, k1026⟩ | ⟨c1027, c1028, c1029, rfl, N1030, k1031⟩ | ⟨c1032, c1033, c1034, c1035, rfl, N1036, k1037⟩ | ⟨c1038, c1039, c1040, c1041, c1042, rfl, N1043, k1044⟩ | ⟨c1045, c1046, c1047, c1048, c1049, rfl, N1050, k1051⟩
    · exact absurd c1020 ((Fld.ne Fo_CEILING Fo_COUNT (by decide)) : ¬ (w25 = w2))
    · exact absurd c1024 ((Fld.ne Fo_CEILING Fo_SUM (by decide)) : ¬ (w25 = w23))
    · exact absurd c1029 ((Fld.ne Fo_CEILING Fo_LOCAL_NAME (by decide)) : ¬ (w25 = w4))
    · exact absurd c1035 ((Fld.ne Fo_CEILING Fo_NAMESPACE_URI (by decide)) : ¬ (w25 = w5))
    · exact absurd c1042 ((Fld.ne Fo_CEILING Fo_NAME (by decide)) : ¬ (w25 = w6))
    · have N1052 := Fr.app N110 N1050
      have S1053 : ∀ t, Steps p.tables e below (T1019.setTop (mkF m 266 #[.val (.int p1), .val (.ref b1), .val (.int (25 : Int32)), .val (.ref w25), .val (.int (0 : Int32)), .val (.int (0 : Int32))] [(.int (1 : Int32))])) t → Steps p.tables e below (s₁.setTop (mkF m 0 #[.val (.int p1), .unset, .unset, .unset, .unset, .unset] [])) t := by
        intro t kt
        refine S112 t ?_
        refine XS.istoreN X108.here hx rfl (hb hby at_196) rfl (l' := #[.val (.int p1), .val (.ref b1), .val (.int (25 : Int32)), .unset, .unset, .unset]) rfl ?_
        refine XS.aloadN X108.here hx rfl (hb hby at_197) rfl rfl ?_
        refine XS.iloadN X108.here hx rfl (hb hby at_198) rfl ?_
        show Steps p.tables e below (T108.setTop (mkF m 199 #[.val (.int p1), .val (.ref b1), .val (.int (25 : Int32)), .unset, .unset, .unset] [(.int (25 : Int32)), (.ref b1)])) _
        refine X108.aaload hx (j := (25 : Int32)) (v := (.ref w25)) (by rw [e108]; exact Ar1018.1) (State.isArrayOf_alike hZ.alike Ar1018.2.1) rfl Ar1018.2.2 in1018 at1018 (g := (mkF m 199 #[.val (.int p1), .val (.ref b1), .val (.int (25 : Int32)), .unset, .unset, .unset] [(.int (25 : Int32)), (.ref b1)])) rfl rfl (hb hby at_199) _ ?_
        refine XS.astoreN X108.here hx rfl (hb hby at_200) rfl rfl (l' := #[.val (.int p1), .val (.ref b1), .val (.int (25 : Int32)), .val (.ref w25), .unset, .unset]) rfl ?_
        refine XS.iloadN X108.here hx rfl (hb hby at_201) rfl ?_
        refine XS.iconst X108.here hx rfl (hb hby at_202) ?_
        refine XS.icmpNo X108.here hx rfl (hb hby at_203) rfl (feq ((by decide) : ¬ ((25 : Int32) = (2 : Int32)))).1 ?_
        refine XS.iloadN X108.here hx rfl (hb hby at_206) rfl ?_
        show Steps p.tables e below (T108.setTop (mkF m 207 #[.val (.int p1), .val (.ref b1), .val (.int (25 : Int32)), .val (.ref w25), .unset, .unset] [(.int (25 : Int32))])) _
        refine XS.iconst X108.here hx rfl (hb hby at_207) ?_
        refine XS.icmpNo X108.here hx rfl (hb hby at_208) rfl (feq ((by decide) : ¬ ((25 : Int32) = (4 : Int32)))).1 ?_
        refine XS.iloadN X108.here hx rfl (hb hby at_211) rfl ?_
        refine XS.iconst X108.here hx rfl (hb hby at_212) ?_
        refine XS.icmpNo X108.here hx rfl (hb hby at_213) rfl (feq ((by decide) : ¬ ((25 : Int32) = (5 : Int32)))).1 ?_
        refine XS.iloadN X108.here hx rfl (hb hby at_216) rfl ?_
        show Steps p.tables e below (T108.setTop (mkF m 217 #[.val (.int p1), .val (.ref b1), .val (.int (25 : Int32)), .val (.ref w25), .unset, .unset] [(.int (25 : Int32))])) _
        refine XS.bipush X108.here hx rfl (hb hby at_217) ?_
        refine XS.icmpNo X108.here hx rfl (hb hby at_219) rfl (feq ((by decide) : ¬ ((25 : Int32) = (6 : Int32)))).1 ?_
        refine XS.iloadN X108.here hx rfl (hb hby at_222) rfl ?_
        refine XS.bipush X108.here hx rfl (hb hby at_223) ?_
        refine XS.icmpYes X108.here hx rfl (pc0 := 225) (pc' := 232) rfl (hb hby at_225) rfl (feq ((by decide) : ¬ ((25 : Int32) = (23 : Int32)))).2 (by decide) (by decide) ?_
        refine XS.iconst X108.here hx rfl (hb hby at_232) ?_
        show Steps p.tables e below (T108.setTop (mkF m 233 #[.val (.int p1), .val (.ref b1), .val (.int (25 : Int32)), .val (.ref w25), .unset, .unset] [(.int (0 : Int32))])) _
        refine XS.istore X108.here hx rfl (hb hby at_233) rfl (l' := #[.val (.int p1), .val (.ref b1), .val (.int (25 : Int32)), .val (.ref w25), .val (.int (0 : Int32)), .unset]) rfl ?_
        refine XS.aloadN X108.here hx rfl (hb hby at_235) rfl rfl ?_
        show Steps p.tables e below (T108.setTop (mkF m 236 #[.val (.int p1), .val (.ref b1), .val (.int (25 : Int32)), .val (.ref w25), .val (.int (0 : Int32)), .unset] [(.ref w25)])) _
        refine st1019.trans ?_
        refine XS.istore X1019.here hx rfl (hb hby at_239) rfl (l' := #[.val (.int p1), .val (.ref b1), .val (.int (25 : Int32)), .val (.ref w25), .val (.int (0 : Int32)), .val (.int (0 : Int32))]) rfl ?_
        refine XS.iload X1019.here hx rfl (hb hby at_241) rfl ?_
        refine XS.iload X1019.here hx rfl (hb hby at_243) rfl ?_
        refine XS.icmpNo X1019.here hx rfl (hb hby at_245) rfl (teq ((by decide) : (0 : Int32) = (0 : Int32))).2 ?_
        refine XS.iload X1019.here hx rfl (hb hby at_248) rfl ?_
        show Steps p.tables e below (T1019.setTop (mkF m 250 #[.val (.int p1), .val (.ref b1), .val (.int (25 : Int32)), .val (.ref w25), .val (.int (0 : Int32)), .val (.int (0 : Int32))] [(.int (0 : Int32))])) _
        refine XS.ifYes X1019.here hx rfl (pc0 := 250) (pc' := 261) rfl (hb hby at_250) rfl ((if0 _ _).trans (teq ((by decide) : (0 : Int32) = (0 : Int32))).1) (by decide) (by decide) ?_
        refine XS.iconst X1019.here hx rfl (hb hby at_261) ?_
        refine XS.goto X1019.here hx rfl (pc0 := 262) (pc' := 266) rfl (hb hby at_262) (by decide) (by decide) ?_
        exact kt
      obtain ⟨fs, hr, hrun, hended, hW, hsame⟩ := X1019.leave (v := some (.int (1 : Int32))) (fun h => by rw [Bd.returns] at h; cases h)
      refine ⟨_, _, pre0 _ (S1053 _ ?_), hrun, hended, _, _, rfl, ?_, ⟨_, rfl⟩, hW, hsame.mono (by decide) (by decide)⟩
      · exact retN X1019 hx (t := .boolean) Bd.returns (by simp) (hb hby at_266) hr
      · show Q_rm_law Z p1 w0 w1 w2 w3 w4 w5 w6 w7 w8 w9 w10 w11 w12 w13 w14 w15 w16 w17 w18 w19 w20 w21 w22 w23 w24 w25 w26 h0 n0 _ T1019.heap _
        rw [k1051]
        exact ⟨rfl, N1052⟩
  · obtain ⟨cl1054, Ar1054, q1054, Sz1054, Nn1054, Hh1054, Gg1054⟩ := id F108
    have in1054 : ¬ ((26 : Int32) < 0 ∨ cl1054.slots.size ≤ ((26 : Int32)).toNatClampNeg) := by exact inb_of Sz1054 ⟨by decide, by decide⟩
    have at1054 : cl1054.slots[((26 : Int32)).toNatClampNeg]? = some (.ref w26) := by
      refine Has.at Hh1054 in1054 ?_
      rfl
    obtain ⟨cq1055, kq1055, q1055a, q1055b, q1055c⟩ := isOf hZ e108 (E_ROUND.ext O109.2)
    obtain ⟨_, _, ⟨T1055, L1055, k1055, n1055⟩, -, X1055, ⟨Lc1055, hQ1055, l1055, y1055, z1055⟩, st1055⟩ := X108.virtualBack hx (y := (⟨"com/example/pico_notify/piconotify/XPathExpr$Function", "takesNodeSets", "()Z"⟩ : MethodName)) (z := (⟨"com/example/pico_notify/piconotify/XPathExpr$Function", "takesNodeSets", "()Z"⟩ : MethodName)) hown (mvT hZ (own_w hw 59 rfl)) (mvT hZ (own_w hw 60 rfl)) (notFace_of_selects (args := #[]) (mvT hZ (own_w hw 62 rfl))) (mvT hZ (own_w hw 62 rfl)) (mvT hZ (own_w hw 61 rfl)) (by decide) (backOf (W := 0) (rm_takes l Z a0 hw [] w26 w2 w23 w4 w5 w6 h108 n0 O109 S_COUNT S_SUM S_LOCAL_NAME S_NAMESPACE_URI S_NAME) hZ (own_w hw 63 rfl) (own_w hw 3 rfl) (by decide) (by decide)) q1055a q1055c (g := (mkF m 236 #[.val (.int p1), .val (.ref b1), .val (.int (26 : Int32)), .val (.ref w26), .val (.int (0 : Int32)), .unset] [(.ref w26)])) rfl (by rw [hml]; rfl) (Steps.refl _) (argsL := []) (rest := []) (lenOf pd_0 rfl) rfl (by show 2 * 0 + _ ≤ _; exact Nat.le_of_eq rfl) (hb hby at_236) (fun _ _ => ⟨rfl, e108, (by decide : 1 + 0 ≤ _), (by decide : 27 + 0 ≤ _)⟩)
    dsimp only [Pt.U, Pt.locs, Pt.cells, Pt.slots] at X1055 l1055 y1055 z1055 st1055 hQ1055
    rw [l1055, y1055, z1055] at X1055
    rcases hQ1055 with ⟨c1056, rfl, N1057, k1058⟩ | ⟨c1059, c1060, rfl, N1061, k1062⟩ | ⟨c1063, c1064, c1065, rfl, N1066, k1067⟩ | ⟨c1068, c1069, c1070, c1071, rfl, N1072, k1073⟩ | ⟨c1074, c1075, c1076, c1077, c1078, rfl, N1079, k1080⟩ | ⟨c1081, c1082, c1083, c1084, c1085, rfl, N1086, k1087⟩
    · exact absurd c1056 ((Fld.ne Fo_ROUND Fo_COUNT (by decide)) : ¬ (w26 = w2))
    · exact absurd c1060 ((Fld.ne Fo_ROUND Fo_SUM (by decide)) : ¬ (w26 = w23))
    · exact absurd c1065 ((Fld.ne Fo_ROUND Fo_LOCAL_NAME (by decide)) : ¬ (w26 = w4))
    · exact absurd c1071 ((Fld.ne Fo_ROUND Fo_NAMESPACE_URI (by decide)) : ¬ (w26 = w5))
    · exact absurd c1078 ((Fld.ne Fo_ROUND Fo_NAME (by decide)) : ¬ (w26 = w6))
    · have N1088 := Fr.app N110 N1086
      have S1089 : ∀ t, Steps p.tables e below (T1055.setTop (mkF m 266 #[.val (.int p1), .val (.ref b1), .val (.int (26 : Int32)), .val (.ref w26), .val (.int (0 : Int32)), .val (.int (0 : Int32))] [(.int (1 : Int32))])) t → Steps p.tables e below (s₁.setTop (mkF m 0 #[.val (.int p1), .unset, .unset, .unset, .unset, .unset] [])) t := by
        intro t kt
        refine S112 t ?_
        refine XS.istoreN X108.here hx rfl (hb hby at_196) rfl (l' := #[.val (.int p1), .val (.ref b1), .val (.int (26 : Int32)), .unset, .unset, .unset]) rfl ?_
        refine XS.aloadN X108.here hx rfl (hb hby at_197) rfl rfl ?_
        refine XS.iloadN X108.here hx rfl (hb hby at_198) rfl ?_
        show Steps p.tables e below (T108.setTop (mkF m 199 #[.val (.int p1), .val (.ref b1), .val (.int (26 : Int32)), .unset, .unset, .unset] [(.int (26 : Int32)), (.ref b1)])) _
        refine X108.aaload hx (j := (26 : Int32)) (v := (.ref w26)) (by rw [e108]; exact Ar1054.1) (State.isArrayOf_alike hZ.alike Ar1054.2.1) rfl Ar1054.2.2 in1054 at1054 (g := (mkF m 199 #[.val (.int p1), .val (.ref b1), .val (.int (26 : Int32)), .unset, .unset, .unset] [(.int (26 : Int32)), (.ref b1)])) rfl rfl (hb hby at_199) _ ?_
        refine XS.astoreN X108.here hx rfl (hb hby at_200) rfl rfl (l' := #[.val (.int p1), .val (.ref b1), .val (.int (26 : Int32)), .val (.ref w26), .unset, .unset]) rfl ?_
        refine XS.iloadN X108.here hx rfl (hb hby at_201) rfl ?_
        refine XS.iconst X108.here hx rfl (hb hby at_202) ?_
        refine XS.icmpNo X108.here hx rfl (hb hby at_203) rfl (feq ((by decide) : ¬ ((26 : Int32) = (2 : Int32)))).1 ?_
        refine XS.iloadN X108.here hx rfl (hb hby at_206) rfl ?_
        show Steps p.tables e below (T108.setTop (mkF m 207 #[.val (.int p1), .val (.ref b1), .val (.int (26 : Int32)), .val (.ref w26), .unset, .unset] [(.int (26 : Int32))])) _
        refine XS.iconst X108.here hx rfl (hb hby at_207) ?_
        refine XS.icmpNo X108.here hx rfl (hb hby at_208) rfl (feq ((by decide) : ¬ ((26 : Int32) = (4 : Int32)))).1 ?_
        refine XS.iloadN X108.here hx rfl (hb hby at_211) rfl ?_
        refine XS.iconst X108.here hx rfl (hb hby at_212) ?_
        refine XS.icmpNo X108.here hx rfl (hb hby at_213) rfl (feq ((by decide) : ¬ ((26 : Int32) = (5 : Int32)))).1 ?_
        refine XS.iloadN X108.here hx rfl (hb hby at_216) rfl ?_
        show Steps p.tables e below (T108.setTop (mkF m 217 #[.val (.int p1), .val (.ref b1), .val (.int (26 : Int32)), .val (.ref w26), .unset, .unset] [(.int (26 : Int32))])) _
        refine XS.bipush X108.here hx rfl (hb hby at_217) ?_
        refine XS.icmpNo X108.here hx rfl (hb hby at_219) rfl (feq ((by decide) : ¬ ((26 : Int32) = (6 : Int32)))).1 ?_
        refine XS.iloadN X108.here hx rfl (hb hby at_222) rfl ?_
        refine XS.bipush X108.here hx rfl (hb hby at_223) ?_
        refine XS.icmpYes X108.here hx rfl (pc0 := 225) (pc' := 232) rfl (hb hby at_225) rfl (feq ((by decide) : ¬ ((26 : Int32) = (23 : Int32)))).2 (by decide) (by decide) ?_
        refine XS.iconst X108.here hx rfl (hb hby at_232) ?_
        show Steps p.tables e below (T108.setTop (mkF m 233 #[.val (.int p1), .val (.ref b1), .val (.int (26 : Int32)), .val (.ref w26), .unset, .unset] [(.int (0 : Int32))])) _
        refine XS.istore X108.here hx rfl (hb hby at_233) rfl (l' := #[.val (.int p1), .val (.ref b1), .val (.int (26 : Int32)), .val (.ref w26), .val (.int (0 : Int32)), .unset]) rfl ?_
        refine XS.aloadN X108.here hx rfl (hb hby at_235) rfl rfl ?_
        show Steps p.tables e below (T108.setTop (mkF m 236 #[.val (.int p1), .val (.ref b1), .val (.int (26 : Int32)), .val (.ref w26), .val (.int (0 : Int32)), .unset] [(.ref w26)])) _
        refine st1055.trans ?_
        refine XS.istore X1055.here hx rfl (hb hby at_239) rfl (l' := #[.val (.int p1), .val (.ref b1), .val (.int (26 : Int32)), .val (.ref w26), .val (.int (0 : Int32)), .val (.int (0 : Int32))]) rfl ?_
        refine XS.iload X1055.here hx rfl (hb hby at_241) rfl ?_
        refine XS.iload X1055.here hx rfl (hb hby at_243) rfl ?_
        refine XS.icmpNo X1055.here hx rfl (hb hby at_245) rfl (teq ((by decide) : (0 : Int32) = (0 : Int32))).2 ?_
        refine XS.iload X1055.here hx rfl (hb hby at_248) rfl ?_
        show Steps p.tables e below (T1055.setTop (mkF m 250 #[.val (.int p1), .val (.ref b1), .val (.int (26 : Int32)), .val (.ref w26), .val (.int (0 : Int32)), .val (.int (0 : Int32))] [(.int (0 : Int32))])) _
        refine XS.ifYes X1055.here hx rfl (pc0 := 250) (pc' := 261) rfl (hb hby at_250) rfl ((if0 _ _).trans (teq ((by decide) : (0 : Int32) = (0 : Int32))).1) (by decide) (by decide) ?_
        refine XS.iconst X1055.here hx rfl (hb hby at_261) ?_
        refine XS.goto X1055.here hx rfl (pc0 := 262) (pc' := 266) rfl (hb hby at_262) (by decide) (by decide) ?_
        exact kt
      obtain ⟨fs, hr, hrun, hended, hW, hsame⟩ := X1055.leave (v := some (.int (1 : Int32))) (fun h => by rw [Bd.returns] at h; cases h)
      refine ⟨_, _, pre0 _ (S1089 _ ?_), hrun, hended, _, _, rfl, ?_, ⟨_, rfl⟩, hW, hsame.mono (by decide) (by decide)⟩
      · exact retN X1055 hx (t := .boolean) Bd.returns (by simp) (hb hby at_266) hr
      · show Q_rm_law Z p1 w0 w1 w2 w3 w4 w5 w6 w7 w8 w9 w10 w11 w12 w13 w14 w15 w16 w17 w18 w19 w20 w21 w22 w23 w24 w25 w26 h0 n0 _ T1055.heap _
        rw [k1087]
        exact ⟨rfl, N1088⟩
set_option maxRecDepth 65536 in
set_option maxHeartbeats 40000000 in
theorem comes_1 {Post : Tables → Env → Array Value → State → Outcome → State → Prop} (hpost : ∀ tb e args s v u, (limb_1_1.after args s (.returned v) u = true ∧ limb_1_2.after args s (.returned v) u = true ∧ True) → FrameEnd s (.returned v) u (Jvm.fieldLocs frame_1_writes args s ++ Jvm.arrayLocs frame_1_arrays args s ++ Jvm.staticLocs frame_1_statics s) 16 128 → Post tb e args s (.returned v) u) :
    ArmFor flags0 classFile x code maxLocals ret World_1 tables_1 room_1 Calls_1 rest_1 Pre_1 Post := by
  intro l hfl _ _ p e ha hc hk s m args below hf hA hF happ hP
  obtain ⟨hcalls, hrest, hpre⟩ := hP
  obtain ⟨-, -, -, hnamed, -, -, -, hat⟩ := (Spec.applies_iff hf).mp happ
  obtain ⟨hg, hn⟩ := and_e (Cond.before_iff.mp (show (Jvm.Cond.and given_1 narrow_1).before args s = true from hpre))
  obtain ⟨g0, r0⟩ := and_e hg
  obtain ⟨w0, rfl⟩ : ∃ w0 : Value, args = #[w0] := by
    have hs : args.size = 1 := by simpa [Cond.value, given_1] using g0
    obtain ⟨L⟩ := args
    match L, hs with
    | [w0], _ => exact ⟨w0, rfl⟩
  have hw := fun d (hd : d ∈ tables_1) => atoms_spec (ws := Jvm.Cond.code x code maxLocals ret :: tables_1) hat d (List.mem_cons_of_mem _ hd)
  have hfit : Fit s := fun {y c} hc i hi => by
    obtain ⟨ha, rfl⟩ := Array.getElem?_eq_some_iff.mp hc
    have q := List.all_eq_true.mp ((Array.all_eq_true_iff_forall_mem.mp hF) _ (Array.getElem_mem ha)) i (List.mem_range.mpr hi)
    simpa [Array.getElem?_eq_getElem hi] using q
  obtain ⟨i0, e0⟩ := is_v r0
  obtain rfl : w0 = (.int i0) := Option.some.inj e0
  obtain ⟨n0, m0⟩ := and_e hn
  obtain ⟨n1, m1⟩ := and_e m0
  obtain ⟨n2, m2⟩ := and_e m1
  obtain ⟨n3, m3⟩ := and_e m2
  obtain ⟨n4, m4⟩ := and_e m3
  obtain ⟨n5, m5⟩ := and_e m4
  obtain ⟨n6, m6⟩ := and_e m5
  obtain ⟨n7, m7⟩ := and_e m6
  obtain ⟨n8, m8⟩ := and_e m7
  obtain ⟨n9, m9⟩ := and_e m8
  obtain ⟨n10, m10⟩ := and_e m9
  obtain ⟨n11, m11⟩ := and_e m10
  obtain ⟨n12, m12⟩ := and_e m11
  obtain ⟨n13, m13⟩ := and_e m12
  obtain ⟨n14, m14⟩ := and_e m13
  obtain ⟨n15, m15⟩ := and_e m14
  obtain ⟨n16, m16⟩ := and_e m15
  obtain ⟨n17, m17⟩ := and_e m16
  obtain ⟨n18, m18⟩ := and_e m17
  obtain ⟨n19, m19⟩ := and_e m18
  obtain ⟨n20, m20⟩ := and_e m19
  obtain ⟨n21, m21⟩ := and_e m20
  obtain ⟨n22, m22⟩ := and_e m21
  obtain ⟨n23, m23⟩ := and_e m22
  obtain ⟨n24, m24⟩ := and_e m23
  obtain ⟨n25, m25⟩ := and_e m24
  obtain ⟨n26, m26⟩ := and_e m25
  obtain ⟨n27, m27⟩ := and_e m26
  obtain ⟨n28, m28⟩ := and_e m27
  obtain ⟨n29, m29⟩ := and_e m28
  obtain ⟨n30, m30⟩ := and_e m29
  obtain ⟨n31, m31⟩ := and_e m30
  obtain ⟨n32, m32⟩ := and_e m31
  obtain ⟨n33, m33⟩ := and_e m32
  obtain ⟨n34, m34⟩ := and_e m33
  obtain ⟨n35, m35⟩ := and_e m34
  obtain ⟨n36, m36⟩ := and_e m35
  obtain ⟨n37, m37⟩ := and_e m36
  obtain ⟨n38, m38⟩ := and_e m37
  obtain ⟨n39, m39⟩ := and_e m38
  obtain ⟨n40, m40⟩ := and_e m39
  obtain ⟨n41, m41⟩ := and_e m40
  obtain ⟨n42, m42⟩ := and_e m41
  obtain ⟨n43, m43⟩ := and_e m42
  obtain ⟨n44, m44⟩ := and_e m43
  obtain ⟨n45, m45⟩ := and_e m44
  obtain ⟨n46, m46⟩ := and_e m45
  obtain ⟨n47, m47⟩ := and_e m46
  obtain ⟨n48, m48⟩ := and_e m47
  obtain ⟨n49, m49⟩ := and_e m48
  obtain ⟨n50, m50⟩ := and_e m49
  obtain ⟨n51, m51⟩ := and_e m50
  obtain ⟨n52, m52⟩ := and_e m51
  obtain ⟨n53, m53⟩ := and_e m52
  obtain ⟨n54, m54⟩ := and_e m53
  obtain ⟨n55, m55⟩ := and_e m54
  obtain ⟨n56, m56⟩ := and_e m55
  obtain ⟨n57, m57⟩ := and_e m56
  obtain ⟨n58, m58⟩ := and_e m57
  obtain ⟨n59, m59⟩ := and_e m58
  obtain ⟨n60, m60⟩ := and_e m59
  obtain ⟨n61, m61⟩ := and_e m60
  obtain ⟨n62, m62⟩ := and_e m61
  obtain ⟨n63, m63⟩ := and_e m62
  obtain ⟨n64, m64⟩ := and_e m63
  obtain ⟨n65, m65⟩ := and_e m64
  obtain ⟨n66, m66⟩ := and_e m65
  obtain ⟨n67, m67⟩ := and_e m66
  obtain ⟨n68, m68⟩ := and_e m67
  obtain ⟨n69, m69⟩ := and_e m68
  obtain ⟨n70, m70⟩ := and_e m69
  obtain ⟨n71, m71⟩ := and_e m70
  obtain ⟨n72, m72⟩ := and_e m71
  obtain ⟨n73, m73⟩ := and_e m72
  obtain ⟨n74, m74⟩ := and_e m73
  obtain ⟨n75, m75⟩ := and_e m74
  obtain ⟨n76, m76⟩ := and_e m75
  obtain ⟨n77, m77⟩ := and_e m76
  obtain ⟨n78, m78⟩ := and_e m77
  obtain ⟨n79, m79⟩ := and_e m78
  obtain ⟨w_XPathExpr_Function_LAST, ev_w_XPathExpr_Function_LAST⟩ := exa_v n0
  have E_w_XPathExpr_Function_LAST : Exa s s.heap w_XPathExpr_Function_LAST "com/example/pico_notify/piconotify/XPathExpr$Function" := Exa.start ev_w_XPathExpr_Function_LAST n0
  have S_w_XPathExpr_Function_LAST : Sta s s.heap "com/example/pico_notify/piconotify/XPathExpr$Function" "LAST" "Lcom/example/pico_notify/piconotify/XPathExpr$Function;" (.ref w_XPathExpr_Function_LAST) := Sta.start ev_w_XPathExpr_Function_LAST (Or.inr ⟨(own_w hw 3 rfl), (own_w hw 4 rfl)⟩)
  obtain ⟨w_XPathExpr_Function_POSITION, ev_w_XPathExpr_Function_POSITION⟩ := exa_v n1
  have E_w_XPathExpr_Function_POSITION : Exa s s.heap w_XPathExpr_Function_POSITION "com/example/pico_notify/piconotify/XPathExpr$Function" := Exa.start ev_w_XPathExpr_Function_POSITION n1
  have S_w_XPathExpr_Function_POSITION : Sta s s.heap "com/example/pico_notify/piconotify/XPathExpr$Function" "POSITION" "Lcom/example/pico_notify/piconotify/XPathExpr$Function;" (.ref w_XPathExpr_Function_POSITION) := Sta.start ev_w_XPathExpr_Function_POSITION (Or.inr ⟨(own_w hw 3 rfl), (own_w hw 7 rfl)⟩)
  obtain ⟨w_XPathExpr_Function_COUNT, ev_w_XPathExpr_Function_COUNT⟩ := exa_v n2
  have E_w_XPathExpr_Function_COUNT : Exa s s.heap w_XPathExpr_Function_COUNT "com/example/pico_notify/piconotify/XPathExpr$Function" := Exa.start ev_w_XPathExpr_Function_COUNT n2
  have S_w_XPathExpr_Function_COUNT : Sta s s.heap "com/example/pico_notify/piconotify/XPathExpr$Function" "COUNT" "Lcom/example/pico_notify/piconotify/XPathExpr$Function;" (.ref w_XPathExpr_Function_COUNT) := Sta.start ev_w_XPathExpr_Function_COUNT (Or.inr ⟨(own_w hw 3 rfl), (own_w hw 9 rfl)⟩)
  obtain ⟨w_XPathExpr_Function_ID, ev_w_XPathExpr_Function_ID⟩ := exa_v n3
  have E_w_XPathExpr_Function_ID : Exa s s.heap w_XPathExpr_Function_ID "com/example/pico_notify/piconotify/XPathExpr$Function" := Exa.start ev_w_XPathExpr_Function_ID n3
  have S_w_XPathExpr_Function_ID : Sta s s.heap "com/example/pico_notify/piconotify/XPathExpr$Function" "ID" "Lcom/example/pico_notify/piconotify/XPathExpr$Function;" (.ref w_XPathExpr_Function_ID) := Sta.start ev_w_XPathExpr_Function_ID (Or.inr ⟨(own_w hw 3 rfl), (own_w hw 11 rfl)⟩)
  obtain ⟨w_XPathExpr_Function_LOCAL_NAME, ev_w_XPathExpr_Function_LOCAL_NAME⟩ := exa_v n4
  have E_w_XPathExpr_Function_LOCAL_NAME : Exa s s.heap w_XPathExpr_Function_LOCAL_NAME "com/example/pico_notify/piconotify/XPathExpr$Function" := Exa.start ev_w_XPathExpr_Function_LOCAL_NAME n4
  have S_w_XPathExpr_Function_LOCAL_NAME : Sta s s.heap "com/example/pico_notify/piconotify/XPathExpr$Function" "LOCAL_NAME" "Lcom/example/pico_notify/piconotify/XPathExpr$Function;" (.ref w_XPathExpr_Function_LOCAL_NAME) := Sta.start ev_w_XPathExpr_Function_LOCAL_NAME (Or.inr ⟨(own_w hw 3 rfl), (own_w hw 13 rfl)⟩)
  obtain ⟨w_XPathExpr_Function_NAMESPACE_URI, ev_w_XPathExpr_Function_NAMESPACE_URI⟩ := exa_v n5
  have E_w_XPathExpr_Function_NAMESPACE_URI : Exa s s.heap w_XPathExpr_Function_NAMESPACE_URI "com/example/pico_notify/piconotify/XPathExpr$Function" := Exa.start ev_w_XPathExpr_Function_NAMESPACE_URI n5
  have S_w_XPathExpr_Function_NAMESPACE_URI : Sta s s.heap "com/example/pico_notify/piconotify/XPathExpr$Function" "NAMESPACE_URI" "Lcom/example/pico_notify/piconotify/XPathExpr$Function;" (.ref w_XPathExpr_Function_NAMESPACE_URI) := Sta.start ev_w_XPathExpr_Function_NAMESPACE_URI (Or.inr ⟨(own_w hw 3 rfl), (own_w hw 15 rfl)⟩)
  obtain ⟨w_XPathExpr_Function_NAME, ev_w_XPathExpr_Function_NAME⟩ := exa_v n6
  have E_w_XPathExpr_Function_NAME : Exa s s.heap w_XPathExpr_Function_NAME "com/example/pico_notify/piconotify/XPathExpr$Function" := Exa.start ev_w_XPathExpr_Function_NAME n6
  have S_w_XPathExpr_Function_NAME : Sta s s.heap "com/example/pico_notify/piconotify/XPathExpr$Function" "NAME" "Lcom/example/pico_notify/piconotify/XPathExpr$Function;" (.ref w_XPathExpr_Function_NAME) := Sta.start ev_w_XPathExpr_Function_NAME (Or.inr ⟨(own_w hw 3 rfl), (own_w hw 17 rfl)⟩)
  obtain ⟨w_XPathExpr_Function_STRING, ev_w_XPathExpr_Function_STRING⟩ := exa_v n7
  have E_w_XPathExpr_Function_STRING : Exa s s.heap w_XPathExpr_Function_STRING "com/example/pico_notify/piconotify/XPathExpr$Function" := Exa.start ev_w_XPathExpr_Function_STRING n7
  have S_w_XPathExpr_Function_STRING : Sta s s.heap "com/example/pico_notify/piconotify/XPathExpr$Function" "STRING" "Lcom/example/pico_notify/piconotify/XPathExpr$Function;" (.ref w_XPathExpr_Function_STRING) := Sta.start ev_w_XPathExpr_Function_STRING (Or.inr ⟨(own_w hw 3 rfl), (own_w hw 19 rfl)⟩)
  obtain ⟨w_XPathExpr_Function_CONCAT, ev_w_XPathExpr_Function_CONCAT⟩ := exa_v n8
  have E_w_XPathExpr_Function_CONCAT : Exa s s.heap w_XPathExpr_Function_CONCAT "com/example/pico_notify/piconotify/XPathExpr$Function" := Exa.start ev_w_XPathExpr_Function_CONCAT n8
  have S_w_XPathExpr_Function_CONCAT : Sta s s.heap "com/example/pico_notify/piconotify/XPathExpr$Function" "CONCAT" "Lcom/example/pico_notify/piconotify/XPathExpr$Function;" (.ref w_XPathExpr_Function_CONCAT) := Sta.start ev_w_XPathExpr_Function_CONCAT (Or.inr ⟨(own_w hw 3 rfl), (own_w hw 21 rfl)⟩)
  obtain ⟨w_XPathExpr_Function_STARTS_WITH, ev_w_XPathExpr_Function_STARTS_WITH⟩ := exa_v n9
  have E_w_XPathExpr_Function_STARTS_WITH : Exa s s.heap w_XPathExpr_Function_STARTS_WITH "com/example/pico_notify/piconotify/XPathExpr$Function" := Exa.start ev_w_XPathExpr_Function_STARTS_WITH n9
  have S_w_XPathExpr_Function_STARTS_WITH : Sta s s.heap "com/example/pico_notify/piconotify/XPathExpr$Function" "STARTS_WITH" "Lcom/example/pico_notify/piconotify/XPathExpr$Function;" (.ref w_XPathExpr_Function_STARTS_WITH) := Sta.start ev_w_XPathExpr_Function_STARTS_WITH (Or.inr ⟨(own_w hw 3 rfl), (own_w hw 23 rfl)⟩)
  obtain ⟨w_XPathExpr_Function_CONTAINS, ev_w_XPathExpr_Function_CONTAINS⟩ := exa_v n10
  have E_w_XPathExpr_Function_CONTAINS : Exa s s.heap w_XPathExpr_Function_CONTAINS "com/example/pico_notify/piconotify/XPathExpr$Function" := Exa.start ev_w_XPathExpr_Function_CONTAINS n10
  have S_w_XPathExpr_Function_CONTAINS : Sta s s.heap "com/example/pico_notify/piconotify/XPathExpr$Function" "CONTAINS" "Lcom/example/pico_notify/piconotify/XPathExpr$Function;" (.ref w_XPathExpr_Function_CONTAINS) := Sta.start ev_w_XPathExpr_Function_CONTAINS (Or.inr ⟨(own_w hw 3 rfl), (own_w hw 25 rfl)⟩)
  obtain ⟨w_XPathExpr_Function_SUBSTRING_BEFORE, ev_w_XPathExpr_Function_SUBSTRING_BEFORE⟩ := exa_v n11
  have E_w_XPathExpr_Function_SUBSTRING_BEFORE : Exa s s.heap w_XPathExpr_Function_SUBSTRING_BEFORE "com/example/pico_notify/piconotify/XPathExpr$Function" := Exa.start ev_w_XPathExpr_Function_SUBSTRING_BEFORE n11
  have S_w_XPathExpr_Function_SUBSTRING_BEFORE : Sta s s.heap "com/example/pico_notify/piconotify/XPathExpr$Function" "SUBSTRING_BEFORE" "Lcom/example/pico_notify/piconotify/XPathExpr$Function;" (.ref w_XPathExpr_Function_SUBSTRING_BEFORE) := Sta.start ev_w_XPathExpr_Function_SUBSTRING_BEFORE (Or.inr ⟨(own_w hw 3 rfl), (own_w hw 27 rfl)⟩)
  obtain ⟨w_XPathExpr_Function_SUBSTRING_AFTER, ev_w_XPathExpr_Function_SUBSTRING_AFTER⟩ := exa_v n12
  have E_w_XPathExpr_Function_SUBSTRING_AFTER : Exa s s.heap w_XPathExpr_Function_SUBSTRING_AFTER "com/example/pico_notify/piconotify/XPathExpr$Function" := Exa.start ev_w_XPathExpr_Function_SUBSTRING_AFTER n12
  have S_w_XPathExpr_Function_SUBSTRING_AFTER : Sta s s.heap "com/example/pico_notify/piconotify/XPathExpr$Function" "SUBSTRING_AFTER" "Lcom/example/pico_notify/piconotify/XPathExpr$Function;" (.ref w_XPathExpr_Function_SUBSTRING_AFTER) := Sta.start ev_w_XPathExpr_Function_SUBSTRING_AFTER (Or.inr ⟨(own_w hw 3 rfl), (own_w hw 29 rfl)⟩)
  obtain ⟨w_XPathExpr_Function_SUBSTRING, ev_w_XPathExpr_Function_SUBSTRING⟩ := exa_v n13
  have E_w_XPathExpr_Function_SUBSTRING : Exa s s.heap w_XPathExpr_Function_SUBSTRING "com/example/pico_notify/piconotify/XPathExpr$Function" := Exa.start ev_w_XPathExpr_Function_SUBSTRING n13
  have S_w_XPathExpr_Function_SUBSTRING : Sta s s.heap "com/example/pico_notify/piconotify/XPathExpr$Function" "SUBSTRING" "Lcom/example/pico_notify/piconotify/XPathExpr$Function;" (.ref w_XPathExpr_Function_SUBSTRING) := Sta.start ev_w_XPathExpr_Function_SUBSTRING (Or.inr ⟨(own_w hw 3 rfl), (own_w hw 31 rfl)⟩)
  obtain ⟨w_XPathExpr_Function_STRING_LENGTH, ev_w_XPathExpr_Function_STRING_LENGTH⟩ := exa_v n14
  have E_w_XPathExpr_Function_STRING_LENGTH : Exa s s.heap w_XPathExpr_Function_STRING_LENGTH "com/example/pico_notify/piconotify/XPathExpr$Function" := Exa.start ev_w_XPathExpr_Function_STRING_LENGTH n14
  have S_w_XPathExpr_Function_STRING_LENGTH : Sta s s.heap "com/example/pico_notify/piconotify/XPathExpr$Function" "STRING_LENGTH" "Lcom/example/pico_notify/piconotify/XPathExpr$Function;" (.ref w_XPathExpr_Function_STRING_LENGTH) := Sta.start ev_w_XPathExpr_Function_STRING_LENGTH (Or.inr ⟨(own_w hw 3 rfl), (own_w hw 33 rfl)⟩)
  obtain ⟨w_XPathExpr_Function_NORMALIZE_SPACE, ev_w_XPathExpr_Function_NORMALIZE_SPACE⟩ := exa_v n15
  have E_w_XPathExpr_Function_NORMALIZE_SPACE : Exa s s.heap w_XPathExpr_Function_NORMALIZE_SPACE "com/example/pico_notify/piconotify/XPathExpr$Function" := Exa.start ev_w_XPathExpr_Function_NORMALIZE_SPACE n15
  have S_w_XPathExpr_Function_NORMALIZE_SPACE : Sta s s.heap "com/example/pico_notify/piconotify/XPathExpr$Function" "NORMALIZE_SPACE" "Lcom/example/pico_notify/piconotify/XPathExpr$Function;" (.ref w_XPathExpr_Function_NORMALIZE_SPACE) := Sta.start ev_w_XPathExpr_Function_NORMALIZE_SPACE (Or.inr ⟨(own_w hw 3 rfl), (own_w hw 35 rfl)⟩)
  obtain ⟨w_XPathExpr_Function_TRANSLATE, ev_w_XPathExpr_Function_TRANSLATE⟩ := exa_v n16
  have E_w_XPathExpr_Function_TRANSLATE : Exa s s.heap w_XPathExpr_Function_TRANSLATE "com/example/pico_notify/piconotify/XPathExpr$Function" := Exa.start ev_w_XPathExpr_Function_TRANSLATE n16
  have S_w_XPathExpr_Function_TRANSLATE : Sta s s.heap "com/example/pico_notify/piconotify/XPathExpr$Function" "TRANSLATE" "Lcom/example/pico_notify/piconotify/XPathExpr$Function;" (.ref w_XPathExpr_Function_TRANSLATE) := Sta.start ev_w_XPathExpr_Function_TRANSLATE (Or.inr ⟨(own_w hw 3 rfl), (own_w hw 37 rfl)⟩)
  obtain ⟨w_XPathExpr_Function_BOOLEAN, ev_w_XPathExpr_Function_BOOLEAN⟩ := exa_v n17
  have E_w_XPathExpr_Function_BOOLEAN : Exa s s.heap w_XPathExpr_Function_BOOLEAN "com/example/pico_notify/piconotify/XPathExpr$Function" := Exa.start ev_w_XPathExpr_Function_BOOLEAN n17
  have S_w_XPathExpr_Function_BOOLEAN : Sta s s.heap "com/example/pico_notify/piconotify/XPathExpr$Function" "BOOLEAN" "Lcom/example/pico_notify/piconotify/XPathExpr$Function;" (.ref w_XPathExpr_Function_BOOLEAN) := Sta.start ev_w_XPathExpr_Function_BOOLEAN (Or.inr ⟨(own_w hw 3 rfl), (own_w hw 39 rfl)⟩)
  obtain ⟨w_XPathExpr_Function_NOT, ev_w_XPathExpr_Function_NOT⟩ := exa_v n18
  have E_w_XPathExpr_Function_NOT : Exa s s.heap w_XPathExpr_Function_NOT "com/example/pico_notify/piconotify/XPathExpr$Function" := Exa.start ev_w_XPathExpr_Function_NOT n18
  have S_w_XPathExpr_Function_NOT : Sta s s.heap "com/example/pico_notify/piconotify/XPathExpr$Function" "NOT" "Lcom/example/pico_notify/piconotify/XPathExpr$Function;" (.ref w_XPathExpr_Function_NOT) := Sta.start ev_w_XPathExpr_Function_NOT (Or.inr ⟨(own_w hw 3 rfl), (own_w hw 41 rfl)⟩)
  obtain ⟨w_XPathExpr_Function_TRUE, ev_w_XPathExpr_Function_TRUE⟩ := exa_v n19
  have E_w_XPathExpr_Function_TRUE : Exa s s.heap w_XPathExpr_Function_TRUE "com/example/pico_notify/piconotify/XPathExpr$Function" := Exa.start ev_w_XPathExpr_Function_TRUE n19
  have S_w_XPathExpr_Function_TRUE : Sta s s.heap "com/example/pico_notify/piconotify/XPathExpr$Function" "TRUE" "Lcom/example/pico_notify/piconotify/XPathExpr$Function;" (.ref w_XPathExpr_Function_TRUE) := Sta.start ev_w_XPathExpr_Function_TRUE (Or.inr ⟨(own_w hw 3 rfl), (own_w hw 43 rfl)⟩)
  obtain ⟨w_XPathExpr_Function_FALSE, ev_w_XPathExpr_Function_FALSE⟩ := exa_v n20
  have E_w_XPathExpr_Function_FALSE : Exa s s.heap w_XPathExpr_Function_FALSE "com/example/pico_notify/piconotify/XPathExpr$Function" := Exa.start ev_w_XPathExpr_Function_FALSE n20
  have S_w_XPathExpr_Function_FALSE : Sta s s.heap "com/example/pico_notify/piconotify/XPathExpr$Function" "FALSE" "Lcom/example/pico_notify/piconotify/XPathExpr$Function;" (.ref w_XPathExpr_Function_FALSE) := Sta.start ev_w_XPathExpr_Function_FALSE (Or.inr ⟨(own_w hw 3 rfl), (own_w hw 45 rfl)⟩)
  obtain ⟨w_XPathExpr_Function_LANG, ev_w_XPathExpr_Function_LANG⟩ := exa_v n21
  have E_w_XPathExpr_Function_LANG : Exa s s.heap w_XPathExpr_Function_LANG "com/example/pico_notify/piconotify/XPathExpr$Function" := Exa.start ev_w_XPathExpr_Function_LANG n21
  have S_w_XPathExpr_Function_LANG : Sta s s.heap "com/example/pico_notify/piconotify/XPathExpr$Function" "LANG" "Lcom/example/pico_notify/piconotify/XPathExpr$Function;" (.ref w_XPathExpr_Function_LANG) := Sta.start ev_w_XPathExpr_Function_LANG (Or.inr ⟨(own_w hw 3 rfl), (own_w hw 47 rfl)⟩)
  obtain ⟨w_XPathExpr_Function_NUMBER, ev_w_XPathExpr_Function_NUMBER⟩ := exa_v n22
  have E_w_XPathExpr_Function_NUMBER : Exa s s.heap w_XPathExpr_Function_NUMBER "com/example/pico_notify/piconotify/XPathExpr$Function" := Exa.start ev_w_XPathExpr_Function_NUMBER n22
  have S_w_XPathExpr_Function_NUMBER : Sta s s.heap "com/example/pico_notify/piconotify/XPathExpr$Function" "NUMBER" "Lcom/example/pico_notify/piconotify/XPathExpr$Function;" (.ref w_XPathExpr_Function_NUMBER) := Sta.start ev_w_XPathExpr_Function_NUMBER (Or.inr ⟨(own_w hw 3 rfl), (own_w hw 49 rfl)⟩)
  obtain ⟨w_XPathExpr_Function_SUM, ev_w_XPathExpr_Function_SUM⟩ := exa_v n23
  have E_w_XPathExpr_Function_SUM : Exa s s.heap w_XPathExpr_Function_SUM "com/example/pico_notify/piconotify/XPathExpr$Function" := Exa.start ev_w_XPathExpr_Function_SUM n23
  have S_w_XPathExpr_Function_SUM : Sta s s.heap "com/example/pico_notify/piconotify/XPathExpr$Function" "SUM" "Lcom/example/pico_notify/piconotify/XPathExpr$Function;" (.ref w_XPathExpr_Function_SUM) := Sta.start ev_w_XPathExpr_Function_SUM (Or.inr ⟨(own_w hw 3 rfl), (own_w hw 51 rfl)⟩)
  obtain ⟨w_XPathExpr_Function_FLOOR, ev_w_XPathExpr_Function_FLOOR⟩ := exa_v n24
  have E_w_XPathExpr_Function_FLOOR : Exa s s.heap w_XPathExpr_Function_FLOOR "com/example/pico_notify/piconotify/XPathExpr$Function" := Exa.start ev_w_XPathExpr_Function_FLOOR n24
  have S_w_XPathExpr_Function_FLOOR : Sta s s.heap "com/example/pico_notify/piconotify/XPathExpr$Function" "FLOOR" "Lcom/example/pico_notify/piconotify/XPathExpr$Function;" (.ref w_XPathExpr_Function_FLOOR) := Sta.start ev_w_XPathExpr_Function_FLOOR (Or.inr ⟨(own_w hw 3 rfl), (own_w hw 53 rfl)⟩)
  obtain ⟨w_XPathExpr_Function_CEILING, ev_w_XPathExpr_Function_CEILING⟩ := exa_v n25
  have E_w_XPathExpr_Function_CEILING : Exa s s.heap w_XPathExpr_Function_CEILING "com/example/pico_notify/piconotify/XPathExpr$Function" := Exa.start ev_w_XPathExpr_Function_CEILING n25
  have S_w_XPathExpr_Function_CEILING : Sta s s.heap "com/example/pico_notify/piconotify/XPathExpr$Function" "CEILING" "Lcom/example/pico_notify/piconotify/XPathExpr$Function;" (.ref w_XPathExpr_Function_CEILING) := Sta.start ev_w_XPathExpr_Function_CEILING (Or.inr ⟨(own_w hw 3 rfl), (own_w hw 55 rfl)⟩)
  obtain ⟨w_XPathExpr_Function_ROUND, ev_w_XPathExpr_Function_ROUND⟩ := exa_v n26
  have E_w_XPathExpr_Function_ROUND : Exa s s.heap w_XPathExpr_Function_ROUND "com/example/pico_notify/piconotify/XPathExpr$Function" := Exa.start ev_w_XPathExpr_Function_ROUND n26
  have S_w_XPathExpr_Function_ROUND : Sta s s.heap "com/example/pico_notify/piconotify/XPathExpr$Function" "ROUND" "Lcom/example/pico_notify/piconotify/XPathExpr$Function;" (.ref w_XPathExpr_Function_ROUND) := Sta.start ev_w_XPathExpr_Function_ROUND (Or.inr ⟨(own_w hw 3 rfl), (own_w hw 57 rfl)⟩)
  have F_w_XPathExpr_Function_LAST_ordinal : Fld s s.heap w_XPathExpr_Function_LAST "java/lang/Enum" "ordinal" "I" (.int (0 : Int32)) := Fld.start (own_fldI ev_w_XPathExpr_Function_LAST n27)
  have F_w_XPathExpr_Function_COUNT_ordinal : Fld s s.heap w_XPathExpr_Function_COUNT "java/lang/Enum" "ordinal" "I" (.int (2 : Int32)) := Fld.start (own_fldI ev_w_XPathExpr_Function_COUNT n28)
  have F_w_XPathExpr_Function_SUM_ordinal : Fld s s.heap w_XPathExpr_Function_SUM "java/lang/Enum" "ordinal" "I" (.int (23 : Int32)) := Fld.start (own_fldI ev_w_XPathExpr_Function_SUM n29)
  have F_w_XPathExpr_Function_LOCAL_NAME_ordinal : Fld s s.heap w_XPathExpr_Function_LOCAL_NAME "java/lang/Enum" "ordinal" "I" (.int (4 : Int32)) := Fld.start (own_fldI ev_w_XPathExpr_Function_LOCAL_NAME n30)
  have F_w_XPathExpr_Function_NAMESPACE_URI_ordinal : Fld s s.heap w_XPathExpr_Function_NAMESPACE_URI "java/lang/Enum" "ordinal" "I" (.int (5 : Int32)) := Fld.start (own_fldI ev_w_XPathExpr_Function_NAMESPACE_URI n31)
  have F_w_XPathExpr_Function_NAME_ordinal : Fld s s.heap w_XPathExpr_Function_NAME "java/lang/Enum" "ordinal" "I" (.int (6 : Int32)) := Fld.start (own_fldI ev_w_XPathExpr_Function_NAME n32)
  have F_w_XPathExpr_Function_ID_ordinal : Fld s s.heap w_XPathExpr_Function_ID "java/lang/Enum" "ordinal" "I" (.int (3 : Int32)) := Fld.start (own_fldI ev_w_XPathExpr_Function_ID n33)
  have F_w_XPathExpr_Function_COUNT_most : Fld s s.heap w_XPathExpr_Function_COUNT "com/example/pico_notify/piconotify/XPathExpr$Function" "most" "I" (.int (1 : Int32)) := Fld.start (own_fldI ev_w_XPathExpr_Function_COUNT n34)
  have F_w_XPathExpr_Function_CONTAINS_ordinal : Fld s s.heap w_XPathExpr_Function_CONTAINS "java/lang/Enum" "ordinal" "I" (.int (10 : Int32)) := Fld.start (own_fldI ev_w_XPathExpr_Function_CONTAINS n35)
  have F_w_XPathExpr_Function_LANG_ordinal : Fld s s.heap w_XPathExpr_Function_LANG "java/lang/Enum" "ordinal" "I" (.int (21 : Int32)) := Fld.start (own_fldI ev_w_XPathExpr_Function_LANG n36)
  have F_w_XPathExpr_Function_FALSE_ordinal : Fld s s.heap w_XPathExpr_Function_FALSE "java/lang/Enum" "ordinal" "I" (.int (20 : Int32)) := Fld.start (own_fldI ev_w_XPathExpr_Function_FALSE n37)
  have F_w_XPathExpr_Function_STRING_ordinal : Fld s s.heap w_XPathExpr_Function_STRING "java/lang/Enum" "ordinal" "I" (.int (7 : Int32)) := Fld.start (own_fldI ev_w_XPathExpr_Function_STRING n38)
  have F_w_XPathExpr_Function_SUBSTRING_BEFORE_ordinal : Fld s s.heap w_XPathExpr_Function_SUBSTRING_BEFORE "java/lang/Enum" "ordinal" "I" (.int (11 : Int32)) := Fld.start (own_fldI ev_w_XPathExpr_Function_SUBSTRING_BEFORE n39)
  have F_w_XPathExpr_Function_NUMBER_ordinal : Fld s s.heap w_XPathExpr_Function_NUMBER "java/lang/Enum" "ordinal" "I" (.int (22 : Int32)) := Fld.start (own_fldI ev_w_XPathExpr_Function_NUMBER n40)
  have F_w_XPathExpr_Function_CONCAT_ordinal : Fld s s.heap w_XPathExpr_Function_CONCAT "java/lang/Enum" "ordinal" "I" (.int (8 : Int32)) := Fld.start (own_fldI ev_w_XPathExpr_Function_CONCAT n41)
  have F_w_XPathExpr_Function_POSITION_ordinal : Fld s s.heap w_XPathExpr_Function_POSITION "java/lang/Enum" "ordinal" "I" (.int (1 : Int32)) := Fld.start (own_fldI ev_w_XPathExpr_Function_POSITION n42)
  have F_w_XPathExpr_Function_CEILING_ordinal : Fld s s.heap w_XPathExpr_Function_CEILING "java/lang/Enum" "ordinal" "I" (.int (25 : Int32)) := Fld.start (own_fldI ev_w_XPathExpr_Function_CEILING n43)
  have F_w_XPathExpr_Function_NORMALIZE_SPACE_ordinal : Fld s s.heap w_XPathExpr_Function_NORMALIZE_SPACE "java/lang/Enum" "ordinal" "I" (.int (15 : Int32)) := Fld.start (own_fldI ev_w_XPathExpr_Function_NORMALIZE_SPACE n44)
  have F_w_XPathExpr_Function_LOCAL_NAME_most : Fld s s.heap w_XPathExpr_Function_LOCAL_NAME "com/example/pico_notify/piconotify/XPathExpr$Function" "most" "I" (.int (1 : Int32)) := Fld.start (own_fldI ev_w_XPathExpr_Function_LOCAL_NAME n45)
  have F_w_XPathExpr_Function_TRANSLATE_ordinal : Fld s s.heap w_XPathExpr_Function_TRANSLATE "java/lang/Enum" "ordinal" "I" (.int (16 : Int32)) := Fld.start (own_fldI ev_w_XPathExpr_Function_TRANSLATE n46)
  have F_w_XPathExpr_Function_NAME_most : Fld s s.heap w_XPathExpr_Function_NAME "com/example/pico_notify/piconotify/XPathExpr$Function" "most" "I" (.int (1 : Int32)) := Fld.start (own_fldI ev_w_XPathExpr_Function_NAME n47)
  have F_w_XPathExpr_Function_TRUE_ordinal : Fld s s.heap w_XPathExpr_Function_TRUE "java/lang/Enum" "ordinal" "I" (.int (19 : Int32)) := Fld.start (own_fldI ev_w_XPathExpr_Function_TRUE n48)
  have F_w_XPathExpr_Function_SUBSTRING_ordinal : Fld s s.heap w_XPathExpr_Function_SUBSTRING "java/lang/Enum" "ordinal" "I" (.int (13 : Int32)) := Fld.start (own_fldI ev_w_XPathExpr_Function_SUBSTRING n49)
  have F_w_XPathExpr_Function_STRING_LENGTH_ordinal : Fld s s.heap w_XPathExpr_Function_STRING_LENGTH "java/lang/Enum" "ordinal" "I" (.int (14 : Int32)) := Fld.start (own_fldI ev_w_XPathExpr_Function_STRING_LENGTH n50)
  have F_w_XPathExpr_Function_BOOLEAN_ordinal : Fld s s.heap w_XPathExpr_Function_BOOLEAN "java/lang/Enum" "ordinal" "I" (.int (17 : Int32)) := Fld.start (own_fldI ev_w_XPathExpr_Function_BOOLEAN n51)
  have F_w_XPathExpr_Function_ROUND_ordinal : Fld s s.heap w_XPathExpr_Function_ROUND "java/lang/Enum" "ordinal" "I" (.int (26 : Int32)) := Fld.start (own_fldI ev_w_XPathExpr_Function_ROUND n52)
  have F_w_XPathExpr_Function_SUBSTRING_AFTER_ordinal : Fld s s.heap w_XPathExpr_Function_SUBSTRING_AFTER "java/lang/Enum" "ordinal" "I" (.int (12 : Int32)) := Fld.start (own_fldI ev_w_XPathExpr_Function_SUBSTRING_AFTER n53)
  have F_w_XPathExpr_Function_NAMESPACE_URI_most : Fld s s.heap w_XPathExpr_Function_NAMESPACE_URI "com/example/pico_notify/piconotify/XPathExpr$Function" "most" "I" (.int (1 : Int32)) := Fld.start (own_fldI ev_w_XPathExpr_Function_NAMESPACE_URI n54)
  have F_w_XPathExpr_Function_NOT_ordinal : Fld s s.heap w_XPathExpr_Function_NOT "java/lang/Enum" "ordinal" "I" (.int (18 : Int32)) := Fld.start (own_fldI ev_w_XPathExpr_Function_NOT n55)
  have F_w_XPathExpr_Function_STARTS_WITH_ordinal : Fld s s.heap w_XPathExpr_Function_STARTS_WITH "java/lang/Enum" "ordinal" "I" (.int (9 : Int32)) := Fld.start (own_fldI ev_w_XPathExpr_Function_STARTS_WITH n56)
  have F_w_XPathExpr_Function_FLOOR_ordinal : Fld s s.heap w_XPathExpr_Function_FLOOR "java/lang/Enum" "ordinal" "I" (.int (24 : Int32)) := Fld.start (own_fldI ev_w_XPathExpr_Function_FLOOR n57)
  have F_w_XPathExpr_Function_SUM_most : Fld s s.heap w_XPathExpr_Function_SUM "com/example/pico_notify/piconotify/XPathExpr$Function" "most" "I" (.int (1 : Int32)) := Fld.start (own_fldI ev_w_XPathExpr_Function_SUM n58)
  have F_w_XPathExpr_Function_LAST_most : Fld s s.heap w_XPathExpr_Function_LAST "com/example/pico_notify/piconotify/XPathExpr$Function" "most" "I" (.int (0 : Int32)) := Fld.start (own_fldI ev_w_XPathExpr_Function_LAST n59)
  have F_w_XPathExpr_Function_POSITION_most : Fld s s.heap w_XPathExpr_Function_POSITION "com/example/pico_notify/piconotify/XPathExpr$Function" "most" "I" (.int (0 : Int32)) := Fld.start (own_fldI ev_w_XPathExpr_Function_POSITION n60)
  have F_w_XPathExpr_Function_ID_most : Fld s s.heap w_XPathExpr_Function_ID "com/example/pico_notify/piconotify/XPathExpr$Function" "most" "I" (.int (1 : Int32)) := Fld.start (own_fldI ev_w_XPathExpr_Function_ID n61)
  have F_w_XPathExpr_Function_STRING_most : Fld s s.heap w_XPathExpr_Function_STRING "com/example/pico_notify/piconotify/XPathExpr$Function" "most" "I" (.int (1 : Int32)) := Fld.start (own_fldI ev_w_XPathExpr_Function_STRING n62)
  have F_w_XPathExpr_Function_CONCAT_most : Fld s s.heap w_XPathExpr_Function_CONCAT "com/example/pico_notify/piconotify/XPathExpr$Function" "most" "I" (.int (2147483647 : Int32)) := Fld.start (own_fldI ev_w_XPathExpr_Function_CONCAT n63)
  have F_w_XPathExpr_Function_STARTS_WITH_most : Fld s s.heap w_XPathExpr_Function_STARTS_WITH "com/example/pico_notify/piconotify/XPathExpr$Function" "most" "I" (.int (2 : Int32)) := Fld.start (own_fldI ev_w_XPathExpr_Function_STARTS_WITH n64)
  have F_w_XPathExpr_Function_CONTAINS_most : Fld s s.heap w_XPathExpr_Function_CONTAINS "com/example/pico_notify/piconotify/XPathExpr$Function" "most" "I" (.int (2 : Int32)) := Fld.start (own_fldI ev_w_XPathExpr_Function_CONTAINS n65)
  have F_w_XPathExpr_Function_SUBSTRING_BEFORE_most : Fld s s.heap w_XPathExpr_Function_SUBSTRING_BEFORE "com/example/pico_notify/piconotify/XPathExpr$Function" "most" "I" (.int (2 : Int32)) := Fld.start (own_fldI ev_w_XPathExpr_Function_SUBSTRING_BEFORE n66)
  have F_w_XPathExpr_Function_SUBSTRING_AFTER_most : Fld s s.heap w_XPathExpr_Function_SUBSTRING_AFTER "com/example/pico_notify/piconotify/XPathExpr$Function" "most" "I" (.int (2 : Int32)) := Fld.start (own_fldI ev_w_XPathExpr_Function_SUBSTRING_AFTER n67)
  have F_w_XPathExpr_Function_SUBSTRING_most : Fld s s.heap w_XPathExpr_Function_SUBSTRING "com/example/pico_notify/piconotify/XPathExpr$Function" "most" "I" (.int (3 : Int32)) := Fld.start (own_fldI ev_w_XPathExpr_Function_SUBSTRING n68)
  have F_w_XPathExpr_Function_STRING_LENGTH_most : Fld s s.heap w_XPathExpr_Function_STRING_LENGTH "com/example/pico_notify/piconotify/XPathExpr$Function" "most" "I" (.int (1 : Int32)) := Fld.start (own_fldI ev_w_XPathExpr_Function_STRING_LENGTH n69)
  have F_w_XPathExpr_Function_NORMALIZE_SPACE_most : Fld s s.heap w_XPathExpr_Function_NORMALIZE_SPACE "com/example/pico_notify/piconotify/XPathExpr$Function" "most" "I" (.int (1 : Int32)) := Fld.start (own_fldI ev_w_XPathExpr_Function_NORMALIZE_SPACE n70)
  have F_w_XPathExpr_Function_TRANSLATE_most : Fld s s.heap w_XPathExpr_Function_TRANSLATE "com/example/pico_notify/piconotify/XPathExpr$Function" "most" "I" (.int (3 : Int32)) := Fld.start (own_fldI ev_w_XPathExpr_Function_TRANSLATE n71)
  have F_w_XPathExpr_Function_BOOLEAN_most : Fld s s.heap w_XPathExpr_Function_BOOLEAN "com/example/pico_notify/piconotify/XPathExpr$Function" "most" "I" (.int (1 : Int32)) := Fld.start (own_fldI ev_w_XPathExpr_Function_BOOLEAN n72)
  have F_w_XPathExpr_Function_NOT_most : Fld s s.heap w_XPathExpr_Function_NOT "com/example/pico_notify/piconotify/XPathExpr$Function" "most" "I" (.int (1 : Int32)) := Fld.start (own_fldI ev_w_XPathExpr_Function_NOT n73)
  have F_w_XPathExpr_Function_TRUE_most : Fld s s.heap w_XPathExpr_Function_TRUE "com/example/pico_notify/piconotify/XPathExpr$Function" "most" "I" (.int (0 : Int32)) := Fld.start (own_fldI ev_w_XPathExpr_Function_TRUE n74)
  have F_w_XPathExpr_Function_FALSE_most : Fld s s.heap w_XPathExpr_Function_FALSE "com/example/pico_notify/piconotify/XPathExpr$Function" "most" "I" (.int (0 : Int32)) := Fld.start (own_fldI ev_w_XPathExpr_Function_FALSE n75)
  have F_w_XPathExpr_Function_LANG_most : Fld s s.heap w_XPathExpr_Function_LANG "com/example/pico_notify/piconotify/XPathExpr$Function" "most" "I" (.int (1 : Int32)) := Fld.start (own_fldI ev_w_XPathExpr_Function_LANG n76)
  have F_w_XPathExpr_Function_NUMBER_most : Fld s s.heap w_XPathExpr_Function_NUMBER "com/example/pico_notify/piconotify/XPathExpr$Function" "most" "I" (.int (1 : Int32)) := Fld.start (own_fldI ev_w_XPathExpr_Function_NUMBER n77)
  have F_w_XPathExpr_Function_FLOOR_most : Fld s s.heap w_XPathExpr_Function_FLOOR "com/example/pico_notify/piconotify/XPathExpr$Function" "most" "I" (.int (1 : Int32)) := Fld.start (own_fldI ev_w_XPathExpr_Function_FLOOR n78)
  have F_w_XPathExpr_Function_CEILING_most : Fld s s.heap w_XPathExpr_Function_CEILING "com/example/pico_notify/piconotify/XPathExpr$Function" "most" "I" (.int (1 : Int32)) := Fld.start (own_fldI ev_w_XPathExpr_Function_CEILING n79)
  have F_w_XPathExpr_Function_ROUND_most : Fld s s.heap w_XPathExpr_Function_ROUND "com/example/pico_notify/piconotify/XPathExpr$Function" "most" "I" (.int (1 : Int32)) := Fld.start (own_fldI ev_w_XPathExpr_Function_ROUND m79)
  obtain ⟨n, o, h1, h2, h3, _, L, rfl, ⟨rfl, N⟩, hq⟩ := rm_law l s _ hw tables_1 i0 w_XPathExpr_Function_LAST w_XPathExpr_Function_POSITION w_XPathExpr_Function_COUNT w_XPathExpr_Function_ID w_XPathExpr_Function_LOCAL_NAME w_XPathExpr_Function_NAMESPACE_URI w_XPathExpr_Function_NAME w_XPathExpr_Function_STRING w_XPathExpr_Function_CONCAT w_XPathExpr_Function_STARTS_WITH w_XPathExpr_Function_CONTAINS w_XPathExpr_Function_SUBSTRING_BEFORE w_XPathExpr_Function_SUBSTRING_AFTER w_XPathExpr_Function_SUBSTRING w_XPathExpr_Function_STRING_LENGTH w_XPathExpr_Function_NORMALIZE_SPACE w_XPathExpr_Function_TRANSLATE w_XPathExpr_Function_BOOLEAN w_XPathExpr_Function_NOT w_XPathExpr_Function_TRUE w_XPathExpr_Function_FALSE w_XPathExpr_Function_LANG w_XPathExpr_Function_NUMBER w_XPathExpr_Function_SUM w_XPathExpr_Function_FLOOR w_XPathExpr_Function_CEILING w_XPathExpr_Function_ROUND s.heap s.heap.size (Old.start s) S_w_XPathExpr_Function_LAST S_w_XPathExpr_Function_POSITION S_w_XPathExpr_Function_COUNT S_w_XPathExpr_Function_ID S_w_XPathExpr_Function_LOCAL_NAME S_w_XPathExpr_Function_NAMESPACE_URI S_w_XPathExpr_Function_NAME S_w_XPathExpr_Function_STRING S_w_XPathExpr_Function_CONCAT S_w_XPathExpr_Function_STARTS_WITH S_w_XPathExpr_Function_CONTAINS S_w_XPathExpr_Function_SUBSTRING_BEFORE S_w_XPathExpr_Function_SUBSTRING_AFTER S_w_XPathExpr_Function_SUBSTRING S_w_XPathExpr_Function_STRING_LENGTH S_w_XPathExpr_Function_NORMALIZE_SPACE S_w_XPathExpr_Function_TRANSLATE S_w_XPathExpr_Function_BOOLEAN S_w_XPathExpr_Function_NOT S_w_XPathExpr_Function_TRUE S_w_XPathExpr_Function_FALSE S_w_XPathExpr_Function_LANG S_w_XPathExpr_Function_NUMBER S_w_XPathExpr_Function_SUM S_w_XPathExpr_Function_FLOOR S_w_XPathExpr_Function_CEILING S_w_XPathExpr_Function_ROUND E_w_XPathExpr_Function_LAST E_w_XPathExpr_Function_POSITION E_w_XPathExpr_Function_COUNT E_w_XPathExpr_Function_ID E_w_XPathExpr_Function_LOCAL_NAME E_w_XPathExpr_Function_NAMESPACE_URI E_w_XPathExpr_Function_NAME E_w_XPathExpr_Function_STRING E_w_XPathExpr_Function_CONCAT E_w_XPathExpr_Function_STARTS_WITH E_w_XPathExpr_Function_CONTAINS E_w_XPathExpr_Function_SUBSTRING_BEFORE E_w_XPathExpr_Function_SUBSTRING_AFTER E_w_XPathExpr_Function_SUBSTRING E_w_XPathExpr_Function_STRING_LENGTH E_w_XPathExpr_Function_NORMALIZE_SPACE E_w_XPathExpr_Function_TRANSLATE E_w_XPathExpr_Function_BOOLEAN E_w_XPathExpr_Function_NOT E_w_XPathExpr_Function_TRUE E_w_XPathExpr_Function_FALSE E_w_XPathExpr_Function_LANG E_w_XPathExpr_Function_NUMBER E_w_XPathExpr_Function_SUM E_w_XPathExpr_Function_FLOOR E_w_XPathExpr_Function_CEILING E_w_XPathExpr_Function_ROUND F_w_XPathExpr_Function_LAST_ordinal F_w_XPathExpr_Function_POSITION_ordinal F_w_XPathExpr_Function_COUNT_ordinal F_w_XPathExpr_Function_ID_ordinal F_w_XPathExpr_Function_LOCAL_NAME_ordinal F_w_XPathExpr_Function_NAMESPACE_URI_ordinal F_w_XPathExpr_Function_NAME_ordinal F_w_XPathExpr_Function_STRING_ordinal F_w_XPathExpr_Function_CONCAT_ordinal F_w_XPathExpr_Function_STARTS_WITH_ordinal F_w_XPathExpr_Function_CONTAINS_ordinal F_w_XPathExpr_Function_SUBSTRING_BEFORE_ordinal F_w_XPathExpr_Function_SUBSTRING_AFTER_ordinal F_w_XPathExpr_Function_SUBSTRING_ordinal F_w_XPathExpr_Function_STRING_LENGTH_ordinal F_w_XPathExpr_Function_NORMALIZE_SPACE_ordinal F_w_XPathExpr_Function_TRANSLATE_ordinal F_w_XPathExpr_Function_BOOLEAN_ordinal F_w_XPathExpr_Function_NOT_ordinal F_w_XPathExpr_Function_TRUE_ordinal F_w_XPathExpr_Function_FALSE_ordinal F_w_XPathExpr_Function_LANG_ordinal F_w_XPathExpr_Function_NUMBER_ordinal F_w_XPathExpr_Function_SUM_ordinal F_w_XPathExpr_Function_FLOOR_ordinal F_w_XPathExpr_Function_CEILING_ordinal F_w_XPathExpr_Function_ROUND_ordinal F_w_XPathExpr_Function_LAST_most F_w_XPathExpr_Function_POSITION_most F_w_XPathExpr_Function_COUNT_most F_w_XPathExpr_Function_ID_most F_w_XPathExpr_Function_LOCAL_NAME_most F_w_XPathExpr_Function_NAMESPACE_URI_most F_w_XPathExpr_Function_NAME_most F_w_XPathExpr_Function_STRING_most F_w_XPathExpr_Function_CONCAT_most F_w_XPathExpr_Function_STARTS_WITH_most F_w_XPathExpr_Function_CONTAINS_most F_w_XPathExpr_Function_SUBSTRING_BEFORE_most F_w_XPathExpr_Function_SUBSTRING_AFTER_most F_w_XPathExpr_Function_SUBSTRING_most F_w_XPathExpr_Function_STRING_LENGTH_most F_w_XPathExpr_Function_NORMALIZE_SPACE_most F_w_XPathExpr_Function_TRANSLATE_most F_w_XPathExpr_Function_BOOLEAN_most F_w_XPathExpr_Function_NOT_most F_w_XPathExpr_Function_TRUE_most F_w_XPathExpr_Function_FALSE_most F_w_XPathExpr_Function_LANG_most F_w_XPathExpr_Function_NUMBER_most F_w_XPathExpr_Function_SUM_most F_w_XPathExpr_Function_FLOOR_most F_w_XPathExpr_Function_CEILING_most F_w_XPathExpr_Function_ROUND_most p e ha hc hk s m _ below hf ((Spec.applies_iff_loose hf).mp happ).1 ⟨rfl, State.Warmed39.refl s, rfl⟩ trivial
  refine ⟨n, _, h1, h2, h3, hpost _ _ _ _ _ _ ⟨Cond.after_iff.mpr rfl, Cond.after_iff.mpr (eq_i res_at (Term.int_eval (1)) rfl), trivial⟩ ⟨hq.1, hq.2.1, (hq.2.2.sift fun y hy => Or.inr (N y hy)).mono (by decide) (by decide)⟩⟩
theorem main_1_1 : Claimed_1_1 := comes_1 fun _ _ _ _ _ _ h hF => ⟨h.1, hF⟩
theorem main_1_2 : Claimed_1_2 := comes_1 fun _ _ _ _ _ _ h hF => ⟨h.2.1, hF⟩
end Jvm.Pilot.@@N@@
namespace Jvm.Pilot.@@N@@
open Jvm Jvm.ClassFile Sem Op Lib Jvm.Free Jvm.Stand Jvm.Pilot.@@N@@.Jvm.D
/-! MADE BY PROGRAM (witnessworld.py) out of the Statement's table words and the real class files: 13 classes; the members and pool entries that the words name. The judged class is class 1, her method 1. -/
namespace start1
open Jvm.ClassFile
def u (s : String) : CpInfo := .utf8 (stringToUtf16 s)
/-- a pool by its gaps: so many unusable entries, then the entry; so many at the end -/
def gap : Nat → List CpInfo → List CpInfo
  | 0, r => r
  | n + 1, r => .unusable :: gap n r
def poolList (es : List (Nat × CpInfo)) (last : Nat) : List CpInfo := es.foldr (fun e r => gap e.1 (e.2 :: r)) (gap last [])
def pool (es : List (Nat × CpInfo)) (last : Nat) : Array CpInfo := ⟨poolList es last⟩
def fileOf (pool : Array CpInfo) (this : Nat) (attrs : Array Attribute := #[]) (ms : Array MethodInfo := #[]) (fl : Nat := 33) (sup : Nat := 0) (ifs : Array Nat := #[]) (fds : Array FieldInfo := #[]) : ClassFile where
  minorVersion := 0
  majorVersion := 65
  constantPool := pool
  accessFlags := fl
  thisClass := this
  superClass := sup
  interfaces := ifs
  fields := fds
  methods := ms
  attributes := attrs
def plain (name : String) (sup : Option ClassId) : Class where
  name := name
  kind := .ordinary
  loader := none
  accessFlags := 33
  super := sup
  interfaces := #[]
  cf := none
  fields := #[]
  methods := #[]
  instanceTypes := #[]
  staticTypes := #[]
  resolved := #[]
  callSites := []
  init := .initialized
  statics := none
  mirror := none

def pool0 : Array CpInfo := pool [(5, u "<init>"), (0, u "()V"), (1, .class_ 10), (1, u "java/lang/Object")] 113

def k0m0 : Method := { name := "<init>", desc := "()V", sig := { parameters := [], returnType := none }, accessFlags := 1, code := none }
/-- java/lang/Object -/
def k0 : Class := { plain "java/lang/Object" none with
  accessFlags := 33
  interfaces := #[]
  cf := some (fileOf pool0 8 #[] #[{ accessFlags := 1, nameIndex := 5, descriptorIndex := 6, attributes := #[] }] 33 0 #[] #[])
  fields := #[]
  methods := #[k0m0]
  instanceTypes := #[]
  staticTypes := #[]
  resolved := Array.replicate 124 none
  statics := none }

def pool1 : Array CpInfo := pool [(2, .class_ 4), (1, u "java/lang/Object"), (0, u "<init>"), (0, u "()V"), (0, .class_ 8), (0, u "com/example/pico_notify/piconotify/XPathExpr$Function"), (0, .fieldref 7 10), (0, .nameAndType 11 12), (0, u "LAST"), (0, u "Lcom/example/pico_notify/piconotify/XPathExpr$Function;"), (0, .fieldref 7 14), (0, .nameAndType 15 12), (0, u "POSITION"), (0, .fieldref 7 17), (0, .nameAndType 18 12), (0, u "COUNT"), (0, .fieldref 7 20), (0, .nameAndType 21 12), (0, u "ID"), (0, .fieldref 7 23), (0, .nameAndType 24 12), (0, u "LOCAL_NAME"), (0, .fieldref 7 26), (0, .nameAndType 27 12), (0, u "NAMESPACE_URI"), (0, .fieldref 7 29), (0, .nameAndType 30 12), (0, u "NAME"), (0, .fieldref 7 32), (0, .nameAndType 33 12), (0, u "STRING"), (0, .fieldref 7 35), (0, .nameAndType 36 12), (0, u "CONCAT"), (0, .fieldref 7 38), (0, .nameAndType 39 12), (0, u "STARTS_WITH"), (0, .fieldref 7 41), (0, .nameAndType 42 12), (0, u "CONTAINS"), (0, .fieldref 7 44), (0, .nameAndType 45 12), (0, u "SUBSTRING_BEFORE"), (0, .fieldref 7 47), (0, .nameAndType 48 12), (0, u "SUBSTRING_AFTER"), (0, .fieldref 7 50), (0, .nameAndType 51 12), (0, u "SUBSTRING"), (0, .fieldref 7 53), (0, .nameAndType 54 12), (0, u "STRING_LENGTH"), (0, .fieldref 7 56), (0, .nameAndType 57 12), (0, u "NORMALIZE_SPACE"), (0, .fieldref 7 59), (0, .nameAndType 60 12), (0, u "TRANSLATE"), (0, .fieldref 7 62), (0, .nameAndType 63 12), (0, u "BOOLEAN"), (0, .fieldref 7 65), (0, .nameAndType 66 12), (0, u "NOT"), (0, .fieldref 7 68), (0, .nameAndType 69 12), (0, u "TRUE"), (0, .fieldref 7 71), (0, .nameAndType 72 12), (0, u "FALSE"), (0, .fieldref 7 74), (0, .nameAndType 75 12), (0, u "LANG"), (0, .fieldref 7 77), (0, .nameAndType 78 12), (0, u "NUMBER"), (0, .fieldref 7 80), (0, .nameAndType 81 12), (0, u "SUM"), (0, .fieldref 7 83), (0, .nameAndType 84 12), (0, u "FLOOR"), (0, .fieldref 7 86), (0, .nameAndType 87 12), (0, u "CEILING"), (0, .fieldref 7 89), (0, .nameAndType 90 12), (0, u "ROUND"), (0, .integer 2147483647), (0, .methodref 7 93), (0, .nameAndType 94 95), (0, u "takesNodeSets"), (0, u "()Z"), (0, .fieldref 7 97), (0, .nameAndType 98 99), (0, u "most"), (0, u "I"), (0, .class_ 101), (0, u "com/example/pico_notify/piconotify/FunctionTakesNodeSetsPinLaw"), (2, u "law"), (0, u "(I)Z")] 9

def k1m0 : Method := { name := "<init>", desc := "()V", sig := { parameters := [], returnType := none }, accessFlags := 2, code := none }
def k1c1 : Code := { maxStack := 4, maxLocals := 6, code := code, exceptionTable := #[], attributes := #[] }
def k1m1 : Method := { name := "law", desc := "(I)Z", sig := { parameters := [.int], returnType := some .boolean }, accessFlags := 9, code := some k1c1 }
/-- com/example/pico_notify/piconotify/FunctionTakesNodeSetsPinLaw -/
def k1 : Class := { plain "com/example/pico_notify/piconotify/FunctionTakesNodeSetsPinLaw" (some 0) with
  accessFlags := 49
  interfaces := #[]
  cf := some (fileOf pool1 100 #[] #[{ accessFlags := 2, nameIndex := 5, descriptorIndex := 6, attributes := #[] }, { accessFlags := 9, nameIndex := 104, descriptorIndex := 105, attributes := #[] }] 49 2 #[] #[])
  fields := #[]
  methods := #[k1m0, k1m1]
  instanceTypes := #[]
  staticTypes := #[]
  resolved := Array.replicate 115 none
  statics := none }

def pool2 : Array CpInfo := pool [(1, .class_ 2), (0, u "java/lang/constant/Constable"), (0, .class_ 4), (0, u "java/lang/Object")] 6

/-- java/lang/constant/Constable -/
def k2 : Class := { plain "java/lang/constant/Constable" (some 0) with
  accessFlags := 1537
  interfaces := #[]
  cf := some (fileOf pool2 1 #[] #[] 1537 3 #[] #[])
  fields := #[]
  methods := #[]
  instanceTypes := #[]
  staticTypes := #[]
  resolved := Array.replicate 11 none
  statics := none }

def pool3 : Array CpInfo := pool [(1, .class_ 2), (0, u "java/lang/Comparable"), (0, .class_ 4), (0, u "java/lang/Object")] 7

/-- java/lang/Comparable -/
def k3 : Class := { plain "java/lang/Comparable" (some 0) with
  accessFlags := 1537
  interfaces := #[]
  cf := some (fileOf pool3 1 #[] #[] 1537 3 #[] #[])
  fields := #[]
  methods := #[]
  instanceTypes := #[]
  staticTypes := #[]
  resolved := Array.replicate 12 none
  statics := none }

def pool4 : Array CpInfo := pool [(1, .class_ 2), (0, u "java/io/Serializable"), (0, .class_ 4), (0, u "java/lang/Object")] 2

/-- java/io/Serializable -/
def k4 : Class := { plain "java/io/Serializable" (some 0) with
  accessFlags := 1537
  interfaces := #[]
  cf := some (fileOf pool4 1 #[] #[] 1537 3 #[] #[])
  fields := #[]
  methods := #[]
  instanceTypes := #[]
  staticTypes := #[]
  resolved := Array.replicate 7 none
  statics := none }

def pool5 : Array CpInfo := pool [(2, .class_ 4), (1, u "java/lang/Enum"), (0, u "name"), (0, u "Ljava/lang/String;"), (2, u "ordinal"), (0, u "I"), (1, .class_ 14), (1, u "java/lang/Object"), (4, u "hash"), (86, .class_ 108), (1, u "java/lang/Enum$EnumDesc"), (2, .class_ 112), (0, u "java/lang/constant/Constable"), (0, .class_ 114), (0, u "java/lang/Comparable"), (0, .class_ 116), (0, u "java/io/Serializable")] 87

/-- java/lang/Enum -/
def k5 : Class := { plain "java/lang/Enum" (some 0) with
  accessFlags := 1057
  interfaces := #[2, 3, 4]
  cf := some (fileOf pool5 2 #[.nestMembers #[106]] #[] 1057 12 #[111, 113, 115] #[{ accessFlags := 18, nameIndex := 5, descriptorIndex := 6, attributes := #[] }, { accessFlags := 18, nameIndex := 9, descriptorIndex := 10, attributes := #[] }, { accessFlags := 2, nameIndex := 19, descriptorIndex := 10, attributes := #[] }])
  fields := #[{ name := "name", type := (.object "java/lang/String"), accessFlags := 18, slot := 0, constantValue := 0 }, { name := "ordinal", type := .int, accessFlags := 18, slot := 1, constantValue := 0 }, { name := "hash", type := .int, accessFlags := 2, slot := 2, constantValue := 0 }]
  methods := #[]
  instanceTypes := #[(.object "java/lang/String"), .int, .int]
  staticTypes := #[]
  resolved := Array.replicate 204 none
  statics := none }

def pool6 : Array CpInfo := pool [(1, .class_ 2), (0, u "com/example/pico_notify/piconotify/XPathExpr$Function"), (2, u "LAST"), (0, u "Lcom/example/pico_notify/piconotify/XPathExpr$Function;"), (2, u "POSITION"), (0, .fieldref 1 11), (0, .nameAndType 12 6), (0, u "COUNT"), (2, u "ID"), (0, .fieldref 1 17), (0, .nameAndType 18 6), (0, u "LOCAL_NAME"), (0, .fieldref 1 20), (0, .nameAndType 21 6), (0, u "NAMESPACE_URI"), (0, .fieldref 1 23), (0, .nameAndType 24 6), (0, u "NAME"), (2, u "STRING"), (2, u "CONCAT"), (2, u "STARTS_WITH"), (2, u "CONTAINS"), (2, u "SUBSTRING_BEFORE"), (2, u "SUBSTRING_AFTER"), (2, u "SUBSTRING"), (2, u "STRING_LENGTH"), (2, u "NORMALIZE_SPACE"), (2, u "TRANSLATE"), (2, u "BOOLEAN"), (2, u "NOT"), (2, u "TRUE"), (2, u "FALSE"), (2, u "LANG"), (2, u "NUMBER"), (0, .fieldref 1 74), (0, .nameAndType 75 6), (0, u "SUM"), (2, u "FLOOR"), (2, u "CEILING"), (2, u "ROUND"), (2, u "$VALUES"), (0, u "[Lcom/example/pico_notify/piconotify/XPathExpr$Function;"), (6, .class_ 97), (1, u "java/lang/Enum"), (8, u "functionName"), (0, u "Ljava/lang/String;"), (2, u "type"), (0, u "Lcom/example/pico_notify/piconotify/XPathExpr$Type;"), (2, u "fewest"), (0, u "I"), (2, u "most"), (109, u "takesNodeSets"), (0, u "()Z"), (9, .class_ 240), (0, u "com/example/pico_notify/piconotify/XPathExpr")] 3

def k6c0 : Code := { maxStack := 2, maxLocals := 1, code := prog_23_method_4_code, exceptionTable := #[], attributes := #[] }
def k6m0 : Method := { name := "takesNodeSets", desc := "()Z", sig := { parameters := [], returnType := some .boolean }, accessFlags := 0, code := some k6c0 }
/-- com/example/pico_notify/piconotify/XPathExpr$Function -/
def k6 : Class := { plain "com/example/pico_notify/piconotify/XPathExpr$Function" (some 5) with
  accessFlags := 16433
  interfaces := #[]
  cf := some (fileOf pool6 1 #[.nestHost 239] #[{ accessFlags := 0, nameIndex := 228, descriptorIndex := 229, attributes := #[] }] 16433 95 #[] #[{ accessFlags := 16409, nameIndex := 5, descriptorIndex := 6, attributes := #[] }, { accessFlags := 16409, nameIndex := 9, descriptorIndex := 6, attributes := #[] }, { accessFlags := 16409, nameIndex := 12, descriptorIndex := 6, attributes := #[] }, { accessFlags := 16409, nameIndex := 15, descriptorIndex := 6, attributes := #[] }, { accessFlags := 16409, nameIndex := 18, descriptorIndex := 6, attributes := #[] }, { accessFlags := 16409, nameIndex := 21, descriptorIndex := 6, attributes := #[] }, { accessFlags := 16409, nameIndex := 24, descriptorIndex := 6, attributes := #[] }, { accessFlags := 16409, nameIndex := 27, descriptorIndex := 6, attributes := #[] }, { accessFlags := 16409, nameIndex := 30, descriptorIndex := 6, attributes := #[] }, { accessFlags := 16409, nameIndex := 33, descriptorIndex := 6, attributes := #[] }, { accessFlags := 16409, nameIndex := 36, descriptorIndex := 6, attributes := #[] }, { accessFlags := 16409, nameIndex := 39, descriptorIndex := 6, attributes := #[] }, { accessFlags := 16409, nameIndex := 42, descriptorIndex := 6, attributes := #[] }, { accessFlags := 16409, nameIndex := 45, descriptorIndex := 6, attributes := #[] }, { accessFlags := 16409, nameIndex := 48, descriptorIndex := 6, attributes := #[] }, { accessFlags := 16409, nameIndex := 51, descriptorIndex := 6, attributes := #[] }, { accessFlags := 16409, nameIndex := 54, descriptorIndex := 6, attributes := #[] }, { accessFlags := 16409, nameIndex := 57, descriptorIndex := 6, attributes := #[] }, { accessFlags := 16409, nameIndex := 60, descriptorIndex := 6, attributes := #[] }, { accessFlags := 16409, nameIndex := 63, descriptorIndex := 6, attributes := #[] }, { accessFlags := 16409, nameIndex := 66, descriptorIndex := 6, attributes := #[] }, { accessFlags := 16409, nameIndex := 69, descriptorIndex := 6, attributes := #[] }, { accessFlags := 16409, nameIndex := 72, descriptorIndex := 6, attributes := #[] }, { accessFlags := 16409, nameIndex := 75, descriptorIndex := 6, attributes := #[] }, { accessFlags := 16409, nameIndex := 78, descriptorIndex := 6, attributes := #[] }, { accessFlags := 16409, nameIndex := 81, descriptorIndex := 6, attributes := #[] }, { accessFlags := 16409, nameIndex := 84, descriptorIndex := 6, attributes := #[] }, { accessFlags := 16, nameIndex := 106, descriptorIndex := 107, attributes := #[] }, { accessFlags := 16, nameIndex := 110, descriptorIndex := 111, attributes := #[] }, { accessFlags := 16, nameIndex := 114, descriptorIndex := 115, attributes := #[] }, { accessFlags := 16, nameIndex := 118, descriptorIndex := 115, attributes := #[] }, { accessFlags := 4122, nameIndex := 87, descriptorIndex := 88, attributes := #[] }])
  fields := #[{ name := "LAST", type := (.object "com/example/pico_notify/piconotify/XPathExpr$Function"), accessFlags := 16409, slot := 0, constantValue := 0 }, { name := "POSITION", type := (.object "com/example/pico_notify/piconotify/XPathExpr$Function"), accessFlags := 16409, slot := 1, constantValue := 0 }, { name := "COUNT", type := (.object "com/example/pico_notify/piconotify/XPathExpr$Function"), accessFlags := 16409, slot := 2, constantValue := 0 }, { name := "ID", type := (.object "com/example/pico_notify/piconotify/XPathExpr$Function"), accessFlags := 16409, slot := 3, constantValue := 0 }, { name := "LOCAL_NAME", type := (.object "com/example/pico_notify/piconotify/XPathExpr$Function"), accessFlags := 16409, slot := 4, constantValue := 0 }, { name := "NAMESPACE_URI", type := (.object "com/example/pico_notify/piconotify/XPathExpr$Function"), accessFlags := 16409, slot := 5, constantValue := 0 }, { name := "NAME", type := (.object "com/example/pico_notify/piconotify/XPathExpr$Function"), accessFlags := 16409, slot := 6, constantValue := 0 }, { name := "STRING", type := (.object "com/example/pico_notify/piconotify/XPathExpr$Function"), accessFlags := 16409, slot := 7, constantValue := 0 }, { name := "CONCAT", type := (.object "com/example/pico_notify/piconotify/XPathExpr$Function"), accessFlags := 16409, slot := 8, constantValue := 0 }, { name := "STARTS_WITH", type := (.object "com/example/pico_notify/piconotify/XPathExpr$Function"), accessFlags := 16409, slot := 9, constantValue := 0 }, { name := "CONTAINS", type := (.object "com/example/pico_notify/piconotify/XPathExpr$Function"), accessFlags := 16409, slot := 10, constantValue := 0 }, { name := "SUBSTRING_BEFORE", type := (.object "com/example/pico_notify/piconotify/XPathExpr$Function"), accessFlags := 16409, slot := 11, constantValue := 0 }, { name := "SUBSTRING_AFTER", type := (.object "com/example/pico_notify/piconotify/XPathExpr$Function"), accessFlags := 16409, slot := 12, constantValue := 0 }, { name := "SUBSTRING", type := (.object "com/example/pico_notify/piconotify/XPathExpr$Function"), accessFlags := 16409, slot := 13, constantValue := 0 }, { name := "STRING_LENGTH", type := (.object "com/example/pico_notify/piconotify/XPathExpr$Function"), accessFlags := 16409, slot := 14, constantValue := 0 }, { name := "NORMALIZE_SPACE", type := (.object "com/example/pico_notify/piconotify/XPathExpr$Function"), accessFlags := 16409, slot := 15, constantValue := 0 }, { name := "TRANSLATE", type := (.object "com/example/pico_notify/piconotify/XPathExpr$Function"), accessFlags := 16409, slot := 16, constantValue := 0 }, { name := "BOOLEAN", type := (.object "com/example/pico_notify/piconotify/XPathExpr$Function"), accessFlags := 16409, slot := 17, constantValue := 0 }, { name := "NOT", type := (.object "com/example/pico_notify/piconotify/XPathExpr$Function"), accessFlags := 16409, slot := 18, constantValue := 0 }, { name := "TRUE", type := (.object "com/example/pico_notify/piconotify/XPathExpr$Function"), accessFlags := 16409, slot := 19, constantValue := 0 }, { name := "FALSE", type := (.object "com/example/pico_notify/piconotify/XPathExpr$Function"), accessFlags := 16409, slot := 20, constantValue := 0 }, { name := "LANG", type := (.object "com/example/pico_notify/piconotify/XPathExpr$Function"), accessFlags := 16409, slot := 21, constantValue := 0 }, { name := "NUMBER", type := (.object "com/example/pico_notify/piconotify/XPathExpr$Function"), accessFlags := 16409, slot := 22, constantValue := 0 }, { name := "SUM", type := (.object "com/example/pico_notify/piconotify/XPathExpr$Function"), accessFlags := 16409, slot := 23, constantValue := 0 }, { name := "FLOOR", type := (.object "com/example/pico_notify/piconotify/XPathExpr$Function"), accessFlags := 16409, slot := 24, constantValue := 0 }, { name := "CEILING", type := (.object "com/example/pico_notify/piconotify/XPathExpr$Function"), accessFlags := 16409, slot := 25, constantValue := 0 }, { name := "ROUND", type := (.object "com/example/pico_notify/piconotify/XPathExpr$Function"), accessFlags := 16409, slot := 26, constantValue := 0 }, { name := "functionName", type := (.object "java/lang/String"), accessFlags := 16, slot := 3, constantValue := 0 }, { name := "type", type := (.object "com/example/pico_notify/piconotify/XPathExpr$Type"), accessFlags := 16, slot := 4, constantValue := 0 }, { name := "fewest", type := .int, accessFlags := 16, slot := 5, constantValue := 0 }, { name := "most", type := .int, accessFlags := 16, slot := 6, constantValue := 0 }, { name := "$VALUES", type := (.array (.object "com/example/pico_notify/piconotify/XPathExpr$Function")), accessFlags := 4122, slot := 27, constantValue := 0 }]
  methods := #[k6m0]
  instanceTypes := #[(.object "java/lang/String"), .int, .int, (.object "java/lang/String"), (.object "com/example/pico_notify/piconotify/XPathExpr$Type"), .int, .int]
  staticTypes := #[(.object "com/example/pico_notify/piconotify/XPathExpr$Function"), (.object "com/example/pico_notify/piconotify/XPathExpr$Function"), (.object "com/example/pico_notify/piconotify/XPathExpr$Function"), (.object "com/example/pico_notify/piconotify/XPathExpr$Function"), (.object "com/example/pico_notify/piconotify/XPathExpr$Function"), (.object "com/example/pico_notify/piconotify/XPathExpr$Function"), (.object "com/example/pico_notify/piconotify/XPathExpr$Function"), (.object "com/example/pico_notify/piconotify/XPathExpr$Function"), (.object "com/example/pico_notify/piconotify/XPathExpr$Function"), (.object "com/example/pico_notify/piconotify/XPathExpr$Function"), (.object "com/example/pico_notify/piconotify/XPathExpr$Function"), (.object "com/example/pico_notify/piconotify/XPathExpr$Function"), (.object "com/example/pico_notify/piconotify/XPathExpr$Function"), (.object "com/example/pico_notify/piconotify/XPathExpr$Function"), (.object "com/example/pico_notify/piconotify/XPathExpr$Function"), (.object "com/example/pico_notify/piconotify/XPathExpr$Function"), (.object "com/example/pico_notify/piconotify/XPathExpr$Function"), (.object "com/example/pico_notify/piconotify/XPathExpr$Function"), (.object "com/example/pico_notify/piconotify/XPathExpr$Function"), (.object "com/example/pico_notify/piconotify/XPathExpr$Function"), (.object "com/example/pico_notify/piconotify/XPathExpr$Function"), (.object "com/example/pico_notify/piconotify/XPathExpr$Function"), (.object "com/example/pico_notify/piconotify/XPathExpr$Function"), (.object "com/example/pico_notify/piconotify/XPathExpr$Function"), (.object "com/example/pico_notify/piconotify/XPathExpr$Function"), (.object "com/example/pico_notify/piconotify/XPathExpr$Function"), (.object "com/example/pico_notify/piconotify/XPathExpr$Function"), (.array (.object "com/example/pico_notify/piconotify/XPathExpr$Function"))]
  resolved := Array.replicate 244 none
  statics := some 0 }

def pool7 : Array CpInfo := pool [(1, u "java/lang/Cloneable"), (0, .class_ 1), (0, u "java/lang/Object"), (0, .class_ 3)] 3

/-- java/lang/Cloneable -/
def k7 : Class := { plain "java/lang/Cloneable" (some 0) with
  accessFlags := 1537
  interfaces := #[]
  cf := some (fileOf pool7 2 #[] #[] 1537 4 #[] #[])
  fields := #[]
  methods := #[]
  instanceTypes := #[]
  staticTypes := #[]
  resolved := Array.replicate 8 none
  statics := none }

/-- the primitive byte -/
def k8 : Class := { plain "byte" none with kind := .primitive 'B', accessFlags := 0x411 }
/-- [B -/
def k9 : Class := { plain "[B" (some 0) with kind := .array 8 .byte, interfaces := #[7, 4], accessFlags := 1041 }

/-- the primitive int -/
def k10 : Class := { plain "int" none with kind := .primitive 'I', accessFlags := 0x411 }
/-- [I -/
def k11 : Class := { plain "[I" (some 0) with kind := .array 10 .int, interfaces := #[7, 4], accessFlags := 1041 }

/-- [Lcom/example/pico_notify/piconotify/XPathExpr$Function; -/
def k12 : Class := { plain "[Lcom/example/pico_notify/piconotify/XPathExpr$Function;" (some 0) with kind := .array 6 (.object "com/example/pico_notify/piconotify/XPathExpr$Function"), interfaces := #[7, 4], accessFlags := 1041 }

def heap : Heap := #[{ cls := 6, slots := #[.ref 1, .ref 2, .ref 3, .ref 4, .ref 5, .ref 6, .ref 7, .ref 8, .ref 9, .ref 10, .ref 11, .ref 12, .ref 13, .ref 14, .ref 15, .ref 16, .ref 17, .ref 18, .ref 19, .ref 20, .ref 21, .ref 22, .ref 23, .ref 24, .ref 25, .ref 26, .ref 27, .null], vm := .statics 6 },
  { cls := 6, slots := #[.null, .int 0, .int 0, .null, .null, .int 0, .int 0], vm := .none },
  { cls := 6, slots := #[.null, .int 1, .int 0, .null, .null, .int 0, .int 0], vm := .none },
  { cls := 6, slots := #[.null, .int 2, .int 0, .null, .null, .int 0, .int 1], vm := .none },
  { cls := 6, slots := #[.null, .int 3, .int 0, .null, .null, .int 0, .int 1], vm := .none },
  { cls := 6, slots := #[.null, .int 4, .int 0, .null, .null, .int 0, .int 1], vm := .none },
  { cls := 6, slots := #[.null, .int 5, .int 0, .null, .null, .int 0, .int 1], vm := .none },
  { cls := 6, slots := #[.null, .int 6, .int 0, .null, .null, .int 0, .int 1], vm := .none },
  { cls := 6, slots := #[.null, .int 7, .int 0, .null, .null, .int 0, .int 1], vm := .none },
  { cls := 6, slots := #[.null, .int 8, .int 0, .null, .null, .int 0, .int 2147483647], vm := .none },
  { cls := 6, slots := #[.null, .int 9, .int 0, .null, .null, .int 0, .int 2], vm := .none },
  { cls := 6, slots := #[.null, .int 10, .int 0, .null, .null, .int 0, .int 2], vm := .none },
  { cls := 6, slots := #[.null, .int 11, .int 0, .null, .null, .int 0, .int 2], vm := .none },
  { cls := 6, slots := #[.null, .int 12, .int 0, .null, .null, .int 0, .int 2], vm := .none },
  { cls := 6, slots := #[.null, .int 13, .int 0, .null, .null, .int 0, .int 3], vm := .none },
  { cls := 6, slots := #[.null, .int 14, .int 0, .null, .null, .int 0, .int 1], vm := .none },
  { cls := 6, slots := #[.null, .int 15, .int 0, .null, .null, .int 0, .int 1], vm := .none },
  { cls := 6, slots := #[.null, .int 16, .int 0, .null, .null, .int 0, .int 3], vm := .none },
  { cls := 6, slots := #[.null, .int 17, .int 0, .null, .null, .int 0, .int 1], vm := .none },
  { cls := 6, slots := #[.null, .int 18, .int 0, .null, .null, .int 0, .int 1], vm := .none },
  { cls := 6, slots := #[.null, .int 19, .int 0, .null, .null, .int 0, .int 0], vm := .none },
  { cls := 6, slots := #[.null, .int 20, .int 0, .null, .null, .int 0, .int 0], vm := .none },
  { cls := 6, slots := #[.null, .int 21, .int 0, .null, .null, .int 0, .int 1], vm := .none },
  { cls := 6, slots := #[.null, .int 22, .int 0, .null, .null, .int 0, .int 1], vm := .none },
  { cls := 6, slots := #[.null, .int 23, .int 0, .null, .null, .int 0, .int 1], vm := .none },
  { cls := 6, slots := #[.null, .int 24, .int 0, .null, .null, .int 0, .int 1], vm := .none },
  { cls := 6, slots := #[.null, .int 25, .int 0, .null, .null, .int 0, .int 1], vm := .none },
  { cls := 6, slots := #[.null, .int 26, .int 0, .null, .null, .int 0, .int 1], vm := .none }]
def classes : Array Class := #[k0, k1, k2, k3, k4, k5, k6, k7, k8, k9, k10, k11, k12]
def interned : List (Array UInt16 × Addr) := []
def slotsUsed : Nat := 217
def theMethod : MethodId := ⟨1, 1⟩
def args0 : Array Value := #[.int 5]
def aboutOver (below : List Frame) : State where
  vm := { classes := classes, interned := interned.toArray }
  heap := heap
  slotsUsed := slotsUsed
  threads := #[{ frames := .invoking theMethod args0 :: below }]
def below0 : List Frame := [.native { method := ⟨0, 0⟩, args := #[] }]
def about1 : State := aboutOver below0
def p0 : Program := .bare "" "" ""
def e0 : Env := launch0.env 0 0 0
theorem w_frames : about1.frames = Frame.invoking theMethod args0 :: below0 := rfl
set_option maxRecDepth 65536 in
theorem w_args : argsFit about1.vm theMethod args0 = true := by decide +kernel
set_option maxRecDepth 65536 in
theorem w_heap : heapFits about1 = true := by decide +kernel
set_option maxRecDepth 65536 in
theorem w_runnable : about1.curStatus? = some .runnable := by decide +kernel
set_option maxRecDepth 65536 in
theorem w_alone : about1.alone = true := by decide +kernel
set_option maxRecDepth 65536 in
theorem w_named : about1.methodNamed? x = some theMethod := by decide +kernel
set_option maxRecDepth 65536 in
theorem w_hears : about1.hears theMethod below0 = true := by decide +kernel
set_option maxRecDepth 65536 in
theorem w_ripe : about1.ripe theMethod args0 below0 = true := by decide +kernel
theorem w_running : about1.status = .running := rfl
set_option maxRecDepth 65536 in
theorem w_room : about1.hasRoom e0.platform room_1 = true :=
  launch0.hasRoom_least _ room_1 (by decide +kernel) (by decide +kernel) (by decide +kernel) (by decide +kernel) (by decide +kernel) (by decide +kernel)
theorem allAtoms_all (ts : List Jvm.Cond) (a : Array Jvm.Value) (st : Jvm.State) : (allAtoms ts).before a st = ts.all (fun c => c.before a st) := by
  induction ts with
  | nil => rfl
  | cons c t ih =>
    show (Jvm.Cond.and c (allAtoms t)).before a st = _
    rw [Jvm.Cond.before_and, ih, List.all_cons]
def words1 : List Jvm.Cond := Jvm.Cond.code x code maxLocals ret :: tables_1
/-- a 'code' word, met by the world's own term for the bytes: nothing is compared byte by byte -/
theorem code_word {y : MethodName} {bytes : ByteArray} {mx : Nat} {rt : Option FieldType} {a : Array Value} {s : State} {m : MethodId} {meth : Method} {c : Code} (h1 : s.methodNamed? y = some m) (h2 : s.vm.method? m = some meth) (h3 : meth.code = some c) (h4 : c.code = bytes)
    (h5 : (c.maxLocals == mx && c.exceptionTable.isEmpty && decide (c.maxStack ≤ mostOperands) && decide (meth.sig.returnType = rt) && !meth.locks && decide (parseMethodDescriptor y.desc = some meth.sig)) = true) : (Jvm.Cond.code y bytes mx rt).before a s = true := by
  simp only [Bool.and_eq_true, beq_iff_eq, Bool.not_eq_true', decide_eq_true_eq] at h5
  obtain ⟨⟨⟨⟨⟨g1, g2⟩, g3⟩, g4⟩, g5⟩, g6⟩ := h5
  simp [Cond.before, Cond.holds, Cond.value, h1, h2, h3, h4, g1, g2, g3, g4, g5, g6]
def isCode : Jvm.Cond → Bool
  | .code _ _ _ _ => true
  | _ => false
theorem all_split {L : List Jvm.Cond} {P : Jvm.Cond → Bool} (h1 : L.all (fun c => isCode c || P c) = true) (h2 : ∀ c ∈ L.filter isCode, P c = true) : L.all P = true := by
  refine List.all_eq_true.mpr fun c hc => ?_
  have h := List.all_eq_true.mp h1 c hc
  rcases Bool.eq_false_or_eq_true (isCode c) with hi | hi
  · exact h2 c (List.mem_filter.mpr ⟨hc, hi⟩)
  · simpa [hi] using h
set_option maxRecDepth 65536 in
theorem w_c0 : (Jvm.Cond.code x code maxLocals ret).before args0 about1 = true := code_word (m := ⟨1, 1⟩) (meth := k1m1) (c := k1c1) (by decide +kernel) rfl rfl rfl (by decide +kernel)
set_option maxRecDepth 65536 in
theorem w_c1 : (Jvm.Cond.code ({ cls := "com/example/pico_notify/piconotify/XPathExpr$Function", name := "takesNodeSets", desc := "()Z" } : Jvm.MethodName) prog_23_method_4_code (1 : Nat) (Option.some Jvm.ClassFile.FieldType.boolean)).before args0 about1 = true := code_word (m := ⟨6, 0⟩) (meth := k6m0) (c := k6c0) (by decide +kernel) rfl rfl rfl (by decide +kernel)
def codes1 : List Jvm.Cond := [Jvm.Cond.code x code maxLocals ret, Jvm.Cond.code ({ cls := "com/example/pico_notify/piconotify/XPathExpr$Function", name := "takesNodeSets", desc := "()Z" } : Jvm.MethodName) prog_23_method_4_code (1 : Nat) (Option.some Jvm.ClassFile.FieldType.boolean)]
set_option maxRecDepth 65536 in
theorem codes_eq : words1.filter isCode = codes1 := rfl
theorem w_codes : ∀ c ∈ words1.filter isCode, c.before args0 about1 = true := by
  rw [codes_eq]
  intro c hc
  simp only [codes1, List.mem_cons, List.not_mem_nil, or_false] at hc
  rcases hc with rfl | rfl
  · exact w_c0
  · exact w_c1
set_option maxRecDepth 65536 in
theorem w_t1 : (words1.take 24).all (fun c => isCode c || c.before args0 about1) = true := by decide +kernel
set_option maxRecDepth 65536 in
theorem w_t2 : ((words1.drop 24).take 24).all (fun c => isCode c || c.before args0 about1) = true := by decide +kernel
set_option maxRecDepth 65536 in
theorem w_t3 : ((words1.drop 24).drop 24).all (fun c => isCode c || c.before args0 about1) = true := by decide +kernel
theorem w_tables : (allAtoms (Jvm.Cond.code x code maxLocals ret :: tables_1)).before args0 about1 = true := by
  rw [allAtoms_all]
  show words1.all (fun c => c.before args0 about1) = true
  refine all_split ?_ w_codes
  rw [← List.take_append_drop 24 words1, List.all_append, w_t1, ← List.take_append_drop 24 (words1.drop 24), List.all_append, w_t2, w_t3]
  rfl
set_option maxRecDepth 65536 in
theorem w_case : (Jvm.Cond.and given_1 narrow_1).before args0 about1 = true := by decide +kernel
theorem w_applies : (headSpec (Jvm.Cond.code x code maxLocals ret :: tables_1) room_1).applies x e0.platform about1 = true :=
  (Spec.applies_iff w_frames).mpr ⟨w_running, w_runnable, w_alone, w_named, w_hears, w_ripe, w_room, w_tables⟩
theorem atStart : AtStart classFile x code maxLocals ret World_1 tables_1 room_1 Calls_1 rest_1 Pre_1 launch0 p0 e0 about1 theMethod args0 below0 :=
  ⟨lists_1, trivial, launch0.admits_env _ _ _, launch0.least_env, fairChoices_fair.cas, fairChoices_fair.clock, w_frames, w_args, w_heap, w_applies, trivial, trivial, w_case⟩
end start1
theorem witness_1 : WitnessClaimed_1 := ⟨start1.p0, start1.e0, start1.about1, start1.theMethod, start1.args0, start1.below0, start1.atStart⟩
end Jvm.Pilot.@@N@@
