import JvmDerived
import JvmDerived.Pilot.@@N@@Statement
import JvmDerived.Pilot.@@N@@Code
set_option linter.unusedVariables false
set_option linter.unusedSimpArgs false
namespace Jvm.Pilot.@@N@@
open Jvm Jvm.ClassFile Sem Op Lib Jvm.Free Jvm.Stand Jvm.LawKit Jvm.RoadKit Bundle Jvm.Pilot.@@N@@.Jvm.D
theorem own_b1 {v A K : Int32} (h : v < A) (d : ¬ (K < A)) : v < K := by rw [Int32.lt_iff_toInt_lt] at *; omega
theorem own_b2 {v A K : Int32} (h : v < A) (d : A.toInt ≤ K.toInt + 1) : ¬ (K < v) := by rw [Int32.lt_iff_toInt_lt] at *; omega
theorem own_b3 {v A K : Int32} (h : ¬ (v < A)) (d : ¬ (A < K)) : ¬ (v < K) := by rw [Int32.lt_iff_toInt_lt] at *; omega
theorem own_b4 {v A K : Int32} (h : ¬ (v < A)) (d : K < A) : K < v := by rw [Int32.lt_iff_toInt_lt] at *; omega
theorem own_b5 {v A K : Int32} (h : A < v) (d : K.toInt ≤ A.toInt + 1) : ¬ (v < K) := by rw [Int32.lt_iff_toInt_lt] at *; omega
theorem own_b6 {v A K : Int32} (h : A < v) (d : ¬ (A < K)) : K < v := by rw [Int32.lt_iff_toInt_lt] at *; omega
theorem own_b7 {v A K : Int32} (h : ¬ (A < v)) (d : A < K) : v < K := by rw [Int32.lt_iff_toInt_lt] at *; omega
theorem own_b8 {v A K : Int32} (h : ¬ (A < v)) (d : ¬ (K < A)) : ¬ (K < v) := by rw [Int32.lt_iff_toInt_lt] at *; omega
theorem own_w {Z : State} {a0 : Array Value} (hw : ∀ d ∈ tables_1, d.before a0 Z = true) (i : Nat) {d : Jvm.Cond} (h : tables_1[i]? = some d) : d.before a0 Z = true := hw d (List.mem_of_getElem? h)
theorem own_fldI {args : Array Value} {s : State} {t : Term} {x : Addr} {C n d : String} {k : Int32} (ht : t.eval args s none [] s = some (.ref x)) (h : (Jvm.Cond.eq (.field t C n d) (.int k)).value args s none s [] = some true) : s.fieldOf? x C n d = some (.int k) := by
  obtain ⟨u, v, e1, e2, -, -⟩ := cmp_v (Or.inl h)
  have e3 : (Term.field t C n d).eval args s none [] s = s.fieldOf? x C n d := fld_at ht
  cases (show some (Value.int k) = some v from e2)
  rw [e3] at e1
  cases u <;> simp [Jvm.Cond.value, Term.eval, ht, e1] at h
  rw [e1, h]
theorem own_fldR {args : Array Value} {s : State} {t u : Term} {x y : Addr} {C n d : String} (ht : t.eval args s none [] s = some (.ref x)) (hu : u.eval args s none [] s = some (.ref y)) (h : (Jvm.Cond.eq (.field t C n d) u).value args s none s [] = some true) : s.fieldOf? x C n d = some (.ref y) := by
  obtain ⟨v, w, e1, e2, -, -⟩ := cmp_v (Or.inl h)
  have e3 : (Term.field t C n d).eval args s none [] s = s.fieldOf? x C n d := fld_at ht
  rw [e3] at e1
  cases v <;> simp [Jvm.Cond.value, Term.eval, ht, hu, e1] at h
  rw [e1, h]
theorem d0_0 : decode prog_177_method_10_code 0 = .ok (.iload_n 0, 1) := by decide +kernel
theorem d0_1 : decode prog_177_method_10_code 1 = .ok (.ifCond .ne 17, 3) := by decide +kernel
theorem d0_4 : decode prog_177_method_10_code 4 = .ok (.iload_n 1, 1) := by decide +kernel
theorem d0_5 : decode prog_177_method_10_code 5 = .ok (.ifCond .eq 9, 3) := by decide +kernel
theorem d0_14 : decode prog_177_method_10_code 14 = .ok (.getstatic 7, 3) := by decide +kernel
theorem d0_17 : decode prog_177_method_10_code 17 = .ok (.areturn, 1) := by decide +kernel
theorem d0_8 : decode prog_177_method_10_code 8 = .ok (.getstatic 13, 3) := by decide +kernel
theorem d0_11 : decode prog_177_method_10_code 11 = .ok (.goto 6, 3) := by decide +kernel
theorem d0_18 : decode prog_177_method_10_code 18 = .ok (.iload_n 1, 1) := by decide +kernel
theorem d0_19 : decode prog_177_method_10_code 19 = .ok (.ifCond .eq 9, 3) := by decide +kernel
theorem d0_28 : decode prog_177_method_10_code 28 = .ok (.getstatic 3, 3) := by decide +kernel
theorem d0_31 : decode prog_177_method_10_code 31 = .ok (.areturn, 1) := by decide +kernel
theorem d0_22 : decode prog_177_method_10_code 22 = .ok (.getstatic 10, 3) := by decide +kernel
theorem d0_25 : decode prog_177_method_10_code 25 = .ok (.goto 6, 3) := by decide +kernel
theorem pn_0 : plainName "com/example/typecheck/typecheck/model/Quantifier" = true := by first | (simp [plainName, overriddenIn]; done) | decide +kernel
theorem ef_rm_of (m : MethodId) (x0 : Int32) (x1 : Int32) : entryFrame m #[(.int x0), (.int x1)] 2 = mkF m 0 #[.val (.int x0), .val (.int x1)] [] := by first | (simp [entryFrame, mkF, argsToLocals, Value.category]; done) | rfl
def Q_rm_of (Z : State) (i : Int32) (b : Int32) (w1 : Addr) (w2 : Addr) (w3 : Addr) (w4 : Addr) (h0 : Heap) (n0 : Nat) (v : Option Value) (h : Heap) (L : List Loc) : Prop := ((i = (0 : Int32)) ∧ (¬ (b = (0 : Int32))) ∧ (v = some (.ref w4)) ∧ (Fr n0 L) ∧ (h = h0)) ∨ ((i = (0 : Int32)) ∧ (b = (0 : Int32)) ∧ (v = some (.ref w2)) ∧ (Fr n0 L) ∧ (h = h0)) ∨ ((¬ (i = (0 : Int32))) ∧ (¬ (b = (0 : Int32))) ∧ (v = some (.ref w3)) ∧ (Fr n0 L) ∧ (h = h0)) ∨ ((¬ (i = (0 : Int32))) ∧ (b = (0 : Int32)) ∧ (v = some (.ref w1)) ∧ (Fr n0 L) ∧ (h = h0))
set_option maxRecDepth 65536 in
set_option maxHeartbeats 40000000 in
theorem rm_of (l : Launch) (Z : State) (a0 : Array Value) (hw : ∀ d ∈ tables_1, d.before a0 Z = true) (ws : List Jvm.Cond) (i : Int32) (b : Int32) (w1 : Addr) (w2 : Addr) (w3 : Addr) (w4 : Addr) (h0 : Heap) (n0 : Nat) (O0 : Old Z n0 h0) (S_ONE : Sta Z Z.heap "com/example/typecheck/typecheck/model/Quantifier" "ONE" "Lcom/example/typecheck/typecheck/model/Quantifier;" (.ref w1)) (S_OPTIONAL : Sta Z Z.heap "com/example/typecheck/typecheck/model/Quantifier" "OPTIONAL" "Lcom/example/typecheck/typecheck/model/Quantifier;" (.ref w2)) (S_ONE_OR_MORE : Sta Z Z.heap "com/example/typecheck/typecheck/model/Quantifier" "ONE_OR_MORE" "Lcom/example/typecheck/typecheck/model/Quantifier;" (.ref w3)) (S_ZERO_OR_MORE : Sta Z Z.heap "com/example/typecheck/typecheck/model/Quantifier" "ZERO_OR_MORE" "Lcom/example/typecheck/typecheck/model/Quantifier;" (.ref w4)) :
    MetFree l (⟨"com/example/typecheck/typecheck/model/Quantifier", "of", "(IZ)Lcom/example/typecheck/typecheck/model/Quantifier;"⟩ : MethodName) (head1 (Jvm.Cond.code (⟨"com/example/typecheck/typecheck/model/Quantifier", "of", "(IZ)Lcom/example/typecheck/typecheck/model/Quantifier;"⟩ : MethodName) prog_177_method_10_code 2 (some (.object "com/example/typecheck/typecheck/model/Quantifier")) :: ws) ({ frames := 0, cells := 0, slots := 0, locals := 0 } : Room)) (fun a U => a = #[(.int i), (.int b)] ∧ Z.Warmed39 U.vm ∧ U.heap = h0) (fun _ _ _ _ _ => True) (fun _ U o U' => ∃ v L, o = .returned v ∧ Q_rm_of Z i b w1 w2 w3 w4 h0 n0 v U'.heap L ∧ FrameEnd U o U' L ({ frames := 0, cells := 0, slots := 0, locals := 0 } : Room).cells ({ frames := 0, cells := 0, slots := 0, locals := 0 } : Room).slots) := by
  refine MetFree.of_bodySF (plainFor_of_name pn_0) hisR ?_
  intro p e s m args below meth c s₁ Bd hml0 hP hK
  obtain ⟨rfl, hZ, hh⟩ := hP
  have hx := Bd.exec
  have hby := Bd.bytes
  have hml : c.maxLocals = 2 := hml0
  have hown : s.vm.findClass "com/example/typecheck/typecheck/model/Quantifier" = some m.cls := findClass_of_methodNamed Bd.named
  have hnm := (name_of_methodNamed Bd.named Bd.method).1
  have X0 : Stand p l e ({ frames := 0, cells := 0, slots := 0, locals := 0 } : Room) s m #[(.int i), (.int b)] below meth c s₁ [] 0 0 := Stand.of_body Bd
  have e0 : s₁.heap = h0 := by rw [← hh, Bd.state]; rfl
  have N0 := Fr.nil n0
  have pre0 : ∀ t, Steps p.tables e below (s₁.setTop (mkF m 0 #[.val (.int i), .val (.int b)] [])) t → Steps p.tables e below (s₁.setTop (entryFrame m #[(.int i), (.int b)] 2)) t := fun t k => castTop (ef_rm_of m i b) k
  have S1 : ∀ t, Steps p.tables e below (s₁.setTop (mkF m 1 #[.val (.int i), .val (.int b)] [(.int i)])) t → Steps p.tables e below (s₁.setTop (mkF m 0 #[.val (.int i), .val (.int b)] [])) t := by
    intro t kt
    refine XS.iloadN X0.here hx rfl (hb hby d0_0) rfl ?_
    exact kt
  rcases Decidable.em (i = (0 : Int32)) with c2 | c2
  · have S3 : ∀ t, Steps p.tables e below (s₁.setTop (mkF m 5 #[.val (.int i), .val (.int b)] [(.int b)])) t → Steps p.tables e below (s₁.setTop (mkF m 0 #[.val (.int i), .val (.int b)] [])) t := by
      intro t kt
      refine S1 t ?_
      refine XS.ifNo X0.here hx rfl (hb hby d0_1) rfl ((if0 _ _).trans (teq (c2 : i = (0 : Int32))).2) ?_
      refine XS.iloadN X0.here hx rfl (hb hby d0_4) rfl ?_
      exact kt
    rcases Decidable.em (b = (0 : Int32)) with c4 | c4
    · obtain ⟨T5, X5, e5, st5⟩ := getS2 X0 hx hZ hown (host := "") (Or.inl (own_w hw 30 rfl)) Via.refl e0 (S_OPTIONAL.ext O0.2) (g := (mkF m 14 #[.val (.int i), .val (.int b)] [])) rfl (hb hby d0_14)
      have S6 : ∀ t, Steps p.tables e below (T5.setTop (mkF m 17 #[.val (.int i), .val (.int b)] [(.ref w2)])) t → Steps p.tables e below (s₁.setTop (mkF m 0 #[.val (.int i), .val (.int b)] [])) t := by
        intro t kt
        refine S3 t ?_
        refine XS.ifYes X0.here hx rfl (pc0 := 5) (pc' := 14) rfl (hb hby d0_5) rfl ((if0 _ _).trans (teq (c4 : b = (0 : Int32))).1) (by decide) (by decide) ?_
        show Steps p.tables e below (s₁.setTop (mkF m 14 #[.val (.int i), .val (.int b)] [])) _
        refine st5 _ ?_
        exact kt
      obtain ⟨fs, hr, hrun, hended, hW, hsame⟩ := X5.leave (v := some (.ref w2)) (fun h => by rw [Bd.returns] at h; cases h)
      refine ⟨_, _, pre0 _ (S6 _ ?_), hrun, hended, _, _, rfl, ?_, ⟨_, rfl⟩, hW, hsame.mono (by decide) (by decide)⟩
      · exact retOut X5 hx Bd.returns rfl (Or.inr (Or.inr (Or.inr (Or.inr ⟨rfl, rfl, rfl⟩)))) (hb hby d0_17) hr
      · show Q_rm_of Z i b w1 w2 w3 w4 h0 n0 _ T5.heap _
        rw [e5]
        exact Or.inr (Or.inl ⟨c2, c4, rfl, N0, rfl⟩)
    · obtain ⟨T7, X7, e7, st7⟩ := getS2 X0 hx hZ hown (host := "") (Or.inl (own_w hw 21 rfl)) Via.refl e0 (S_ZERO_OR_MORE.ext O0.2) (g := (mkF m 8 #[.val (.int i), .val (.int b)] [])) rfl (hb hby d0_8)
      have S8 : ∀ t, Steps p.tables e below (T7.setTop (mkF m 17 #[.val (.int i), .val (.int b)] [(.ref w4)])) t → Steps p.tables e below (s₁.setTop (mkF m 0 #[.val (.int i), .val (.int b)] [])) t := by
        intro t kt
        refine S3 t ?_
        refine XS.ifNo X0.here hx rfl (hb hby d0_5) rfl ((if0 _ _).trans (feq (c4 : ¬ (b = (0 : Int32)))).1) ?_
        show Steps p.tables e below (s₁.setTop (mkF m 8 #[.val (.int i), .val (.int b)] [])) _
        refine st7 _ ?_
        refine XS.goto X7.here hx rfl (pc0 := 11) (pc' := 17) rfl (hb hby d0_11) (by decide) (by decide) ?_
        exact kt
      obtain ⟨fs, hr, hrun, hended, hW, hsame⟩ := X7.leave (v := some (.ref w4)) (fun h => by rw [Bd.returns] at h; cases h)
      refine ⟨_, _, pre0 _ (S8 _ ?_), hrun, hended, _, _, rfl, ?_, ⟨_, rfl⟩, hW, hsame.mono (by decide) (by decide)⟩
      · exact retOut X7 hx Bd.returns rfl (Or.inr (Or.inr (Or.inr (Or.inr ⟨rfl, rfl, rfl⟩)))) (hb hby d0_17) hr
      · show Q_rm_of Z i b w1 w2 w3 w4 h0 n0 _ T7.heap _
        rw [e7]
        exact Or.inl ⟨c2, c4, rfl, N0, rfl⟩
  · have S9 : ∀ t, Steps p.tables e below (s₁.setTop (mkF m 19 #[.val (.int i), .val (.int b)] [(.int b)])) t → Steps p.tables e below (s₁.setTop (mkF m 0 #[.val (.int i), .val (.int b)] [])) t := by
      intro t kt
      refine S1 t ?_
      refine XS.ifYes X0.here hx rfl (pc0 := 1) (pc' := 18) rfl (hb hby d0_1) rfl ((if0 _ _).trans (feq (c2 : ¬ (i = (0 : Int32)))).2) (by decide) (by decide) ?_
      refine XS.iloadN X0.here hx rfl (hb hby d0_18) rfl ?_
      exact kt
    rcases Decidable.em (b = (0 : Int32)) with c10 | c10
    · obtain ⟨T11, X11, e11, st11⟩ := getS2 X0 hx hZ hown (host := "") (Or.inl (own_w hw 29 rfl)) Via.refl e0 (S_ONE.ext O0.2) (g := (mkF m 28 #[.val (.int i), .val (.int b)] [])) rfl (hb hby d0_28)
      have S12 : ∀ t, Steps p.tables e below (T11.setTop (mkF m 31 #[.val (.int i), .val (.int b)] [(.ref w1)])) t → Steps p.tables e below (s₁.setTop (mkF m 0 #[.val (.int i), .val (.int b)] [])) t := by
        intro t kt
        refine S9 t ?_
        refine XS.ifYes X0.here hx rfl (pc0 := 19) (pc' := 28) rfl (hb hby d0_19) rfl ((if0 _ _).trans (teq (c10 : b = (0 : Int32))).1) (by decide) (by decide) ?_
        show Steps p.tables e below (s₁.setTop (mkF m 28 #[.val (.int i), .val (.int b)] [])) _
        refine st11 _ ?_
        exact kt
      obtain ⟨fs, hr, hrun, hended, hW, hsame⟩ := X11.leave (v := some (.ref w1)) (fun h => by rw [Bd.returns] at h; cases h)
      refine ⟨_, _, pre0 _ (S12 _ ?_), hrun, hended, _, _, rfl, ?_, ⟨_, rfl⟩, hW, hsame.mono (by decide) (by decide)⟩
      · exact retOut X11 hx Bd.returns rfl (Or.inr (Or.inr (Or.inr (Or.inr ⟨rfl, rfl, rfl⟩)))) (hb hby d0_31) hr
      · show Q_rm_of Z i b w1 w2 w3 w4 h0 n0 _ T11.heap _
        rw [e11]
        exact Or.inr (Or.inr (Or.inr (⟨c2, c10, rfl, N0, rfl⟩)))
    · obtain ⟨T13, X13, e13, st13⟩ := getS2 X0 hx hZ hown (host := "") (Or.inl (own_w hw 31 rfl)) Via.refl e0 (S_ONE_OR_MORE.ext O0.2) (g := (mkF m 22 #[.val (.int i), .val (.int b)] [])) rfl (hb hby d0_22)
      have S14 : ∀ t, Steps p.tables e below (T13.setTop (mkF m 31 #[.val (.int i), .val (.int b)] [(.ref w3)])) t → Steps p.tables e below (s₁.setTop (mkF m 0 #[.val (.int i), .val (.int b)] [])) t := by
        intro t kt
        refine S9 t ?_
        refine XS.ifNo X0.here hx rfl (hb hby d0_19) rfl ((if0 _ _).trans (feq (c10 : ¬ (b = (0 : Int32)))).1) ?_
        show Steps p.tables e below (s₁.setTop (mkF m 22 #[.val (.int i), .val (.int b)] [])) _
        refine st13 _ ?_
        refine XS.goto X13.here hx rfl (pc0 := 25) (pc' := 31) rfl (hb hby d0_25) (by decide) (by decide) ?_
        exact kt
      obtain ⟨fs, hr, hrun, hended, hW, hsame⟩ := X13.leave (v := some (.ref w3)) (fun h => by rw [Bd.returns] at h; cases h)
      refine ⟨_, _, pre0 _ (S14 _ ?_), hrun, hended, _, _, rfl, ?_, ⟨_, rfl⟩, hW, hsame.mono (by decide) (by decide)⟩
      · exact retOut X13 hx Bd.returns rfl (Or.inr (Or.inr (Or.inr (Or.inr ⟨rfl, rfl, rfl⟩)))) (hb hby d0_31) hr
      · show Q_rm_of Z i b w1 w2 w3 w4 h0 n0 _ T13.heap _
        rw [e13]
        exact Or.inr (Or.inr (Or.inl ⟨c2, c10, rfl, N0, rfl⟩))
theorem d1_0 : decode prog_177_method_9_code 0 = .ok (.aload_n 0, 1) := by decide +kernel
theorem d1_1 : decode prog_177_method_9_code 1 = .ok (.getfield 39, 3) := by decide +kernel
theorem d1_4 : decode prog_177_method_9_code 4 = .ok (.aload_n 1, 1) := by decide +kernel
theorem d1_5 : decode prog_177_method_9_code 5 = .ok (.getfield 39, 3) := by decide +kernel
theorem d1_8 : decode prog_177_method_9_code 8 = .ok (.imul, 1) := by decide +kernel
theorem d1_9 : decode prog_177_method_9_code 9 = .ok (.aload_n 0, 1) := by decide +kernel
theorem d1_10 : decode prog_177_method_9_code 10 = .ok (.getfield 43, 3) := by decide +kernel
theorem d1_13 : decode prog_177_method_9_code 13 = .ok (.ifCond .ne 10, 3) := by decide +kernel
theorem d1_16 : decode prog_177_method_9_code 16 = .ok (.aload_n 1, 1) := by decide +kernel
theorem d1_17 : decode prog_177_method_9_code 17 = .ok (.getfield 43, 3) := by decide +kernel
theorem d1_20 : decode prog_177_method_9_code 20 = .ok (.ifCond .eq 7, 3) := by decide +kernel
theorem d1_27 : decode prog_177_method_9_code 27 = .ok (.iconst 0, 1) := by decide +kernel
theorem d1_28 : decode prog_177_method_9_code 28 = .ok (.invokestatic 53, 3) := by decide +kernel
theorem pd_0 : parseMethodDescriptor "(IZ)Lcom/example/typecheck/typecheck/model/Quantifier;" = some ⟨[.int, .boolean], some (.object "com/example/typecheck/typecheck/model/Quantifier")⟩ := by decide +kernel
theorem d1_31 : decode prog_177_method_9_code 31 = .ok (.areturn, 1) := by decide +kernel
theorem d1_23 : decode prog_177_method_9_code 23 = .ok (.iconst 1, 1) := by decide +kernel
theorem d1_24 : decode prog_177_method_9_code 24 = .ok (.goto 4, 3) := by decide +kernel
theorem ef_rm_times (m : MethodId) (x0 : Addr) (x1 : Addr) : entryFrame m #[(.ref x0), (.ref x1)] 2 = mkF m 0 #[.val (.ref x0), .val (.ref x1)] [] := by first | (simp [entryFrame, mkF, argsToLocals, Value.category]; done) | rfl
def Q_rm_times (Z : State) (a' : Addr) (c' : Addr) (m1 : Int32) (u1 : Int32) (m2 : Int32) (u2 : Int32) (w1 : Addr) (w2 : Addr) (w3 : Addr) (w4 : Addr) (h0 : Heap) (n0 : Nat) (v : Option Value) (h : Heap) (L : List Loc) : Prop := ((¬ (u1 = (0 : Int32))) ∧ ((m1 * m2) = (0 : Int32)) ∧ (v = some (.ref w4)) ∧ (Fr n0 L) ∧ (h = h0)) ∨ ((¬ (u1 = (0 : Int32))) ∧ (¬ ((m1 * m2) = (0 : Int32))) ∧ (v = some (.ref w3)) ∧ (Fr n0 L) ∧ (h = h0)) ∨ ((u1 = (0 : Int32)) ∧ (¬ (u2 = (0 : Int32))) ∧ ((m1 * m2) = (0 : Int32)) ∧ (v = some (.ref w4)) ∧ (Fr n0 L) ∧ (h = h0)) ∨ ((u1 = (0 : Int32)) ∧ (¬ (u2 = (0 : Int32))) ∧ (¬ ((m1 * m2) = (0 : Int32))) ∧ (v = some (.ref w3)) ∧ (Fr n0 L) ∧ (h = h0)) ∨ ((u1 = (0 : Int32)) ∧ (u2 = (0 : Int32)) ∧ ((m1 * m2) = (0 : Int32)) ∧ (v = some (.ref w2)) ∧ (Fr n0 L) ∧ (h = h0)) ∨ ((u1 = (0 : Int32)) ∧ (u2 = (0 : Int32)) ∧ (¬ ((m1 * m2) = (0 : Int32))) ∧ (v = some (.ref w1)) ∧ (Fr n0 L) ∧ (h = h0))
set_option maxRecDepth 65536 in
set_option maxHeartbeats 40000000 in
theorem rm_times (l : Launch) (Z : State) (a0 : Array Value) (hw : ∀ d ∈ tables_1, d.before a0 Z = true) (ws : List Jvm.Cond) (a' : Addr) (c' : Addr) (m1 : Int32) (u1 : Int32) (m2 : Int32) (u2 : Int32) (w1 : Addr) (w2 : Addr) (w3 : Addr) (w4 : Addr) (h0 : Heap) (n0 : Nat) (O0 : Old Z n0 h0) (Fm1 : Fld Z Z.heap a' "com/example/typecheck/typecheck/model/Quantifier" "minimum" "I" (.int m1)) (Fu1 : Fld Z Z.heap a' "com/example/typecheck/typecheck/model/Quantifier" "unbounded" "Z" (.int u1)) (Fm2 : Fld Z Z.heap c' "com/example/typecheck/typecheck/model/Quantifier" "minimum" "I" (.int m2)) (Fu2 : Fld Z Z.heap c' "com/example/typecheck/typecheck/model/Quantifier" "unbounded" "Z" (.int u2)) (S_ONE : Sta Z Z.heap "com/example/typecheck/typecheck/model/Quantifier" "ONE" "Lcom/example/typecheck/typecheck/model/Quantifier;" (.ref w1)) (S_OPTIONAL : Sta Z Z.heap "com/example/typecheck/typecheck/model/Quantifier" "OPTIONAL" "Lcom/example/typecheck/typecheck/model/Quantifier;" (.ref w2)) (S_ONE_OR_MORE : Sta Z Z.heap "com/example/typecheck/typecheck/model/Quantifier" "ONE_OR_MORE" "Lcom/example/typecheck/typecheck/model/Quantifier;" (.ref w3)) (S_ZERO_OR_MORE : Sta Z Z.heap "com/example/typecheck/typecheck/model/Quantifier" "ZERO_OR_MORE" "Lcom/example/typecheck/typecheck/model/Quantifier;" (.ref w4)) :
    MetFree l (⟨"com/example/typecheck/typecheck/model/Quantifier", "times", "(Lcom/example/typecheck/typecheck/model/Quantifier;)Lcom/example/typecheck/typecheck/model/Quantifier;"⟩ : MethodName) (head1 (Jvm.Cond.code (⟨"com/example/typecheck/typecheck/model/Quantifier", "times", "(Lcom/example/typecheck/typecheck/model/Quantifier;)Lcom/example/typecheck/typecheck/model/Quantifier;"⟩ : MethodName) prog_177_method_9_code 2 (some (.object "com/example/typecheck/typecheck/model/Quantifier")) :: ws) ({ frames := 1, cells := 0, slots := 0, locals := 13 } : Room)) (fun a U => a = #[(.ref a'), (.ref c')] ∧ Z.Warmed39 U.vm ∧ U.heap = h0) (fun _ _ _ _ _ => True) (fun _ U o U' => ∃ v L, o = .returned v ∧ Q_rm_times Z a' c' m1 u1 m2 u2 w1 w2 w3 w4 h0 n0 v U'.heap L ∧ FrameEnd U o U' L ({ frames := 1, cells := 0, slots := 0, locals := 13 } : Room).cells ({ frames := 1, cells := 0, slots := 0, locals := 13 } : Room).slots) := by
  refine MetFree.of_bodySF (plainFor_of_name pn_0) hisR ?_
  intro p e s m args below meth c s₁ Bd hml0 hP hK
  obtain ⟨rfl, hZ, hh⟩ := hP
  have hx := Bd.exec
  have hby := Bd.bytes
  have hml : c.maxLocals = 2 := hml0
  have hown : s.vm.findClass "com/example/typecheck/typecheck/model/Quantifier" = some m.cls := findClass_of_methodNamed Bd.named
  have hnm := (name_of_methodNamed Bd.named Bd.method).1
  have X0 : Stand p l e ({ frames := 1, cells := 0, slots := 0, locals := 13 } : Room) s m #[(.ref a'), (.ref c')] below meth c s₁ [] 0 0 := Stand.of_body Bd
  have e0 : s₁.heap = h0 := by rw [← hh, Bd.state]; rfl
  have N0 := Fr.nil n0
  have pre0 : ∀ t, Steps p.tables e below (s₁.setTop (mkF m 0 #[.val (.ref a'), .val (.ref c')] [])) t → Steps p.tables e below (s₁.setTop (entryFrame m #[(.ref a'), (.ref c')] 2)) t := fun t k => castTop (ef_rm_times m a' c') k
  obtain ⟨T1, X1, e1, st1⟩ := getF X0 hx hZ hown (host := "") (Or.inl (own_w hw 14 rfl)) Via.refl e0 (Fm1.ext O0.2) (g := (mkF m 1 #[.val (.ref a'), .val (.ref c')] [(.ref a')])) rfl rfl (hb hby d1_1)
  obtain ⟨T2, X2, e2, st2⟩ := getF X1 hx hZ hown (host := "") (Or.inl (own_w hw 14 rfl)) Via.refl e1 (Fm2.ext O0.2) (g := (mkF m 5 #[.val (.ref a'), .val (.ref c')] [(.ref c'), (.int m1)])) rfl rfl (hb hby d1_5)
  obtain ⟨T3, X3, e3, st3⟩ := getF X2 hx hZ hown (host := "") (Or.inl (own_w hw 16 rfl)) Via.refl e2 (Fu1.ext O0.2) (g := (mkF m 10 #[.val (.ref a'), .val (.ref c')] [(.ref a'), (.int (m1 * m2))])) rfl rfl (hb hby d1_10)
  have S4 : ∀ t, Steps p.tables e below (T3.setTop (mkF m 13 #[.val (.ref a'), .val (.ref c')] [(.int u1), (.int (m1 * m2))])) t → Steps p.tables e below (s₁.setTop (mkF m 0 #[.val (.ref a'), .val (.ref c')] [])) t := by
    intro t kt
    refine XS.aloadN X0.here hx rfl (hb hby d1_0) rfl rfl ?_
    show Steps p.tables e below (s₁.setTop (mkF m 1 #[.val (.ref a'), .val (.ref c')] [(.ref a')])) _
    refine st1 _ ?_
    refine XS.aloadN X1.here hx rfl (hb hby d1_4) rfl rfl ?_
    show Steps p.tables e below (T1.setTop (mkF m 5 #[.val (.ref a'), .val (.ref c')] [(.ref c'), (.int m1)])) _
    refine st2 _ ?_
    refine XS.imul X2.here hx rfl (hb hby d1_8) rfl ?_
    refine XS.aloadN X2.here hx rfl (hb hby d1_9) rfl rfl ?_
    show Steps p.tables e below (T2.setTop (mkF m 10 #[.val (.ref a'), .val (.ref c')] [(.ref a'), (.int (m1 * m2))])) _
    refine st3 _ ?_
    exact kt
  rcases Decidable.em (u1 = (0 : Int32)) with c5 | c5
  · obtain ⟨T6, X6, e6, st6⟩ := getF X3 hx hZ hown (host := "") (Or.inl (own_w hw 16 rfl)) Via.refl e3 (Fu2.ext O0.2) (g := (mkF m 17 #[.val (.ref a'), .val (.ref c')] [(.ref c'), (.int (m1 * m2))])) rfl rfl (hb hby d1_17)
    have S7 : ∀ t, Steps p.tables e below (T6.setTop (mkF m 20 #[.val (.ref a'), .val (.ref c')] [(.int u2), (.int (m1 * m2))])) t → Steps p.tables e below (s₁.setTop (mkF m 0 #[.val (.ref a'), .val (.ref c')] [])) t := by
      intro t kt
      refine S4 t ?_
      refine XS.ifNo X3.here hx rfl (hb hby d1_13) rfl ((if0 _ _).trans (teq (c5 : u1 = (0 : Int32))).2) ?_
      refine XS.aloadN X3.here hx rfl (hb hby d1_16) rfl rfl ?_
      show Steps p.tables e below (T3.setTop (mkF m 17 #[.val (.ref a'), .val (.ref c')] [(.ref c'), (.int (m1 * m2))])) _
      refine st6 _ ?_
      exact kt
    rcases Decidable.em (u2 = (0 : Int32)) with c8 | c8
    · obtain ⟨_, _, ⟨T9, L9, k9, n9⟩, -, X9, ⟨Lc9, hQ9, l9, y9, z9⟩, st9⟩ := Jvm.LawKit.callS X6 hx (y := (⟨"com/example/typecheck/typecheck/model/Quantifier", "of", "(IZ)Lcom/example/typecheck/typecheck/model/Quantifier;"⟩ : MethodName)) hown (mvT hZ (own_w hw 18 rfl)) (mvT hZ (own_w hw 19 rfl)) (mvT hZ (own_w hw 5 rfl)) (mvT hZ (own_w hw 20 rfl)) (by decide) (backOf (W := 0) (rm_of l Z a0 hw [] (m1 * m2) (0 : Int32) w1 w2 w3 w4 h0 n0 O0 S_ONE S_OPTIONAL S_ONE_OR_MORE S_ZERO_OR_MORE) hZ (own_w hw 20 rfl) (own_w hw 5 rfl) (by decide) (by decide)) (g := (mkF m 28 #[.val (.ref a'), .val (.ref c')] [(.int (0 : Int32)), (.int (m1 * m2))])) rfl (by rw [hml]; rfl) (argsL := [(.int (m1 * m2)), (.int (0 : Int32))]) (rest := []) (lenOf pd_0 rfl) rfl (by show 2 * 0 + _ ≤ _; exact Nat.le_of_eq rfl) (hb hby d1_28) (fun _ _ => ⟨rfl, e6, (by decide : 0 + 0 ≤ _), (by decide : 0 + 0 ≤ _)⟩)
      dsimp only [Pt.U, Pt.locs, Pt.cells, Pt.slots] at X9 l9 y9 z9 st9 hQ9
      subst l9 y9 z9
      rcases hQ9 with ⟨c10, c11, rfl, N12, k13⟩ | ⟨c14, c15, rfl, N16, k17⟩ | ⟨c18, c19, rfl, N20, k21⟩ | ⟨c22, c23, rfl, N24, k25⟩
      · exact absurd ((by decide) : (0 : Int32) = (0 : Int32)) c11
      · have N26 := Fr.app N0 N16
        have S27 : ∀ t, Steps p.tables e below (T9.setTop (mkF m 31 #[.val (.ref a'), .val (.ref c')] [(.ref w2)])) t → Steps p.tables e below (s₁.setTop (mkF m 0 #[.val (.ref a'), .val (.ref c')] [])) t := by
          intro t kt
          refine S7 t ?_
          refine XS.ifYes X6.here hx rfl (pc0 := 20) (pc' := 27) rfl (hb hby d1_20) rfl ((if0 _ _).trans (teq (c8 : u2 = (0 : Int32))).1) (by decide) (by decide) ?_
          refine XS.iconst X6.here hx rfl (hb hby d1_27) ?_
          show Steps p.tables e below (T6.setTop (mkF m 28 #[.val (.ref a'), .val (.ref c')] [(.int (0 : Int32)), (.int (m1 * m2))])) _
          refine st9 _ ?_
          exact kt
        obtain ⟨fs, hr, hrun, hended, hW, hsame⟩ := X9.leave (v := some (.ref w2)) (fun h => by rw [Bd.returns] at h; cases h)
        refine ⟨_, _, pre0 _ (S27 _ ?_), hrun, hended, _, _, rfl, ?_, ⟨_, rfl⟩, hW, hsame.mono (by decide) (by decide)⟩
        · exact retOut X9 hx Bd.returns rfl (Or.inr (Or.inr (Or.inr (Or.inr ⟨rfl, rfl, rfl⟩)))) (hb hby d1_31) hr
        · show Q_rm_times Z a' c' m1 u1 m2 u2 w1 w2 w3 w4 h0 n0 _ T9.heap _
          rw [k17]
          exact Or.inr (Or.inr (Or.inr (Or.inr (Or.inl ⟨c5, c8, c14, rfl, N26, rfl⟩))))
      · exact absurd ((by decide) : (0 : Int32) = (0 : Int32)) c19
      · have N28 := Fr.app N0 N24
        have S29 : ∀ t, Steps p.tables e below (T9.setTop (mkF m 31 #[.val (.ref a'), .val (.ref c')] [(.ref w1)])) t → Steps p.tables e below (s₁.setTop (mkF m 0 #[.val (.ref a'), .val (.ref c')] [])) t := by
          intro t kt
          refine S7 t ?_
          refine XS.ifYes X6.here hx rfl (pc0 := 20) (pc' := 27) rfl (hb hby d1_20) rfl ((if0 _ _).trans (teq (c8 : u2 = (0 : Int32))).1) (by decide) (by decide) ?_
          refine XS.iconst X6.here hx rfl (hb hby d1_27) ?_
          show Steps p.tables e below (T6.setTop (mkF m 28 #[.val (.ref a'), .val (.ref c')] [(.int (0 : Int32)), (.int (m1 * m2))])) _
          refine st9 _ ?_
          exact kt
        obtain ⟨fs, hr, hrun, hended, hW, hsame⟩ := X9.leave (v := some (.ref w1)) (fun h => by rw [Bd.returns] at h; cases h)
        refine ⟨_, _, pre0 _ (S29 _ ?_), hrun, hended, _, _, rfl, ?_, ⟨_, rfl⟩, hW, hsame.mono (by decide) (by decide)⟩
        · exact retOut X9 hx Bd.returns rfl (Or.inr (Or.inr (Or.inr (Or.inr ⟨rfl, rfl, rfl⟩)))) (hb hby d1_31) hr
        · show Q_rm_times Z a' c' m1 u1 m2 u2 w1 w2 w3 w4 h0 n0 _ T9.heap _
          rw [k25]
          exact Or.inr (Or.inr (Or.inr (Or.inr (Or.inr (⟨c5, c8, c22, rfl, N28, rfl⟩)))))
    · obtain ⟨_, _, ⟨T30, L30, k30, n30⟩, -, X30, ⟨Lc30, hQ30, l30, y30, z30⟩, st30⟩ := Jvm.LawKit.callS X6 hx (y := (⟨"com/example/typecheck/typecheck/model/Quantifier", "of", "(IZ)Lcom/example/typecheck/typecheck/model/Quantifier;"⟩ : MethodName)) hown (mvT hZ (own_w hw 18 rfl)) (mvT hZ (own_w hw 19 rfl)) (mvT hZ (own_w hw 5 rfl)) (mvT hZ (own_w hw 20 rfl)) (by decide) (backOf (W := 0) (rm_of l Z a0 hw [] (m1 * m2) (1 : Int32) w1 w2 w3 w4 h0 n0 O0 S_ONE S_OPTIONAL S_ONE_OR_MORE S_ZERO_OR_MORE) hZ (own_w hw 20 rfl) (own_w hw 5 rfl) (by decide) (by decide)) (g := (mkF m 28 #[.val (.ref a'), .val (.ref c')] [(.int (1 : Int32)), (.int (m1 * m2))])) rfl (by rw [hml]; rfl) (argsL := [(.int (m1 * m2)), (.int (1 : Int32))]) (rest := []) (lenOf pd_0 rfl) rfl (by show 2 * 0 + _ ≤ _; exact Nat.le_of_eq rfl) (hb hby d1_28) (fun _ _ => ⟨rfl, e6, (by decide : 0 + 0 ≤ _), (by decide : 0 + 0 ≤ _)⟩)
      dsimp only [Pt.U, Pt.locs, Pt.cells, Pt.slots] at X30 l30 y30 z30 st30 hQ30
      subst l30 y30 z30
      rcases hQ30 with ⟨c31, c32, rfl, N33, k34⟩ | ⟨c35, c36, rfl, N37, k38⟩ | ⟨c39, c40, rfl, N41, k42⟩ | ⟨c43, c44, rfl, N45, k46⟩
      · have N47 := Fr.app N0 N33
        have S48 : ∀ t, Steps p.tables e below (T30.setTop (mkF m 31 #[.val (.ref a'), .val (.ref c')] [(.ref w4)])) t → Steps p.tables e below (s₁.setTop (mkF m 0 #[.val (.ref a'), .val (.ref c')] [])) t := by
          intro t kt
          refine S7 t ?_
          refine XS.ifNo X6.here hx rfl (hb hby d1_20) rfl ((if0 _ _).trans (feq (c8 : ¬ (u2 = (0 : Int32)))).1) ?_
          refine XS.iconst X6.here hx rfl (hb hby d1_23) ?_
          refine XS.goto X6.here hx rfl (pc0 := 24) (pc' := 28) rfl (hb hby d1_24) (by decide) (by decide) ?_
          show Steps p.tables e below (T6.setTop (mkF m 28 #[.val (.ref a'), .val (.ref c')] [(.int (1 : Int32)), (.int (m1 * m2))])) _
          refine st30 _ ?_
          exact kt
        obtain ⟨fs, hr, hrun, hended, hW, hsame⟩ := X30.leave (v := some (.ref w4)) (fun h => by rw [Bd.returns] at h; cases h)
        refine ⟨_, _, pre0 _ (S48 _ ?_), hrun, hended, _, _, rfl, ?_, ⟨_, rfl⟩, hW, hsame.mono (by decide) (by decide)⟩
        · exact retOut X30 hx Bd.returns rfl (Or.inr (Or.inr (Or.inr (Or.inr ⟨rfl, rfl, rfl⟩)))) (hb hby d1_31) hr
        · show Q_rm_times Z a' c' m1 u1 m2 u2 w1 w2 w3 w4 h0 n0 _ T30.heap _
          rw [k34]
          exact Or.inr (Or.inr (Or.inl ⟨c5, c8, c31, rfl, N47, rfl⟩))
      · exact absurd c36 ((by decide) : ¬ ((1 : Int32) = (0 : Int32)))
      · have N49 := Fr.app N0 N41
        have S50 : ∀ t, Steps p.tables e below (T30.setTop (mkF m 31 #[.val (.ref a'), .val (.ref c')] [(.ref w3)])) t → Steps p.tables e below (s₁.setTop (mkF m 0 #[.val (.ref a'), .val (.ref c')] [])) t := by
          intro t kt
          refine S7 t ?_
          refine XS.ifNo X6.here hx rfl (hb hby d1_20) rfl ((if0 _ _).trans (feq (c8 : ¬ (u2 = (0 : Int32)))).1) ?_
          refine XS.iconst X6.here hx rfl (hb hby d1_23) ?_
          refine XS.goto X6.here hx rfl (pc0 := 24) (pc' := 28) rfl (hb hby d1_24) (by decide) (by decide) ?_
          show Steps p.tables e below (T6.setTop (mkF m 28 #[.val (.ref a'), .val (.ref c')] [(.int (1 : Int32)), (.int (m1 * m2))])) _
          refine st30 _ ?_
          exact kt
        obtain ⟨fs, hr, hrun, hended, hW, hsame⟩ := X30.leave (v := some (.ref w3)) (fun h => by rw [Bd.returns] at h; cases h)
        refine ⟨_, _, pre0 _ (S50 _ ?_), hrun, hended, _, _, rfl, ?_, ⟨_, rfl⟩, hW, hsame.mono (by decide) (by decide)⟩
        · exact retOut X30 hx Bd.returns rfl (Or.inr (Or.inr (Or.inr (Or.inr ⟨rfl, rfl, rfl⟩)))) (hb hby d1_31) hr
        · show Q_rm_times Z a' c' m1 u1 m2 u2 w1 w2 w3 w4 h0 n0 _ T30.heap _
          rw [k42]
          exact Or.inr (Or.inr (Or.inr (Or.inl ⟨c5, c8, c39, rfl, N49, rfl⟩)))
      · exact absurd c44 ((by decide) : ¬ ((1 : Int32) = (0 : Int32)))
  · obtain ⟨_, _, ⟨T51, L51, k51, n51⟩, -, X51, ⟨Lc51, hQ51, l51, y51, z51⟩, st51⟩ := Jvm.LawKit.callS X3 hx (y := (⟨"com/example/typecheck/typecheck/model/Quantifier", "of", "(IZ)Lcom/example/typecheck/typecheck/model/Quantifier;"⟩ : MethodName)) hown (mvT hZ (own_w hw 18 rfl)) (mvT hZ (own_w hw 19 rfl)) (mvT hZ (own_w hw 5 rfl)) (mvT hZ (own_w hw 20 rfl)) (by decide) (backOf (W := 0) (rm_of l Z a0 hw [] (m1 * m2) (1 : Int32) w1 w2 w3 w4 h0 n0 O0 S_ONE S_OPTIONAL S_ONE_OR_MORE S_ZERO_OR_MORE) hZ (own_w hw 20 rfl) (own_w hw 5 rfl) (by decide) (by decide)) (g := (mkF m 28 #[.val (.ref a'), .val (.ref c')] [(.int (1 : Int32)), (.int (m1 * m2))])) rfl (by rw [hml]; rfl) (argsL := [(.int (m1 * m2)), (.int (1 : Int32))]) (rest := []) (lenOf pd_0 rfl) rfl (by show 2 * 0 + _ ≤ _; exact Nat.le_of_eq rfl) (hb hby d1_28) (fun _ _ => ⟨rfl, e3, (by decide : 0 + 0 ≤ _), (by decide : 0 + 0 ≤ _)⟩)
    dsimp only [Pt.U, Pt.locs, Pt.cells, Pt.slots] at X51 l51 y51 z51 st51 hQ51
    subst l51 y51 z51
    rcases hQ51 with ⟨c52, c53, rfl, N54, k55⟩ | ⟨c56, c57, rfl, N58, k59⟩ | ⟨c60, c61, rfl, N62, k63⟩ | ⟨c64, c65, rfl, N66, k67⟩
    · have N68 := Fr.app N0 N54
      have S69 : ∀ t, Steps p.tables e below (T51.setTop (mkF m 31 #[.val (.ref a'), .val (.ref c')] [(.ref w4)])) t → Steps p.tables e below (s₁.setTop (mkF m 0 #[.val (.ref a'), .val (.ref c')] [])) t := by
        intro t kt
        refine S4 t ?_
        refine XS.ifYes X3.here hx rfl (pc0 := 13) (pc' := 23) rfl (hb hby d1_13) rfl ((if0 _ _).trans (feq (c5 : ¬ (u1 = (0 : Int32)))).2) (by decide) (by decide) ?_
        refine XS.iconst X3.here hx rfl (hb hby d1_23) ?_
        refine XS.goto X3.here hx rfl (pc0 := 24) (pc' := 28) rfl (hb hby d1_24) (by decide) (by decide) ?_
        show Steps p.tables e below (T3.setTop (mkF m 28 #[.val (.ref a'), .val (.ref c')] [(.int (1 : Int32)), (.int (m1 * m2))])) _
        refine st51 _ ?_
        exact kt
      obtain ⟨fs, hr, hrun, hended, hW, hsame⟩ := X51.leave (v := some (.ref w4)) (fun h => by rw [Bd.returns] at h; cases h)
      refine ⟨_, _, pre0 _ (S69 _ ?_), hrun, hended, _, _, rfl, ?_, ⟨_, rfl⟩, hW, hsame.mono (by decide) (by decide)⟩
      · exact retOut X51 hx Bd.returns rfl (Or.inr (Or.inr (Or.inr (Or.inr ⟨rfl, rfl, rfl⟩)))) (hb hby d1_31) hr
      · show Q_rm_times Z a' c' m1 u1 m2 u2 w1 w2 w3 w4 h0 n0 _ T51.heap _
        rw [k55]
        exact Or.inl ⟨c5, c52, rfl, N68, rfl⟩
    · exact absurd c57 ((by decide) : ¬ ((1 : Int32) = (0 : Int32)))
    · have N70 := Fr.app N0 N62
      have S71 : ∀ t, Steps p.tables e below (T51.setTop (mkF m 31 #[.val (.ref a'), .val (.ref c')] [(.ref w3)])) t → Steps p.tables e below (s₁.setTop (mkF m 0 #[.val (.ref a'), .val (.ref c')] [])) t := by
        intro t kt
        refine S4 t ?_
        refine XS.ifYes X3.here hx rfl (pc0 := 13) (pc' := 23) rfl (hb hby d1_13) rfl ((if0 _ _).trans (feq (c5 : ¬ (u1 = (0 : Int32)))).2) (by decide) (by decide) ?_
        refine XS.iconst X3.here hx rfl (hb hby d1_23) ?_
        refine XS.goto X3.here hx rfl (pc0 := 24) (pc' := 28) rfl (hb hby d1_24) (by decide) (by decide) ?_
        show Steps p.tables e below (T3.setTop (mkF m 28 #[.val (.ref a'), .val (.ref c')] [(.int (1 : Int32)), (.int (m1 * m2))])) _
        refine st51 _ ?_
        exact kt
      obtain ⟨fs, hr, hrun, hended, hW, hsame⟩ := X51.leave (v := some (.ref w3)) (fun h => by rw [Bd.returns] at h; cases h)
      refine ⟨_, _, pre0 _ (S71 _ ?_), hrun, hended, _, _, rfl, ?_, ⟨_, rfl⟩, hW, hsame.mono (by decide) (by decide)⟩
      · exact retOut X51 hx Bd.returns rfl (Or.inr (Or.inr (Or.inr (Or.inr ⟨rfl, rfl, rfl⟩)))) (hb hby d1_31) hr
      · show Q_rm_times Z a' c' m1 u1 m2 u2 w1 w2 w3 w4 h0 n0 _ T51.heap _
        rw [k63]
        exact Or.inr (Or.inl ⟨c5, c60, rfl, N70, rfl⟩)
    · exact absurd c65 ((by decide) : ¬ ((1 : Int32) = (0 : Int32)))
theorem d2_0 : decode method_2_code 0 = .ok (.iload_n 0, 1) := by decide +kernel
theorem d2_1 : decode method_2_code 1 = .ok (.ifCond .ne 7, 3) := by decide +kernel
theorem d2_4 : decode method_2_code 4 = .ok (.getstatic 7, 3) := by decide +kernel
theorem d2_7 : decode method_2_code 7 = .ok (.areturn, 1) := by decide +kernel
theorem d2_8 : decode method_2_code 8 = .ok (.iload_n 0, 1) := by decide +kernel
theorem d2_9 : decode method_2_code 9 = .ok (.iconst 1, 1) := by decide +kernel
theorem d2_10 : decode method_2_code 10 = .ok (.if_icmp .ne 7, 3) := by decide +kernel
theorem d2_13 : decode method_2_code 13 = .ok (.getstatic 13, 3) := by decide +kernel
theorem d2_16 : decode method_2_code 16 = .ok (.areturn, 1) := by decide +kernel
theorem d2_17 : decode method_2_code 17 = .ok (.iload_n 0, 1) := by decide +kernel
theorem d2_18 : decode method_2_code 18 = .ok (.iconst 2, 1) := by decide +kernel
theorem d2_19 : decode method_2_code 19 = .ok (.if_icmp .ne 7, 3) := by decide +kernel
theorem d2_22 : decode method_2_code 22 = .ok (.getstatic 16, 3) := by decide +kernel
theorem d2_25 : decode method_2_code 25 = .ok (.areturn, 1) := by decide +kernel
theorem d2_26 : decode method_2_code 26 = .ok (.getstatic 19, 3) := by decide +kernel
theorem d2_29 : decode method_2_code 29 = .ok (.areturn, 1) := by decide +kernel
theorem pn_1 : plainName "com/example/typecheck/typecheck/model/QuantifierTimesPinLaw" = true := by first | (simp [plainName, overriddenIn]; done) | decide +kernel
theorem ef_rm_pick (m : MethodId) (x0 : Int32) : entryFrame m #[(.int x0)] 1 = mkF m 0 #[.val (.int x0)] [] := by first | (simp [entryFrame, mkF, argsToLocals, Value.category]; done) | rfl
def Q_rm_pick (Z : State) (p1 : Int32) (w1 : Addr) (w2 : Addr) (w3 : Addr) (w4 : Addr) (h0 : Heap) (n0 : Nat) (v : Option Value) (h : Heap) (L : List Loc) : Prop := ((p1 = (0 : Int32)) ∧ (v = some (.ref w1)) ∧ (Fr n0 L) ∧ (h = h0)) ∨ ((¬ (p1 = (0 : Int32))) ∧ (p1 = (1 : Int32)) ∧ (v = some (.ref w2)) ∧ (Fr n0 L) ∧ (h = h0)) ∨ ((¬ (p1 = (0 : Int32))) ∧ (¬ (p1 = (1 : Int32))) ∧ (p1 = (2 : Int32)) ∧ (v = some (.ref w3)) ∧ (Fr n0 L) ∧ (h = h0)) ∨ ((¬ (p1 = (0 : Int32))) ∧ (¬ (p1 = (1 : Int32))) ∧ (¬ (p1 = (2 : Int32))) ∧ (v = some (.ref w4)) ∧ (Fr n0 L) ∧ (h = h0))
set_option maxRecDepth 65536 in
set_option maxHeartbeats 40000000 in
theorem rm_pick (l : Launch) (Z : State) (a0 : Array Value) (hw : ∀ d ∈ tables_1, d.before a0 Z = true) (ws : List Jvm.Cond) (p1 : Int32) (w1 : Addr) (w2 : Addr) (w3 : Addr) (w4 : Addr) (h0 : Heap) (n0 : Nat) (O0 : Old Z n0 h0) (S_ONE : Sta Z Z.heap "com/example/typecheck/typecheck/model/Quantifier" "ONE" "Lcom/example/typecheck/typecheck/model/Quantifier;" (.ref w1)) (S_OPTIONAL : Sta Z Z.heap "com/example/typecheck/typecheck/model/Quantifier" "OPTIONAL" "Lcom/example/typecheck/typecheck/model/Quantifier;" (.ref w2)) (S_ONE_OR_MORE : Sta Z Z.heap "com/example/typecheck/typecheck/model/Quantifier" "ONE_OR_MORE" "Lcom/example/typecheck/typecheck/model/Quantifier;" (.ref w3)) (S_ZERO_OR_MORE : Sta Z Z.heap "com/example/typecheck/typecheck/model/Quantifier" "ZERO_OR_MORE" "Lcom/example/typecheck/typecheck/model/Quantifier;" (.ref w4)) :
    MetFree l (⟨"com/example/typecheck/typecheck/model/QuantifierTimesPinLaw", "pick", "(I)Lcom/example/typecheck/typecheck/model/Quantifier;"⟩ : MethodName) (head1 (Jvm.Cond.code (⟨"com/example/typecheck/typecheck/model/QuantifierTimesPinLaw", "pick", "(I)Lcom/example/typecheck/typecheck/model/Quantifier;"⟩ : MethodName) method_2_code 1 (some (.object "com/example/typecheck/typecheck/model/Quantifier")) :: ws) ({ frames := 0, cells := 0, slots := 0, locals := 0 } : Room)) (fun a U => a = #[(.int p1)] ∧ Z.Warmed39 U.vm ∧ U.heap = h0) (fun _ _ _ _ _ => True) (fun _ U o U' => ∃ v L, o = .returned v ∧ Q_rm_pick Z p1 w1 w2 w3 w4 h0 n0 v U'.heap L ∧ FrameEnd U o U' L ({ frames := 0, cells := 0, slots := 0, locals := 0 } : Room).cells ({ frames := 0, cells := 0, slots := 0, locals := 0 } : Room).slots) := by
  refine MetFree.of_bodySF (plainFor_of_name pn_1) hisR ?_
  intro p e s m args below meth c s₁ Bd hml0 hP hK
  obtain ⟨rfl, hZ, hh⟩ := hP
  have hx := Bd.exec
  have hby := Bd.bytes
  have hml : c.maxLocals = 1 := hml0
  have hown : s.vm.findClass "com/example/typecheck/typecheck/model/QuantifierTimesPinLaw" = some m.cls := findClass_of_methodNamed Bd.named
  have hnm := (name_of_methodNamed Bd.named Bd.method).1
  have X0 : Stand p l e ({ frames := 0, cells := 0, slots := 0, locals := 0 } : Room) s m #[(.int p1)] below meth c s₁ [] 0 0 := Stand.of_body Bd
  have e0 : s₁.heap = h0 := by rw [← hh, Bd.state]; rfl
  have N0 := Fr.nil n0
  have pre0 : ∀ t, Steps p.tables e below (s₁.setTop (mkF m 0 #[.val (.int p1)] [])) t → Steps p.tables e below (s₁.setTop (entryFrame m #[(.int p1)] 1)) t := fun t k => castTop (ef_rm_pick m p1) k
  have S1 : ∀ t, Steps p.tables e below (s₁.setTop (mkF m 1 #[.val (.int p1)] [(.int p1)])) t → Steps p.tables e below (s₁.setTop (mkF m 0 #[.val (.int p1)] [])) t := by
    intro t kt
    refine XS.iloadN X0.here hx rfl (hb hby d2_0) rfl ?_
    exact kt
  rcases Decidable.em (p1 = (0 : Int32)) with c2 | c2
  · obtain ⟨T3, X3, e3, st3⟩ := getS2 X0 hx hZ hown (host := "") (Or.inl (own_w hw 4 rfl)) Via.refl e0 (S_ONE.ext O0.2) (g := (mkF m 4 #[.val (.int p1)] [])) rfl (hb hby d2_4)
    have S4 : ∀ t, Steps p.tables e below (T3.setTop (mkF m 7 #[.val (.int p1)] [(.ref w1)])) t → Steps p.tables e below (s₁.setTop (mkF m 0 #[.val (.int p1)] [])) t := by
      intro t kt
      refine S1 t ?_
      refine XS.ifNo X0.here hx rfl (hb hby d2_1) rfl ((if0 _ _).trans (teq (c2 : p1 = (0 : Int32))).2) ?_
      show Steps p.tables e below (s₁.setTop (mkF m 4 #[.val (.int p1)] [])) _
      refine st3 _ ?_
      exact kt
    obtain ⟨fs, hr, hrun, hended, hW, hsame⟩ := X3.leave (v := some (.ref w1)) (fun h => by rw [Bd.returns] at h; cases h)
    refine ⟨_, _, pre0 _ (S4 _ ?_), hrun, hended, _, _, rfl, ?_, ⟨_, rfl⟩, hW, hsame.mono (by decide) (by decide)⟩
    · exact retOut X3 hx Bd.returns rfl (Or.inr (Or.inr (Or.inr (Or.inr ⟨rfl, rfl, rfl⟩)))) (hb hby d2_7) hr
    · show Q_rm_pick Z p1 w1 w2 w3 w4 h0 n0 _ T3.heap _
      rw [e3]
      exact Or.inl ⟨c2, rfl, N0, rfl⟩
  · have S5 : ∀ t, Steps p.tables e below (s₁.setTop (mkF m 10 #[.val (.int p1)] [(.int (1 : Int32)), (.int p1)])) t → Steps p.tables e below (s₁.setTop (mkF m 0 #[.val (.int p1)] [])) t := by
      intro t kt
      refine S1 t ?_
      refine XS.ifYes X0.here hx rfl (pc0 := 1) (pc' := 8) rfl (hb hby d2_1) rfl ((if0 _ _).trans (feq (c2 : ¬ (p1 = (0 : Int32)))).2) (by decide) (by decide) ?_
      refine XS.iloadN X0.here hx rfl (hb hby d2_8) rfl ?_
      refine XS.iconst X0.here hx rfl (hb hby d2_9) ?_
      exact kt
    rcases Decidable.em (p1 = (1 : Int32)) with c6 | c6
    · obtain ⟨T7, X7, e7, st7⟩ := getS2 X0 hx hZ hown (host := "") (Or.inl (own_w hw 27 rfl)) Via.refl e0 (S_OPTIONAL.ext O0.2) (g := (mkF m 13 #[.val (.int p1)] [])) rfl (hb hby d2_13)
      have S8 : ∀ t, Steps p.tables e below (T7.setTop (mkF m 16 #[.val (.int p1)] [(.ref w2)])) t → Steps p.tables e below (s₁.setTop (mkF m 0 #[.val (.int p1)] [])) t := by
        intro t kt
        refine S5 t ?_
        refine XS.icmpNo X0.here hx rfl (hb hby d2_10) rfl (teq (c6 : p1 = (1 : Int32))).2 ?_
        show Steps p.tables e below (s₁.setTop (mkF m 13 #[.val (.int p1)] [])) _
        refine st7 _ ?_
        exact kt
      obtain ⟨fs, hr, hrun, hended, hW, hsame⟩ := X7.leave (v := some (.ref w2)) (fun h => by rw [Bd.returns] at h; cases h)
      refine ⟨_, _, pre0 _ (S8 _ ?_), hrun, hended, _, _, rfl, ?_, ⟨_, rfl⟩, hW, hsame.mono (by decide) (by decide)⟩
      · exact retOut X7 hx Bd.returns rfl (Or.inr (Or.inr (Or.inr (Or.inr ⟨rfl, rfl, rfl⟩)))) (hb hby d2_16) hr
      · show Q_rm_pick Z p1 w1 w2 w3 w4 h0 n0 _ T7.heap _
        rw [e7]
        exact Or.inr (Or.inl ⟨c2, c6, rfl, N0, rfl⟩)
    · have S9 : ∀ t, Steps p.tables e below (s₁.setTop (mkF m 19 #[.val (.int p1)] [(.int (2 : Int32)), (.int p1)])) t → Steps p.tables e below (s₁.setTop (mkF m 0 #[.val (.int p1)] [])) t := by
        intro t kt
        refine S5 t ?_
        refine XS.icmpYes X0.here hx rfl (pc0 := 10) (pc' := 17) rfl (hb hby d2_10) rfl (feq (c6 : ¬ (p1 = (1 : Int32)))).2 (by decide) (by decide) ?_
        refine XS.iloadN X0.here hx rfl (hb hby d2_17) rfl ?_
        refine XS.iconst X0.here hx rfl (hb hby d2_18) ?_
        exact kt
      rcases Decidable.em (p1 = (2 : Int32)) with c10 | c10
      · obtain ⟨T11, X11, e11, st11⟩ := getS2 X0 hx hZ hown (host := "") (Or.inl (own_w hw 25 rfl)) Via.refl e0 (S_ONE_OR_MORE.ext O0.2) (g := (mkF m 22 #[.val (.int p1)] [])) rfl (hb hby d2_22)
        have S12 : ∀ t, Steps p.tables e below (T11.setTop (mkF m 25 #[.val (.int p1)] [(.ref w3)])) t → Steps p.tables e below (s₁.setTop (mkF m 0 #[.val (.int p1)] [])) t := by
          intro t kt
          refine S9 t ?_
          refine XS.icmpNo X0.here hx rfl (hb hby d2_19) rfl (teq (c10 : p1 = (2 : Int32))).2 ?_
          show Steps p.tables e below (s₁.setTop (mkF m 22 #[.val (.int p1)] [])) _
          refine st11 _ ?_
          exact kt
        obtain ⟨fs, hr, hrun, hended, hW, hsame⟩ := X11.leave (v := some (.ref w3)) (fun h => by rw [Bd.returns] at h; cases h)
        refine ⟨_, _, pre0 _ (S12 _ ?_), hrun, hended, _, _, rfl, ?_, ⟨_, rfl⟩, hW, hsame.mono (by decide) (by decide)⟩
        · exact retOut X11 hx Bd.returns rfl (Or.inr (Or.inr (Or.inr (Or.inr ⟨rfl, rfl, rfl⟩)))) (hb hby d2_25) hr
        · show Q_rm_pick Z p1 w1 w2 w3 w4 h0 n0 _ T11.heap _
          rw [e11]
          exact Or.inr (Or.inr (Or.inl ⟨c2, c6, c10, rfl, N0, rfl⟩))
      · obtain ⟨T13, X13, e13, st13⟩ := getS2 X0 hx hZ hown (host := "") (Or.inl (own_w hw 7 rfl)) Via.refl e0 (S_ZERO_OR_MORE.ext O0.2) (g := (mkF m 26 #[.val (.int p1)] [])) rfl (hb hby d2_26)
        have S14 : ∀ t, Steps p.tables e below (T13.setTop (mkF m 29 #[.val (.int p1)] [(.ref w4)])) t → Steps p.tables e below (s₁.setTop (mkF m 0 #[.val (.int p1)] [])) t := by
          intro t kt
          refine S9 t ?_
          refine XS.icmpYes X0.here hx rfl (pc0 := 19) (pc' := 26) rfl (hb hby d2_19) rfl (feq (c10 : ¬ (p1 = (2 : Int32)))).2 (by decide) (by decide) ?_
          show Steps p.tables e below (s₁.setTop (mkF m 26 #[.val (.int p1)] [])) _
          refine st13 _ ?_
          exact kt
        obtain ⟨fs, hr, hrun, hended, hW, hsame⟩ := X13.leave (v := some (.ref w4)) (fun h => by rw [Bd.returns] at h; cases h)
        refine ⟨_, _, pre0 _ (S14 _ ?_), hrun, hended, _, _, rfl, ?_, ⟨_, rfl⟩, hW, hsame.mono (by decide) (by decide)⟩
        · exact retOut X13 hx Bd.returns rfl (Or.inr (Or.inr (Or.inr (Or.inr ⟨rfl, rfl, rfl⟩)))) (hb hby d2_29) hr
        · show Q_rm_pick Z p1 w1 w2 w3 w4 h0 n0 _ T13.heap _
          rw [e13]
          exact Or.inr (Or.inr (Or.inr (⟨c2, c6, c10, rfl, N0, rfl⟩)))
theorem d3_0 : decode method_3_code 0 = .ok (.iload_n 0, 1) := by decide +kernel
theorem d3_1 : decode method_3_code 1 = .ok (.ifCond .ne 5, 3) := by decide +kernel
theorem d3_4 : decode method_3_code 4 = .ok (.iload_n 1, 1) := by decide +kernel
theorem d3_5 : decode method_3_code 5 = .ok (.ireturn, 1) := by decide +kernel
theorem d3_6 : decode method_3_code 6 = .ok (.iload_n 1, 1) := by decide +kernel
theorem d3_7 : decode method_3_code 7 = .ok (.ifCond .ne 5, 3) := by decide +kernel
theorem d3_10 : decode method_3_code 10 = .ok (.iload_n 0, 1) := by decide +kernel
theorem d3_11 : decode method_3_code 11 = .ok (.ireturn, 1) := by decide +kernel
theorem d3_12 : decode method_3_code 12 = .ok (.iload_n 0, 1) := by decide +kernel
theorem d3_13 : decode method_3_code 13 = .ok (.iload_n 1, 1) := by decide +kernel
theorem d3_14 : decode method_3_code 14 = .ok (.if_icmp .ne 5, 3) := by decide +kernel
theorem d3_17 : decode method_3_code 17 = .ok (.iload_n 0, 1) := by decide +kernel
theorem d3_18 : decode method_3_code 18 = .ok (.ireturn, 1) := by decide +kernel
theorem d3_19 : decode method_3_code 19 = .ok (.iconst 3, 1) := by decide +kernel
theorem d3_20 : decode method_3_code 20 = .ok (.ireturn, 1) := by decide +kernel
theorem ef_rm_exp (m : MethodId) (x0 : Int32) (x1 : Int32) : entryFrame m #[(.int x0), (.int x1)] 2 = mkF m 0 #[.val (.int x0), .val (.int x1)] [] := by first | (simp [entryFrame, mkF, argsToLocals, Value.category]; done) | rfl
def Q_rm_exp (Z : State) (p' : Int32) (q : Int32) (h0 : Heap) (n0 : Nat) (v : Option Value) (h : Heap) (L : List Loc) : Prop := ((p' = (0 : Int32)) ∧ (v = some (.int q)) ∧ (Fr n0 L) ∧ (h = h0)) ∨ ((¬ (p' = (0 : Int32))) ∧ (q = (0 : Int32)) ∧ (v = some (.int p')) ∧ (Fr n0 L) ∧ (h = h0)) ∨ ((¬ (p' = (0 : Int32))) ∧ (¬ (q = (0 : Int32))) ∧ (p' = q) ∧ (v = some (.int p')) ∧ (Fr n0 L) ∧ (h = h0)) ∨ ((¬ (p' = (0 : Int32))) ∧ (¬ (q = (0 : Int32))) ∧ (¬ (p' = q)) ∧ (v = some (.int (3 : Int32))) ∧ (Fr n0 L) ∧ (h = h0))
set_option maxRecDepth 65536 in
set_option maxHeartbeats 40000000 in
theorem rm_exp (l : Launch) (Z : State) (a0 : Array Value) (hw : ∀ d ∈ tables_1, d.before a0 Z = true) (ws : List Jvm.Cond) (p' : Int32) (q : Int32) (h0 : Heap) (n0 : Nat) (O0 : Old Z n0 h0) :
    MetFree l (⟨"com/example/typecheck/typecheck/model/QuantifierTimesPinLaw", "expected", "(II)I"⟩ : MethodName) (head1 (Jvm.Cond.code (⟨"com/example/typecheck/typecheck/model/QuantifierTimesPinLaw", "expected", "(II)I"⟩ : MethodName) method_3_code 2 (some .int) :: ws) ({ frames := 0, cells := 0, slots := 0, locals := 0 } : Room)) (fun a U => a = #[(.int p'), (.int q)] ∧ Z.Warmed39 U.vm ∧ U.heap = h0) (fun _ _ _ _ _ => True) (fun _ U o U' => ∃ v L, o = .returned v ∧ Q_rm_exp Z p' q h0 n0 v U'.heap L ∧ FrameEnd U o U' L ({ frames := 0, cells := 0, slots := 0, locals := 0 } : Room).cells ({ frames := 0, cells := 0, slots := 0, locals := 0 } : Room).slots) := by
  refine MetFree.of_bodySF (plainFor_of_name pn_1) hisR ?_
  intro p e s m args below meth c s₁ Bd hml0 hP hK
  obtain ⟨rfl, hZ, hh⟩ := hP
  have hx := Bd.exec
  have hby := Bd.bytes
  have hml : c.maxLocals = 2 := hml0
  have hown : s.vm.findClass "com/example/typecheck/typecheck/model/QuantifierTimesPinLaw" = some m.cls := findClass_of_methodNamed Bd.named
  have hnm := (name_of_methodNamed Bd.named Bd.method).1
  have X0 : Stand p l e ({ frames := 0, cells := 0, slots := 0, locals := 0 } : Room) s m #[(.int p'), (.int q)] below meth c s₁ [] 0 0 := Stand.of_body Bd
  have e0 : s₁.heap = h0 := by rw [← hh, Bd.state]; rfl
  have N0 := Fr.nil n0
  have pre0 : ∀ t, Steps p.tables e below (s₁.setTop (mkF m 0 #[.val (.int p'), .val (.int q)] [])) t → Steps p.tables e below (s₁.setTop (entryFrame m #[(.int p'), (.int q)] 2)) t := fun t k => castTop (ef_rm_exp m p' q) k
  have S1 : ∀ t, Steps p.tables e below (s₁.setTop (mkF m 1 #[.val (.int p'), .val (.int q)] [(.int p')])) t → Steps p.tables e below (s₁.setTop (mkF m 0 #[.val (.int p'), .val (.int q)] [])) t := by
    intro t kt
    refine XS.iloadN X0.here hx rfl (hb hby d3_0) rfl ?_
    exact kt
  rcases Decidable.em (p' = (0 : Int32)) with c2 | c2
  · have S3 : ∀ t, Steps p.tables e below (s₁.setTop (mkF m 5 #[.val (.int p'), .val (.int q)] [(.int q)])) t → Steps p.tables e below (s₁.setTop (mkF m 0 #[.val (.int p'), .val (.int q)] [])) t := by
      intro t kt
      refine S1 t ?_
      refine XS.ifNo X0.here hx rfl (hb hby d3_1) rfl ((if0 _ _).trans (teq (c2 : p' = (0 : Int32))).2) ?_
      refine XS.iloadN X0.here hx rfl (hb hby d3_4) rfl ?_
      exact kt
    obtain ⟨fs, hr, hrun, hended, hW, hsame⟩ := X0.leave (v := some (.int q)) (fun h => by rw [Bd.returns] at h; cases h)
    refine ⟨_, _, pre0 _ (S3 _ ?_), hrun, hended, _, _, rfl, ?_, ⟨_, rfl⟩, hW, hsame.mono (by decide) (by decide)⟩
    · exact retOut X0 hx Bd.returns rfl (Or.inl ⟨rfl, Or.inl rfl, _, rfl⟩) (hb hby d3_5) hr
    · show Q_rm_exp Z p' q h0 n0 _ s₁.heap _
      rw [e0]
      exact Or.inl ⟨c2, rfl, N0, rfl⟩
  · have S4 : ∀ t, Steps p.tables e below (s₁.setTop (mkF m 7 #[.val (.int p'), .val (.int q)] [(.int q)])) t → Steps p.tables e below (s₁.setTop (mkF m 0 #[.val (.int p'), .val (.int q)] [])) t := by
      intro t kt
      refine S1 t ?_
      refine XS.ifYes X0.here hx rfl (pc0 := 1) (pc' := 6) rfl (hb hby d3_1) rfl ((if0 _ _).trans (feq (c2 : ¬ (p' = (0 : Int32)))).2) (by decide) (by decide) ?_
      refine XS.iloadN X0.here hx rfl (hb hby d3_6) rfl ?_
      exact kt
    rcases Decidable.em (q = (0 : Int32)) with c5 | c5
    · have S6 : ∀ t, Steps p.tables e below (s₁.setTop (mkF m 11 #[.val (.int p'), .val (.int q)] [(.int p')])) t → Steps p.tables e below (s₁.setTop (mkF m 0 #[.val (.int p'), .val (.int q)] [])) t := by
        intro t kt
        refine S4 t ?_
        refine XS.ifNo X0.here hx rfl (hb hby d3_7) rfl ((if0 _ _).trans (teq (c5 : q = (0 : Int32))).2) ?_
        refine XS.iloadN X0.here hx rfl (hb hby d3_10) rfl ?_
        exact kt
      obtain ⟨fs, hr, hrun, hended, hW, hsame⟩ := X0.leave (v := some (.int p')) (fun h => by rw [Bd.returns] at h; cases h)
      refine ⟨_, _, pre0 _ (S6 _ ?_), hrun, hended, _, _, rfl, ?_, ⟨_, rfl⟩, hW, hsame.mono (by decide) (by decide)⟩
      · exact retOut X0 hx Bd.returns rfl (Or.inl ⟨rfl, Or.inl rfl, _, rfl⟩) (hb hby d3_11) hr
      · show Q_rm_exp Z p' q h0 n0 _ s₁.heap _
        rw [e0]
        exact Or.inr (Or.inl ⟨c2, c5, rfl, N0, rfl⟩)
    · have S7 : ∀ t, Steps p.tables e below (s₁.setTop (mkF m 14 #[.val (.int p'), .val (.int q)] [(.int q), (.int p')])) t → Steps p.tables e below (s₁.setTop (mkF m 0 #[.val (.int p'), .val (.int q)] [])) t := by
        intro t kt
        refine S4 t ?_
        refine XS.ifYes X0.here hx rfl (pc0 := 7) (pc' := 12) rfl (hb hby d3_7) rfl ((if0 _ _).trans (feq (c5 : ¬ (q = (0 : Int32)))).2) (by decide) (by decide) ?_
        refine XS.iloadN X0.here hx rfl (hb hby d3_12) rfl ?_
        refine XS.iloadN X0.here hx rfl (hb hby d3_13) rfl ?_
        exact kt
      rcases Decidable.em (p' = q) with c8 | c8
      · have S9 : ∀ t, Steps p.tables e below (s₁.setTop (mkF m 18 #[.val (.int p'), .val (.int q)] [(.int p')])) t → Steps p.tables e below (s₁.setTop (mkF m 0 #[.val (.int p'), .val (.int q)] [])) t := by
          intro t kt
          refine S7 t ?_
          refine XS.icmpNo X0.here hx rfl (hb hby d3_14) rfl (teq (c8 : p' = q)).2 ?_
          refine XS.iloadN X0.here hx rfl (hb hby d3_17) rfl ?_
          exact kt
        obtain ⟨fs, hr, hrun, hended, hW, hsame⟩ := X0.leave (v := some (.int p')) (fun h => by rw [Bd.returns] at h; cases h)
        refine ⟨_, _, pre0 _ (S9 _ ?_), hrun, hended, _, _, rfl, ?_, ⟨_, rfl⟩, hW, hsame.mono (by decide) (by decide)⟩
        · exact retOut X0 hx Bd.returns rfl (Or.inl ⟨rfl, Or.inl rfl, _, rfl⟩) (hb hby d3_18) hr
        · show Q_rm_exp Z p' q h0 n0 _ s₁.heap _
          rw [e0]
          exact Or.inr (Or.inr (Or.inl ⟨c2, c5, c8, rfl, N0, rfl⟩))
      · have S10 : ∀ t, Steps p.tables e below (s₁.setTop (mkF m 20 #[.val (.int p'), .val (.int q)] [(.int (3 : Int32))])) t → Steps p.tables e below (s₁.setTop (mkF m 0 #[.val (.int p'), .val (.int q)] [])) t := by
          intro t kt
          refine S7 t ?_
          refine XS.icmpYes X0.here hx rfl (pc0 := 14) (pc' := 19) rfl (hb hby d3_14) rfl (feq (c8 : ¬ (p' = q))).2 (by decide) (by decide) ?_
          refine XS.iconst X0.here hx rfl (hb hby d3_19) ?_
          exact kt
        obtain ⟨fs, hr, hrun, hended, hW, hsame⟩ := X0.leave (v := some (.int (3 : Int32))) (fun h => by rw [Bd.returns] at h; cases h)
        refine ⟨_, _, pre0 _ (S10 _ ?_), hrun, hended, _, _, rfl, ?_, ⟨_, rfl⟩, hW, hsame.mono (by decide) (by decide)⟩
        · exact retOut X0 hx Bd.returns rfl (Or.inl ⟨rfl, Or.inl rfl, _, rfl⟩) (hb hby d3_20) hr
        · show Q_rm_exp Z p' q h0 n0 _ s₁.heap _
          rw [e0]
          exact Or.inr (Or.inr (Or.inr (⟨c2, c5, c8, rfl, N0, rfl⟩)))
theorem own_and3 (x : Int32) : (x &&& (3 : Int32)) = (0 : Int32) ∨ (x &&& (3 : Int32)) = (1 : Int32) ∨ (x &&& (3 : Int32)) = (2 : Int32) ∨ (x &&& (3 : Int32)) = (3 : Int32) := by
  have h := c_mask x 3 2 (by decide) (by decide)
  have h2 : (2 ^ 2 : Nat) = 4 := by decide
  rw [h2] at h
  simp only [← Int32.toInt_inj]
  have e0 : (0 : Int32).toInt = 0 := by decide
  have e1 : (1 : Int32).toInt = 1 := by decide
  have e2 : (2 : Int32).toInt = 2 := by decide
  have e3 : (3 : Int32).toInt = 3 := by decide
  omega
theorem pd_1 : parseMethodDescriptor "(I)Lcom/example/typecheck/typecheck/model/Quantifier;" = some ⟨[.int], some (.object "com/example/typecheck/typecheck/model/Quantifier")⟩ := by decide +kernel
theorem pd_2 : parseMethodDescriptor "(Lcom/example/typecheck/typecheck/model/Quantifier;)Lcom/example/typecheck/typecheck/model/Quantifier;" = some ⟨[(.object "com/example/typecheck/typecheck/model/Quantifier")], some (.object "com/example/typecheck/typecheck/model/Quantifier")⟩ := by decide +kernel
theorem pd_3 : parseMethodDescriptor "(II)I" = some ⟨[.int, .int], some .int⟩ := by decide +kernel
theorem ef_rm_law (m : MethodId) (x0 : Int32) (x1 : Int32) : entryFrame m #[(.int x0), (.int x1)] maxLocals = mkF m 0 #[.val (.int x0), .val (.int x1), .unset, .unset, .unset, .unset, .unset] [] := by first | (simp [entryFrame, mkF, argsToLocals, Value.category, maxLocals]; done) | rfl
def Q_rm_law (Z : State) (p1 : Int32) (p2 : Int32) (w1 : Addr) (w2 : Addr) (w3 : Addr) (w4 : Addr) (h0 : Heap) (n0 : Nat) (v : Option Value) (h : Heap) (L : List Loc) : Prop := ((v = some (.int (1 : Int32))) ∧ (Fr n0 L))
set_option maxRecDepth 65536 in
set_option maxHeartbeats 40000000 in
theorem rm_law (l : Launch) (Z : State) (a0 : Array Value) (hw : ∀ d ∈ tables_1, d.before a0 Z = true) (ws : List Jvm.Cond) (p1 : Int32) (p2 : Int32) (w1 : Addr) (w2 : Addr) (w3 : Addr) (w4 : Addr) (h0 : Heap) (n0 : Nat) (O0 : Old Z n0 h0) (S_ONE : Sta Z Z.heap "com/example/typecheck/typecheck/model/Quantifier" "ONE" "Lcom/example/typecheck/typecheck/model/Quantifier;" (.ref w1)) (S_OPTIONAL : Sta Z Z.heap "com/example/typecheck/typecheck/model/Quantifier" "OPTIONAL" "Lcom/example/typecheck/typecheck/model/Quantifier;" (.ref w2)) (S_ONE_OR_MORE : Sta Z Z.heap "com/example/typecheck/typecheck/model/Quantifier" "ONE_OR_MORE" "Lcom/example/typecheck/typecheck/model/Quantifier;" (.ref w3)) (S_ZERO_OR_MORE : Sta Z Z.heap "com/example/typecheck/typecheck/model/Quantifier" "ZERO_OR_MORE" "Lcom/example/typecheck/typecheck/model/Quantifier;" (.ref w4)) (E_w1 : Exa Z Z.heap w1 "com/example/typecheck/typecheck/model/Quantifier") (E_w2 : Exa Z Z.heap w2 "com/example/typecheck/typecheck/model/Quantifier") (E_w3 : Exa Z Z.heap w3 "com/example/typecheck/typecheck/model/Quantifier") (E_w4 : Exa Z Z.heap w4 "com/example/typecheck/typecheck/model/Quantifier") (Fm_w1 : Fld Z Z.heap w1 "com/example/typecheck/typecheck/model/Quantifier" "minimum" "I" (.int (1 : Int32))) (Fu_w1 : Fld Z Z.heap w1 "com/example/typecheck/typecheck/model/Quantifier" "unbounded" "Z" (.int (0 : Int32))) (Fm_w2 : Fld Z Z.heap w2 "com/example/typecheck/typecheck/model/Quantifier" "minimum" "I" (.int (0 : Int32))) (Fu_w2 : Fld Z Z.heap w2 "com/example/typecheck/typecheck/model/Quantifier" "unbounded" "Z" (.int (0 : Int32))) (Fm_w3 : Fld Z Z.heap w3 "com/example/typecheck/typecheck/model/Quantifier" "minimum" "I" (.int (1 : Int32))) (Fu_w3 : Fld Z Z.heap w3 "com/example/typecheck/typecheck/model/Quantifier" "unbounded" "Z" (.int (1 : Int32))) (Fm_w4 : Fld Z Z.heap w4 "com/example/typecheck/typecheck/model/Quantifier" "minimum" "I" (.int (0 : Int32))) (Fu_w4 : Fld Z Z.heap w4 "com/example/typecheck/typecheck/model/Quantifier" "unbounded" "Z" (.int (1 : Int32))) :
    MetFree l x (head1 (Jvm.Cond.code x code maxLocals ret :: ws) room_1) (fun a U => a = #[(.int p1), (.int p2)] ∧ Z.Warmed39 U.vm ∧ U.heap = h0) (fun _ _ _ _ _ => True) (fun _ U o U' => ∃ v L, o = .returned v ∧ Q_rm_law Z p1 p2 w1 w2 w3 w4 h0 n0 v U'.heap L ∧ FrameEnd U o U' L room_1.cells room_1.slots) := by
  refine MetFree.of_bodySF (plainFor_of_name pn_1) hisR ?_
  intro p e s m args below meth c s₁ Bd hml0 hP hK
  obtain ⟨rfl, hZ, hh⟩ := hP
  have hx := Bd.exec
  have hby := Bd.bytes
  have hml : c.maxLocals = 7 := hml0
  have hown : s.vm.findClass "com/example/typecheck/typecheck/model/QuantifierTimesPinLaw" = some m.cls := findClass_of_methodNamed Bd.named
  have hnm := (name_of_methodNamed Bd.named Bd.method).1
  have X0 : Stand p l e room_1 s m #[(.int p1), (.int p2)] below meth c s₁ [] 0 0 := Stand.of_body Bd
  have e0 : s₁.heap = h0 := by rw [← hh, Bd.state]; rfl
  have N0 := Fr.nil n0
  have pre0 : ∀ t, Steps p.tables e below (s₁.setTop (mkF m 0 #[.val (.int p1), .val (.int p2), .unset, .unset, .unset, .unset, .unset] [])) t → Steps p.tables e below (s₁.setTop (entryFrame m #[(.int p1), (.int p2)] maxLocals)) t := fun t k => castTop (ef_rm_law m p1 p2) k
  have S1 : ∀ t, Steps p.tables e below (s₁.setTop (mkF m 8 #[.val (.int p1), .val (.int p2), .val (.int (p1 &&& (3 : Int32))), .val (.int (p2 &&& (3 : Int32))), .unset, .unset, .unset] [])) t → Steps p.tables e below (s₁.setTop (mkF m 0 #[.val (.int p1), .val (.int p2), .unset, .unset, .unset, .unset, .unset] [])) t := by
    intro t kt
    refine XS.iloadN X0.here hx rfl (hb hby at_0) rfl ?_
    refine XS.iconst X0.here hx rfl (hb hby at_1) ?_
    refine XS.iand X0.here hx rfl (hb hby at_2) rfl ?_
    refine XS.istoreN X0.here hx rfl (hb hby at_3) rfl (l' := #[.val (.int p1), .val (.int p2), .val (.int (p1 &&& (3 : Int32))), .unset, .unset, .unset, .unset]) rfl ?_
    refine XS.iloadN X0.here hx rfl (hb hby at_4) rfl ?_
    refine XS.iconst X0.here hx rfl (hb hby at_5) ?_
    show Steps p.tables e below (s₁.setTop (mkF m 6 #[.val (.int p1), .val (.int p2), .val (.int (p1 &&& (3 : Int32))), .unset, .unset, .unset, .unset] [(.int (3 : Int32)), (.int p2)])) _
    refine XS.iand X0.here hx rfl (hb hby at_6) rfl ?_
    refine XS.istoreN X0.here hx rfl (hb hby at_7) rfl (l' := #[.val (.int p1), .val (.int p2), .val (.int (p1 &&& (3 : Int32))), .val (.int (p2 &&& (3 : Int32))), .unset, .unset, .unset]) rfl ?_
    exact kt
  rcases own_and3 p1 with c2 | c2 | c2 | c2
  · obtain ⟨_, _, ⟨T3, L3, k3, n3⟩, -, X3, ⟨Lc3, hQ3, l3, y3, z3⟩, st3⟩ := Jvm.LawKit.callS X0 hx (y := (⟨"com/example/typecheck/typecheck/model/QuantifierTimesPinLaw", "pick", "(I)Lcom/example/typecheck/typecheck/model/Quantifier;"⟩ : MethodName)) hown (mvT hZ (own_w hw 0 rfl)) (mvT hZ (own_w hw 1 rfl)) (mvT hZ (own_w hw 2 rfl)) (mvT hZ (own_w hw 3 rfl)) (by decide) (backOf (W := 0) (rm_pick l Z a0 hw [] (p1 &&& (3 : Int32)) w1 w2 w3 w4 h0 n0 O0 S_ONE S_OPTIONAL S_ONE_OR_MORE S_ZERO_OR_MORE) hZ (own_w hw 3 rfl) (own_w hw 2 rfl) (by decide) (by decide)) (g := (mkF m 9 #[.val (.int p1), .val (.int p2), .val (.int (p1 &&& (3 : Int32))), .val (.int (p2 &&& (3 : Int32))), .unset, .unset, .unset] [(.int (p1 &&& (3 : Int32)))])) rfl (by rw [hml]; rfl) (argsL := [(.int (p1 &&& (3 : Int32)))]) (rest := []) (lenOf pd_1 rfl) rfl (by show 2 * 0 + _ ≤ _; exact Nat.le_of_eq rfl) (hb hby at_9) (fun _ _ => ⟨rfl, e0, (by decide : 0 + 0 ≤ _), (by decide : 0 + 0 ≤ _)⟩)
    dsimp only [Pt.U, Pt.locs, Pt.cells, Pt.slots] at X3 l3 y3 z3 st3 hQ3
    subst l3 y3 z3
    rcases hQ3 with ⟨c4, rfl, N5, k6⟩ | ⟨c7, c8, rfl, N9, k10⟩ | ⟨c11, c12, c13, rfl, N14, k15⟩ | ⟨c16, c17, c18, rfl, N19, k20⟩
    · have N21 := Fr.app N0 N5
      have S22 : ∀ t, Steps p.tables e below (T3.setTop (mkF m 14 #[.val (.int p1), .val (.int p2), .val (.int (p1 &&& (3 : Int32))), .val (.int (p2 &&& (3 : Int32))), .val (.ref w1), .unset, .unset] [])) t → Steps p.tables e below (s₁.setTop (mkF m 0 #[.val (.int p1), .val (.int p2), .unset, .unset, .unset, .unset, .unset] [])) t := by
        intro t kt
        refine S1 t ?_
        refine XS.iloadN X0.here hx rfl (hb hby at_8) rfl ?_
        show Steps p.tables e below (s₁.setTop (mkF m 9 #[.val (.int p1), .val (.int p2), .val (.int (p1 &&& (3 : Int32))), .val (.int (p2 &&& (3 : Int32))), .unset, .unset, .unset] [(.int (p1 &&& (3 : Int32)))])) _
        refine st3 _ ?_
        refine XS.astore X3.here hx rfl (hb hby at_12) rfl rfl (l' := #[.val (.int p1), .val (.int p2), .val (.int (p1 &&& (3 : Int32))), .val (.int (p2 &&& (3 : Int32))), .val (.ref w1), .unset, .unset]) rfl ?_
        exact kt
      rcases own_and3 p2 with c23 | c23 | c23 | c23
      · obtain ⟨_, _, ⟨T24, L24, k24, n24⟩, -, X24, ⟨Lc24, hQ24, l24, y24, z24⟩, st24⟩ := Jvm.LawKit.callS X3 hx (y := (⟨"com/example/typecheck/typecheck/model/QuantifierTimesPinLaw", "pick", "(I)Lcom/example/typecheck/typecheck/model/Quantifier;"⟩ : MethodName)) hown (mvT hZ (own_w hw 0 rfl)) (mvT hZ (own_w hw 1 rfl)) (mvT hZ (own_w hw 2 rfl)) (mvT hZ (own_w hw 3 rfl)) (by decide) (backOf (W := 0) (rm_pick l Z a0 hw [] (p2 &&& (3 : Int32)) w1 w2 w3 w4 h0 n0 O0 S_ONE S_OPTIONAL S_ONE_OR_MORE S_ZERO_OR_MORE) hZ (own_w hw 3 rfl) (own_w hw 2 rfl) (by decide) (by decide)) (g := (mkF m 15 #[.val (.int p1), .val (.int p2), .val (.int (p1 &&& (3 : Int32))), .val (.int (p2 &&& (3 : Int32))), .val (.ref w1), .unset, .unset] [(.int (p2 &&& (3 : Int32)))])) rfl (by rw [hml]; rfl) (argsL := [(.int (p2 &&& (3 : Int32)))]) (rest := []) (lenOf pd_1 rfl) rfl (by show 2 * 0 + _ ≤ _; exact Nat.le_of_eq rfl) (hb hby at_15) (fun _ _ => ⟨rfl, k6, (by decide : 0 + 0 ≤ _), (by decide : 0 + 0 ≤ _)⟩)
        dsimp only [Pt.U, Pt.locs, Pt.cells, Pt.slots] at X24 l24 y24 z24 st24 hQ24
        subst l24 y24 z24
        rcases hQ24 with ⟨c25, rfl, N26, k27⟩ | ⟨c28, c29, rfl, N30, k31⟩ | ⟨c32, c33, c34, rfl, N35, k36⟩ | ⟨c37, c38, c39, rfl, N40, k41⟩
        · have N42 := Fr.app N21 N26
          obtain ⟨cq43, kq43, q43a, q43b, q43c⟩ := isOf hZ k27 (E_w1.ext O0.2)
          obtain ⟨_, _, ⟨T43, L43, k43, n43⟩, -, X43, ⟨Lc43, hQ43, l43, y43, z43⟩, st43⟩ := X24.virtualBack hx (y := (⟨"com/example/typecheck/typecheck/model/Quantifier", "times", "(Lcom/example/typecheck/typecheck/model/Quantifier;)Lcom/example/typecheck/typecheck/model/Quantifier;"⟩ : MethodName)) (z := (⟨"com/example/typecheck/typecheck/model/Quantifier", "times", "(Lcom/example/typecheck/typecheck/model/Quantifier;)Lcom/example/typecheck/typecheck/model/Quantifier;"⟩ : MethodName)) hown (mvT hZ (own_w hw 9 rfl)) (mvT hZ (own_w hw 10 rfl)) (notFace_of_selects (args := #[]) (mvT hZ (own_w hw 12 rfl))) (mvT hZ (own_w hw 12 rfl)) (mvT hZ (own_w hw 11 rfl)) (by decide) (backOf (W := 0) (rm_times l Z a0 hw [] w1 w1 (1 : Int32) (0 : Int32) (1 : Int32) (0 : Int32) w1 w2 w3 w4 h0 n0 O0 Fm_w1 Fu_w1 Fm_w1 Fu_w1 S_ONE S_OPTIONAL S_ONE_OR_MORE S_ZERO_OR_MORE) hZ (own_w hw 13 rfl) (own_w hw 5 rfl) (by decide) (by decide)) q43a q43c (g := (mkF m 24 #[.val (.int p1), .val (.int p2), .val (.int (p1 &&& (3 : Int32))), .val (.int (p2 &&& (3 : Int32))), .val (.ref w1), .val (.ref w1), .unset] [(.ref w1), (.ref w1)])) rfl (by rw [hml]; rfl) (Steps.refl _) (argsL := [(.ref w1)]) (rest := []) (lenOf pd_2 rfl) rfl (by show 2 * 0 + _ ≤ _; exact Nat.le_of_eq rfl) (hb hby at_24) (fun _ _ => ⟨rfl, k27, (by decide : 0 + 0 ≤ _), (by decide : 0 + 0 ≤ _)⟩)
          dsimp only [Pt.U, Pt.locs, Pt.cells, Pt.slots] at X43 l43 y43 z43 st43 hQ43
          subst l43 y43 z43
          rcases hQ43 with ⟨c44, c45, rfl, N46, k47⟩ | ⟨c48, c49, rfl, N50, k51⟩ | ⟨c52, c53, c54, rfl, N55, k56⟩ | ⟨c57, c58, c59, rfl, N60, k61⟩ | ⟨c62, c63, c64, rfl, N65, k66⟩ | ⟨c67, c68, c69, rfl, N70, k71⟩
          · exact absurd ((by decide) : (0 : Int32) = (0 : Int32)) c44
          · exact absurd ((by decide) : (0 : Int32) = (0 : Int32)) c48
          · exact absurd ((by decide) : (0 : Int32) = (0 : Int32)) c53
          · exact absurd ((by decide) : (0 : Int32) = (0 : Int32)) c58
          · exact absurd c64 ((by decide) : ¬ (((1 : Int32) * (1 : Int32)) = (0 : Int32)))
          · have N72 := Fr.app N42 N70
            obtain ⟨_, _, ⟨T73, L73, k73, n73⟩, -, X73, ⟨Lc73, hQ73, l73, y73, z73⟩, st73⟩ := Jvm.LawKit.callS X43 hx (y := (⟨"com/example/typecheck/typecheck/model/QuantifierTimesPinLaw", "expected", "(II)I"⟩ : MethodName)) hown (mvT hZ (own_w hw 22 rfl)) (mvT hZ (own_w hw 23 rfl)) (mvT hZ (own_w hw 2 rfl)) (mvT hZ (own_w hw 24 rfl)) (by decide) (backOf (W := 1) (rm_exp l Z a0 hw [] (p1 &&& (3 : Int32)) (p2 &&& (3 : Int32)) h0 n0 O0 ) hZ (own_w hw 24 rfl) (own_w hw 2 rfl) (by decide) (by decide)) (g := (mkF m 33 #[.val (.int p1), .val (.int p2), .val (.int (p1 &&& (3 : Int32))), .val (.int (p2 &&& (3 : Int32))), .val (.ref w1), .val (.ref w1), .val (.ref w1)] [(.int (p2 &&& (3 : Int32))), (.int (p1 &&& (3 : Int32))), (.ref w1)])) rfl (by rw [hml]; rfl) (argsL := [(.int (p1 &&& (3 : Int32))), (.int (p2 &&& (3 : Int32)))]) (rest := [(.ref w1)]) (lenOf pd_3 rfl) rfl (by show 2 * 0 + _ ≤ _; exact Nat.le_of_eq rfl) (hb hby at_33) (fun _ _ => ⟨rfl, k71, (by decide : 0 + 0 ≤ _), (by decide : 0 + 0 ≤ _)⟩)
            dsimp only [Pt.U, Pt.locs, Pt.cells, Pt.slots] at X73 l73 y73 z73 st73 hQ73
            subst l73 y73 z73
            rcases hQ73 with ⟨c74, rfl, N75, k76⟩ | ⟨c77, c78, rfl, N79, k80⟩ | ⟨c81, c82, c83, rfl, N84, k85⟩ | ⟨c86, c87, c88, rfl, N89, k90⟩
            · have N91 := Fr.app N72 N75
              obtain ⟨_, _, ⟨T92, L92, k92, n92⟩, -, X92, ⟨Lc92, hQ92, l92, y92, z92⟩, st92⟩ := Jvm.LawKit.callS X73 hx (y := (⟨"com/example/typecheck/typecheck/model/QuantifierTimesPinLaw", "pick", "(I)Lcom/example/typecheck/typecheck/model/Quantifier;"⟩ : MethodName)) hown (mvT hZ (own_w hw 0 rfl)) (mvT hZ (own_w hw 1 rfl)) (mvT hZ (own_w hw 2 rfl)) (mvT hZ (own_w hw 3 rfl)) (by decide) (backOf (W := 1) (rm_pick l Z a0 hw [] (p2 &&& (3 : Int32)) w1 w2 w3 w4 h0 n0 O0 S_ONE S_OPTIONAL S_ONE_OR_MORE S_ZERO_OR_MORE) hZ (own_w hw 3 rfl) (own_w hw 2 rfl) (by decide) (by decide)) (g := (mkF m 36 #[.val (.int p1), .val (.int p2), .val (.int (p1 &&& (3 : Int32))), .val (.int (p2 &&& (3 : Int32))), .val (.ref w1), .val (.ref w1), .val (.ref w1)] [(.int (p2 &&& (3 : Int32))), (.ref w1)])) rfl (by rw [hml]; rfl) (argsL := [(.int (p2 &&& (3 : Int32)))]) (rest := [(.ref w1)]) (lenOf pd_1 rfl) rfl (by show 2 * 0 + _ ≤ _; exact Nat.le_of_eq rfl) (hb hby at_36) (fun _ _ => ⟨rfl, k76, (by decide : 0 + 0 ≤ _), (by decide : 0 + 0 ≤ _)⟩)
              dsimp only [Pt.U, Pt.locs, Pt.cells, Pt.slots] at X92 l92 y92 z92 st92 hQ92
              subst l92 y92 z92
              rcases hQ92 with ⟨c93, rfl, N94, k95⟩ | ⟨c96, c97, rfl, N98, k99⟩ | ⟨c100, c101, c102, rfl, N103, k104⟩ | ⟨c105, c106, c107, rfl, N108, k109⟩
              · have N110 := Fr.app N91 N94
                have S111 : ∀ t, Steps p.tables e below (T92.setTop (mkF m 47 #[.val (.int p1), .val (.int p2), .val (.int (p1 &&& (3 : Int32))), .val (.int (p2 &&& (3 : Int32))), .val (.ref w1), .val (.ref w1), .val (.ref w1)] [(.int (1 : Int32))])) t → Steps p.tables e below (s₁.setTop (mkF m 0 #[.val (.int p1), .val (.int p2), .unset, .unset, .unset, .unset, .unset] [])) t := by
                  intro t kt
                  refine S22 t ?_
                  refine XS.iloadN X3.here hx rfl (hb hby at_14) rfl ?_
                  show Steps p.tables e below (T3.setTop (mkF m 15 #[.val (.int p1), .val (.int p2), .val (.int (p1 &&& (3 : Int32))), .val (.int (p2 &&& (3 : Int32))), .val (.ref w1), .unset, .unset] [(.int (p2 &&& (3 : Int32)))])) _
                  refine st24 _ ?_
                  refine XS.astore X24.here hx rfl (hb hby at_18) rfl rfl (l' := #[.val (.int p1), .val (.int p2), .val (.int (p1 &&& (3 : Int32))), .val (.int (p2 &&& (3 : Int32))), .val (.ref w1), .val (.ref w1), .unset]) rfl ?_
                  refine XS.aload X24.here hx rfl (hb hby at_20) rfl rfl ?_
                  refine XS.aload X24.here hx rfl (hb hby at_22) rfl rfl ?_
                  show Steps p.tables e below (T24.setTop (mkF m 24 #[.val (.int p1), .val (.int p2), .val (.int (p1 &&& (3 : Int32))), .val (.int (p2 &&& (3 : Int32))), .val (.ref w1), .val (.ref w1), .unset] [(.ref w1), (.ref w1)])) _
                  refine st43.trans ?_
                  refine XS.astore X43.here hx rfl (hb hby at_27) rfl rfl (l' := #[.val (.int p1), .val (.int p2), .val (.int (p1 &&& (3 : Int32))), .val (.int (p2 &&& (3 : Int32))), .val (.ref w1), .val (.ref w1), .val (.ref w1)]) rfl ?_
                  refine XS.aload X43.here hx rfl (hb hby at_29) rfl rfl ?_
                  refine XS.iloadN X43.here hx rfl (hb hby at_31) rfl ?_
                  refine XS.iloadN X43.here hx rfl (hb hby at_32) rfl ?_
                  show Steps p.tables e below (T43.setTop (mkF m 33 #[.val (.int p1), .val (.int p2), .val (.int (p1 &&& (3 : Int32))), .val (.int (p2 &&& (3 : Int32))), .val (.ref w1), .val (.ref w1), .val (.ref w1)] [(.int (p2 &&& (3 : Int32))), (.int (p1 &&& (3 : Int32))), (.ref w1)])) _
                  refine st73 _ ?_
                  show Steps p.tables e below (T73.setTop (mkF m 36 #[.val (.int p1), .val (.int p2), .val (.int (p1 &&& (3 : Int32))), .val (.int (p2 &&& (3 : Int32))), .val (.ref w1), .val (.ref w1), .val (.ref w1)] [(.int (p2 &&& (3 : Int32))), (.ref w1)])) _
                  refine st92 _ ?_
                  show Steps p.tables e below (T92.setTop (mkF m 39 #[.val (.int p1), .val (.int p2), .val (.int (p1 &&& (3 : Int32))), .val (.int (p2 &&& (3 : Int32))), .val (.ref w1), .val (.ref w1), .val (.ref w1)] [(.ref w1), (.ref w1)])) _
                  refine Jvm.RoadKit.acmp (g := (mkF m 39 #[.val (.int p1), .val (.int p2), .val (.int (p1 &&& (3 : Int32))), .val (.int (p2 &&& (3 : Int32))), .val (.ref w1), .val (.ref w1), .val (.ref w1)] [(.ref w1), (.ref w1)])) X92 hx rfl rfl rfl (pc0 := 39) (pc' := 42) (same := true) rfl (hb hby at_39) rfl (decide_eq_true rfl) (by decide) (by decide) ?_
                  refine XS.iconst X92.here hx rfl (hb hby at_42) ?_
                  refine XS.goto X92.here hx rfl (pc0 := 43) (pc' := 47) rfl (hb hby at_43) (by decide) (by decide) ?_
                  exact kt
                obtain ⟨fs, hr, hrun, hended, hW, hsame⟩ := X92.leave (v := some (.int (1 : Int32))) (fun h => by rw [Bd.returns] at h; cases h)
                refine ⟨_, _, pre0 _ (S111 _ ?_), hrun, hended, _, _, rfl, ?_, ⟨_, rfl⟩, hW, hsame.mono (by decide) (by decide)⟩
                · exact retN X92 hx (t := .boolean) Bd.returns (by simp) (hb hby at_47) hr
                · show Q_rm_law Z p1 p2 w1 w2 w3 w4 h0 n0 _ T92.heap _
                  rw [k95]
                  exact ⟨rfl, N110⟩
              · exact absurd (c25 : (p2 &&& (3 : Int32)) = (0 : Int32)) c96
              · exact absurd (c25 : (p2 &&& (3 : Int32)) = (0 : Int32)) c100
              · exact absurd (c25 : (p2 &&& (3 : Int32)) = (0 : Int32)) c105
            · exact absurd (c4 : (p1 &&& (3 : Int32)) = (0 : Int32)) c77
            · exact absurd (c4 : (p1 &&& (3 : Int32)) = (0 : Int32)) c81
            · exact absurd (c4 : (p1 &&& (3 : Int32)) = (0 : Int32)) c86
        · exact absurd (c23 : (p2 &&& (3 : Int32)) = (0 : Int32)) c28
        · exact absurd (c23 : (p2 &&& (3 : Int32)) = (0 : Int32)) c32
        · exact absurd (c23 : (p2 &&& (3 : Int32)) = (0 : Int32)) c37
      · obtain ⟨_, _, ⟨T112, L112, k112, n112⟩, -, X112, ⟨Lc112, hQ112, l112, y112, z112⟩, st112⟩ := Jvm.LawKit.callS X3 hx (y := (⟨"com/example/typecheck/typecheck/model/QuantifierTimesPinLaw", "pick", "(I)Lcom/example/typecheck/typecheck/model/Quantifier;"⟩ : MethodName)) hown (mvT hZ (own_w hw 0 rfl)) (mvT hZ (own_w hw 1 rfl)) (mvT hZ (own_w hw 2 rfl)) (mvT hZ (own_w hw 3 rfl)) (by decide) (backOf (W := 0) (rm_pick l Z a0 hw [] (p2 &&& (3 : Int32)) w1 w2 w3 w4 h0 n0 O0 S_ONE S_OPTIONAL S_ONE_OR_MORE S_ZERO_OR_MORE) hZ (own_w hw 3 rfl) (own_w hw 2 rfl) (by decide) (by decide)) (g := (mkF m 15 #[.val (.int p1), .val (.int p2), .val (.int (p1 &&& (3 : Int32))), .val (.int (p2 &&& (3 : Int32))), .val (.ref w1), .unset, .unset] [(.int (p2 &&& (3 : Int32)))])) rfl (by rw [hml]; rfl) (argsL := [(.int (p2 &&& (3 : Int32)))]) (rest := []) (lenOf pd_1 rfl) rfl (by show 2 * 0 + _ ≤ _; exact Nat.le_of_eq rfl) (hb hby at_15) (fun _ _ => ⟨rfl, k6, (by decide : 0 + 0 ≤ _), (by decide : 0 + 0 ≤ _)⟩)
        dsimp only [Pt.U, Pt.locs, Pt.cells, Pt.slots] at X112 l112 y112 z112 st112 hQ112
        subst l112 y112 z112
        rcases hQ112 with ⟨c113, rfl, N114, k115⟩ | ⟨c116, c117, rfl, N118, k119⟩ | ⟨c120, c121, c122, rfl, N123, k124⟩ | ⟨c125, c126, c127, rfl, N128, k129⟩
        · exact absurd c113 ((by rw [c23] <;> decide) : ¬ ((p2 &&& (3 : Int32)) = (0 : Int32)))
        · have N130 := Fr.app N21 N118
          obtain ⟨cq131, kq131, q131a, q131b, q131c⟩ := isOf hZ k119 (E_w1.ext O0.2)
          obtain ⟨_, _, ⟨T131, L131, k131, n131⟩, -, X131, ⟨Lc131, hQ131, l131, y131, z131⟩, st131⟩ := X112.virtualBack hx (y := (⟨"com/example/typecheck/typecheck/model/Quantifier", "times", "(Lcom/example/typecheck/typecheck/model/Quantifier;)Lcom/example/typecheck/typecheck/model/Quantifier;"⟩ : MethodName)) (z := (⟨"com/example/typecheck/typecheck/model/Quantifier", "times", "(Lcom/example/typecheck/typecheck/model/Quantifier;)Lcom/example/typecheck/typecheck/model/Quantifier;"⟩ : MethodName)) hown (mvT hZ (own_w hw 9 rfl)) (mvT hZ (own_w hw 10 rfl)) (notFace_of_selects (args := #[]) (mvT hZ (own_w hw 12 rfl))) (mvT hZ (own_w hw 12 rfl)) (mvT hZ (own_w hw 11 rfl)) (by decide) (backOf (W := 0) (rm_times l Z a0 hw [] w1 w2 (1 : Int32) (0 : Int32) (0 : Int32) (0 : Int32) w1 w2 w3 w4 h0 n0 O0 Fm_w1 Fu_w1 Fm_w2 Fu_w2 S_ONE S_OPTIONAL S_ONE_OR_MORE S_ZERO_OR_MORE) hZ (own_w hw 13 rfl) (own_w hw 5 rfl) (by decide) (by decide)) q131a q131c (g := (mkF m 24 #[.val (.int p1), .val (.int p2), .val (.int (p1 &&& (3 : Int32))), .val (.int (p2 &&& (3 : Int32))), .val (.ref w1), .val (.ref w2), .unset] [(.ref w2), (.ref w1)])) rfl (by rw [hml]; rfl) (Steps.refl _) (argsL := [(.ref w2)]) (rest := []) (lenOf pd_2 rfl) rfl (by show 2 * 0 + _ ≤ _; exact Nat.le_of_eq rfl) (hb hby at_24) (fun _ _ => ⟨rfl, k119, (by decide : 0 + 0 ≤ _), (by decide : 0 + 0 ≤ _)⟩)
          dsimp only [Pt.U, Pt.locs, Pt.cells, Pt.slots] at X131 l131 y131 z131 st131 hQ131
          subst l131 y131 z131
          rcases hQ131 with ⟨c132, c133, rfl, N134, k135⟩ | ⟨c136, c137, rfl, N138, k139⟩ | ⟨c140, c141, c142, rfl, N143, k144⟩ | ⟨c145, c146, c147, rfl, N148, k149⟩ | ⟨c150, c151, c152, rfl, N153, k154⟩ | ⟨c155, c156, c157, rfl, N158, k159⟩
          · exact absurd ((by decide) : (0 : Int32) = (0 : Int32)) c132
          · exact absurd ((by decide) : (0 : Int32) = (0 : Int32)) c136
          · exact absurd ((by decide) : (0 : Int32) = (0 : Int32)) c141
          · exact absurd ((by decide) : (0 : Int32) = (0 : Int32)) c146
          · have N160 := Fr.app N130 N153
            obtain ⟨_, _, ⟨T161, L161, k161, n161⟩, -, X161, ⟨Lc161, hQ161, l161, y161, z161⟩, st161⟩ := Jvm.LawKit.callS X131 hx (y := (⟨"com/example/typecheck/typecheck/model/QuantifierTimesPinLaw", "expected", "(II)I"⟩ : MethodName)) hown (mvT hZ (own_w hw 22 rfl)) (mvT hZ (own_w hw 23 rfl)) (mvT hZ (own_w hw 2 rfl)) (mvT hZ (own_w hw 24 rfl)) (by decide) (backOf (W := 1) (rm_exp l Z a0 hw [] (p1 &&& (3 : Int32)) (p2 &&& (3 : Int32)) h0 n0 O0 ) hZ (own_w hw 24 rfl) (own_w hw 2 rfl) (by decide) (by decide)) (g := (mkF m 33 #[.val (.int p1), .val (.int p2), .val (.int (p1 &&& (3 : Int32))), .val (.int (p2 &&& (3 : Int32))), .val (.ref w1), .val (.ref w2), .val (.ref w2)] [(.int (p2 &&& (3 : Int32))), (.int (p1 &&& (3 : Int32))), (.ref w2)])) rfl (by rw [hml]; rfl) (argsL := [(.int (p1 &&& (3 : Int32))), (.int (p2 &&& (3 : Int32)))]) (rest := [(.ref w2)]) (lenOf pd_3 rfl) rfl (by show 2 * 0 + _ ≤ _; exact Nat.le_of_eq rfl) (hb hby at_33) (fun _ _ => ⟨rfl, k154, (by decide : 0 + 0 ≤ _), (by decide : 0 + 0 ≤ _)⟩)
            dsimp only [Pt.U, Pt.locs, Pt.cells, Pt.slots] at X161 l161 y161 z161 st161 hQ161
            subst l161 y161 z161
            rcases hQ161 with ⟨c162, rfl, N163, k164⟩ | ⟨c165, c166, rfl, N167, k168⟩ | ⟨c169, c170, c171, rfl, N172, k173⟩ | ⟨c174, c175, c176, rfl, N177, k178⟩
            · have N179 := Fr.app N160 N163
              obtain ⟨_, _, ⟨T180, L180, k180, n180⟩, -, X180, ⟨Lc180, hQ180, l180, y180, z180⟩, st180⟩ := Jvm.LawKit.callS X161 hx (y := (⟨"com/example/typecheck/typecheck/model/QuantifierTimesPinLaw", "pick", "(I)Lcom/example/typecheck/typecheck/model/Quantifier;"⟩ : MethodName)) hown (mvT hZ (own_w hw 0 rfl)) (mvT hZ (own_w hw 1 rfl)) (mvT hZ (own_w hw 2 rfl)) (mvT hZ (own_w hw 3 rfl)) (by decide) (backOf (W := 1) (rm_pick l Z a0 hw [] (p2 &&& (3 : Int32)) w1 w2 w3 w4 h0 n0 O0 S_ONE S_OPTIONAL S_ONE_OR_MORE S_ZERO_OR_MORE) hZ (own_w hw 3 rfl) (own_w hw 2 rfl) (by decide) (by decide)) (g := (mkF m 36 #[.val (.int p1), .val (.int p2), .val (.int (p1 &&& (3 : Int32))), .val (.int (p2 &&& (3 : Int32))), .val (.ref w1), .val (.ref w2), .val (.ref w2)] [(.int (p2 &&& (3 : Int32))), (.ref w2)])) rfl (by rw [hml]; rfl) (argsL := [(.int (p2 &&& (3 : Int32)))]) (rest := [(.ref w2)]) (lenOf pd_1 rfl) rfl (by show 2 * 0 + _ ≤ _; exact Nat.le_of_eq rfl) (hb hby at_36) (fun _ _ => ⟨rfl, k164, (by decide : 0 + 0 ≤ _), (by decide : 0 + 0 ≤ _)⟩)
              dsimp only [Pt.U, Pt.locs, Pt.cells, Pt.slots] at X180 l180 y180 z180 st180 hQ180
              subst l180 y180 z180
              rcases hQ180 with ⟨c181, rfl, N182, k183⟩ | ⟨c184, c185, rfl, N186, k187⟩ | ⟨c188, c189, c190, rfl, N191, k192⟩ | ⟨c193, c194, c195, rfl, N196, k197⟩
              · exact absurd c181 (c116 : ¬ ((p2 &&& (3 : Int32)) = (0 : Int32)))
              · have N198 := Fr.app N179 N186
                have S199 : ∀ t, Steps p.tables e below (T180.setTop (mkF m 47 #[.val (.int p1), .val (.int p2), .val (.int (p1 &&& (3 : Int32))), .val (.int (p2 &&& (3 : Int32))), .val (.ref w1), .val (.ref w2), .val (.ref w2)] [(.int (1 : Int32))])) t → Steps p.tables e below (s₁.setTop (mkF m 0 #[.val (.int p1), .val (.int p2), .unset, .unset, .unset, .unset, .unset] [])) t := by
                  intro t kt
                  refine S22 t ?_
                  refine XS.iloadN X3.here hx rfl (hb hby at_14) rfl ?_
                  show Steps p.tables e below (T3.setTop (mkF m 15 #[.val (.int p1), .val (.int p2), .val (.int (p1 &&& (3 : Int32))), .val (.int (p2 &&& (3 : Int32))), .val (.ref w1), .unset, .unset] [(.int (p2 &&& (3 : Int32)))])) _
                  refine st112 _ ?_
                  refine XS.astore X112.here hx rfl (hb hby at_18) rfl rfl (l' := #[.val (.int p1), .val (.int p2), .val (.int (p1 &&& (3 : Int32))), .val (.int (p2 &&& (3 : Int32))), .val (.ref w1), .val (.ref w2), .unset]) rfl ?_
                  refine XS.aload X112.here hx rfl (hb hby at_20) rfl rfl ?_
                  refine XS.aload X112.here hx rfl (hb hby at_22) rfl rfl ?_
                  show Steps p.tables e below (T112.setTop (mkF m 24 #[.val (.int p1), .val (.int p2), .val (.int (p1 &&& (3 : Int32))), .val (.int (p2 &&& (3 : Int32))), .val (.ref w1), .val (.ref w2), .unset] [(.ref w2), (.ref w1)])) _
                  refine st131.trans ?_
                  refine XS.astore X131.here hx rfl (hb hby at_27) rfl rfl (l' := #[.val (.int p1), .val (.int p2), .val (.int (p1 &&& (3 : Int32))), .val (.int (p2 &&& (3 : Int32))), .val (.ref w1), .val (.ref w2), .val (.ref w2)]) rfl ?_
                  refine XS.aload X131.here hx rfl (hb hby at_29) rfl rfl ?_
                  refine XS.iloadN X131.here hx rfl (hb hby at_31) rfl ?_
                  refine XS.iloadN X131.here hx rfl (hb hby at_32) rfl ?_
                  show Steps p.tables e below (T131.setTop (mkF m 33 #[.val (.int p1), .val (.int p2), .val (.int (p1 &&& (3 : Int32))), .val (.int (p2 &&& (3 : Int32))), .val (.ref w1), .val (.ref w2), .val (.ref w2)] [(.int (p2 &&& (3 : Int32))), (.int (p1 &&& (3 : Int32))), (.ref w2)])) _
                  refine st161 _ ?_
                  show Steps p.tables e below (T161.setTop (mkF m 36 #[.val (.int p1), .val (.int p2), .val (.int (p1 &&& (3 : Int32))), .val (.int (p2 &&& (3 : Int32))), .val (.ref w1), .val (.ref w2), .val (.ref w2)] [(.int (p2 &&& (3 : Int32))), (.ref w2)])) _
                  refine st180 _ ?_
                  show Steps p.tables e below (T180.setTop (mkF m 39 #[.val (.int p1), .val (.int p2), .val (.int (p1 &&& (3 : Int32))), .val (.int (p2 &&& (3 : Int32))), .val (.ref w1), .val (.ref w2), .val (.ref w2)] [(.ref w2), (.ref w2)])) _
                  refine Jvm.RoadKit.acmp (g := (mkF m 39 #[.val (.int p1), .val (.int p2), .val (.int (p1 &&& (3 : Int32))), .val (.int (p2 &&& (3 : Int32))), .val (.ref w1), .val (.ref w2), .val (.ref w2)] [(.ref w2), (.ref w2)])) X180 hx rfl rfl rfl (pc0 := 39) (pc' := 42) (same := true) rfl (hb hby at_39) rfl (decide_eq_true rfl) (by decide) (by decide) ?_
                  refine XS.iconst X180.here hx rfl (hb hby at_42) ?_
                  refine XS.goto X180.here hx rfl (pc0 := 43) (pc' := 47) rfl (hb hby at_43) (by decide) (by decide) ?_
                  exact kt
                obtain ⟨fs, hr, hrun, hended, hW, hsame⟩ := X180.leave (v := some (.int (1 : Int32))) (fun h => by rw [Bd.returns] at h; cases h)
                refine ⟨_, _, pre0 _ (S199 _ ?_), hrun, hended, _, _, rfl, ?_, ⟨_, rfl⟩, hW, hsame.mono (by decide) (by decide)⟩
                · exact retN X180 hx (t := .boolean) Bd.returns (by simp) (hb hby at_47) hr
                · show Q_rm_law Z p1 p2 w1 w2 w3 w4 h0 n0 _ T180.heap _
                  rw [k187]
                  exact ⟨rfl, N198⟩
              · exact absurd (c117 : (p2 &&& (3 : Int32)) = (1 : Int32)) c189
              · exact absurd (c117 : (p2 &&& (3 : Int32)) = (1 : Int32)) c194
            · exact absurd (c4 : (p1 &&& (3 : Int32)) = (0 : Int32)) c165
            · exact absurd (c4 : (p1 &&& (3 : Int32)) = (0 : Int32)) c169
            · exact absurd (c4 : (p1 &&& (3 : Int32)) = (0 : Int32)) c174
          · exact absurd ((by decide) : ((1 : Int32) * (0 : Int32)) = (0 : Int32)) c157
        · exact absurd (c23 : (p2 &&& (3 : Int32)) = (1 : Int32)) c121
        · exact absurd (c23 : (p2 &&& (3 : Int32)) = (1 : Int32)) c126
      · obtain ⟨_, _, ⟨T200, L200, k200, n200⟩, -, X200, ⟨Lc200, hQ200, l200, y200, z200⟩, st200⟩ := Jvm.LawKit.callS X3 hx (y := (⟨"com/example/typecheck/typecheck/model/QuantifierTimesPinLaw", "pick", "(I)Lcom/example/typecheck/typecheck/model/Quantifier;"⟩ : MethodName)) hown (mvT hZ (own_w hw 0 rfl)) (mvT hZ (own_w hw 1 rfl)) (mvT hZ (own_w hw 2 rfl)) (mvT hZ (own_w hw 3 rfl)) (by decide) (backOf (W := 0) (rm_pick l Z a0 hw [] (p2 &&& (3 : Int32)) w1 w2 w3 w4 h0 n0 O0 S_ONE S_OPTIONAL S_ONE_OR_MORE S_ZERO_OR_MORE) hZ (own_w hw 3 rfl) (own_w hw 2 rfl) (by decide) (by decide)) (g := (mkF m 15 #[.val (.int p1), .val (.int p2), .val (.int (p1 &&& (3 : Int32))), .val (.int (p2 &&& (3 : Int32))), .val (.ref w1), .unset, .unset] [(.int (p2 &&& (3 : Int32)))])) rfl (by rw [hml]; rfl) (argsL := [(.int (p2 &&& (3 : Int32)))]) (rest := []) (lenOf pd_1 rfl) rfl (by show 2 * 0 + _ ≤ _; exact Nat.le_of_eq rfl) (hb hby at_15) (fun _ _ => ⟨rfl, k6, (by decide : 0 + 0 ≤ _), (by decide : 0 + 0 ≤ _)⟩)
        dsimp only [Pt.U, Pt.locs, Pt.cells, Pt.slots] at X200 l200 y200 z200 st200 hQ200
        subst l200 y200 z200
        rcases hQ200 with ⟨c201, rfl, N202, k203⟩ | ⟨c204, c205, rfl, N206, k207⟩ | ⟨c208, c209, c210, rfl, N211, k212⟩ | ⟨c213, c214, c215, rfl, N216, k217⟩
        · exact absurd c201 ((by rw [c23] <;> decide) : ¬ ((p2 &&& (3 : Int32)) = (0 : Int32)))
        · exact absurd c205 ((by rw [c23] <;> decide) : ¬ ((p2 &&& (3 : Int32)) = (1 : Int32)))
        · have N218 := Fr.app N21 N211
          obtain ⟨cq219, kq219, q219a, q219b, q219c⟩ := isOf hZ k212 (E_w1.ext O0.2)
          obtain ⟨_, _, ⟨T219, L219, k219, n219⟩, -, X219, ⟨Lc219, hQ219, l219, y219, z219⟩, st219⟩ := X200.virtualBack hx (y := (⟨"com/example/typecheck/typecheck/model/Quantifier", "times", "(Lcom/example/typecheck/typecheck/model/Quantifier;)Lcom/example/typecheck/typecheck/model/Quantifier;"⟩ : MethodName)) (z := (⟨"com/example/typecheck/typecheck/model/Quantifier", "times", "(Lcom/example/typecheck/typecheck/model/Quantifier;)Lcom/example/typecheck/typecheck/model/Quantifier;"⟩ : MethodName)) hown (mvT hZ (own_w hw 9 rfl)) (mvT hZ (own_w hw 10 rfl)) (notFace_of_selects (args := #[]) (mvT hZ (own_w hw 12 rfl))) (mvT hZ (own_w hw 12 rfl)) (mvT hZ (own_w hw 11 rfl)) (by decide) (backOf (W := 0) (rm_times l Z a0 hw [] w1 w3 (1 : Int32) (0 : Int32) (1 : Int32) (1 : Int32) w1 w2 w3 w4 h0 n0 O0 Fm_w1 Fu_w1 Fm_w3 Fu_w3 S_ONE S_OPTIONAL S_ONE_OR_MORE S_ZERO_OR_MORE) hZ (own_w hw 13 rfl) (own_w hw 5 rfl) (by decide) (by decide)) q219a q219c (g := (mkF m 24 #[.val (.int p1), .val (.int p2), .val (.int (p1 &&& (3 : Int32))), .val (.int (p2 &&& (3 : Int32))), .val (.ref w1), .val (.ref w3), .unset] [(.ref w3), (.ref w1)])) rfl (by rw [hml]; rfl) (Steps.refl _) (argsL := [(.ref w3)]) (rest := []) (lenOf pd_2 rfl) rfl (by show 2 * 0 + _ ≤ _; exact Nat.le_of_eq rfl) (hb hby at_24) (fun _ _ => ⟨rfl, k212, (by decide : 0 + 0 ≤ _), (by decide : 0 + 0 ≤ _)⟩)
          dsimp only [Pt.U, Pt.locs, Pt.cells, Pt.slots] at X219 l219 y219 z219 st219 hQ219
          subst l219 y219 z219
          rcases hQ219 with ⟨c220, c221, rfl, N222, k223⟩ | ⟨c224, c225, rfl, N226, k227⟩ | ⟨c228, c229, c230, rfl, N231, k232⟩ | ⟨c233, c234, c235, rfl, N236, k237⟩ | ⟨c238, c239, c240, rfl, N241, k242⟩ | ⟨c243, c244, c245, rfl, N246, k247⟩
          · exact absurd ((by decide) : (0 : Int32) = (0 : Int32)) c220
          · exact absurd ((by decide) : (0 : Int32) = (0 : Int32)) c224
          · exact absurd c230 ((by decide) : ¬ (((1 : Int32) * (1 : Int32)) = (0 : Int32)))
          · have N248 := Fr.app N218 N236
            obtain ⟨_, _, ⟨T249, L249, k249, n249⟩, -, X249, ⟨Lc249, hQ249, l249, y249, z249⟩, st249⟩ := Jvm.LawKit.callS X219 hx (y := (⟨"com/example/typecheck/typecheck/model/QuantifierTimesPinLaw", "expected", "(II)I"⟩ : MethodName)) hown (mvT hZ (own_w hw 22 rfl)) (mvT hZ (own_w hw 23 rfl)) (mvT hZ (own_w hw 2 rfl)) (mvT hZ (own_w hw 24 rfl)) (by decide) (backOf (W := 1) (rm_exp l Z a0 hw [] (p1 &&& (3 : Int32)) (p2 &&& (3 : Int32)) h0 n0 O0 ) hZ (own_w hw 24 rfl) (own_w hw 2 rfl) (by decide) (by decide)) (g := (mkF m 33 #[.val (.int p1), .val (.int p2), .val (.int (p1 &&& (3 : Int32))), .val (.int (p2 &&& (3 : Int32))), .val (.ref w1), .val (.ref w3), .val (.ref w3)] [(.int (p2 &&& (3 : Int32))), (.int (p1 &&& (3 : Int32))), (.ref w3)])) rfl (by rw [hml]; rfl) (argsL := [(.int (p1 &&& (3 : Int32))), (.int (p2 &&& (3 : Int32)))]) (rest := [(.ref w3)]) (lenOf pd_3 rfl) rfl (by show 2 * 0 + _ ≤ _; exact Nat.le_of_eq rfl) (hb hby at_33) (fun _ _ => ⟨rfl, k237, (by decide : 0 + 0 ≤ _), (by decide : 0 + 0 ≤ _)⟩)
            dsimp only [Pt.U, Pt.locs, Pt.cells, Pt.slots] at X249 l249 y249 z249 st249 hQ249
            subst l249 y249 z249
            rcases hQ249 with ⟨c250, rfl, N251, k252⟩ | ⟨c253, c254, rfl, N255, k256⟩ | ⟨c257, c258, c259, rfl, N260, k261⟩ | ⟨c262, c263, c264, rfl, N265, k266⟩
            · have N267 := Fr.app N248 N251
              obtain ⟨_, _, ⟨T268, L268, k268, n268⟩, -, X268, ⟨Lc268, hQ268, l268, y268, z268⟩, st268⟩ := Jvm.LawKit.callS X249 hx (y := (⟨"com/example/typecheck/typecheck/model/QuantifierTimesPinLaw", "pick", "(I)Lcom/example/typecheck/typecheck/model/Quantifier;"⟩ : MethodName)) hown (mvT hZ (own_w hw 0 rfl)) (mvT hZ (own_w hw 1 rfl)) (mvT hZ (own_w hw 2 rfl)) (mvT hZ (own_w hw 3 rfl)) (by decide) (backOf (W := 1) (rm_pick l Z a0 hw [] (p2 &&& (3 : Int32)) w1 w2 w3 w4 h0 n0 O0 S_ONE S_OPTIONAL S_ONE_OR_MORE S_ZERO_OR_MORE) hZ (own_w hw 3 rfl) (own_w hw 2 rfl) (by decide) (by decide)) (g := (mkF m 36 #[.val (.int p1), .val (.int p2), .val (.int (p1 &&& (3 : Int32))), .val (.int (p2 &&& (3 : Int32))), .val (.ref w1), .val (.ref w3), .val (.ref w3)] [(.int (p2 &&& (3 : Int32))), (.ref w3)])) rfl (by rw [hml]; rfl) (argsL := [(.int (p2 &&& (3 : Int32)))]) (rest := [(.ref w3)]) (lenOf pd_1 rfl) rfl (by show 2 * 0 + _ ≤ _; exact Nat.le_of_eq rfl) (hb hby at_36) (fun _ _ => ⟨rfl, k252, (by decide : 0 + 0 ≤ _), (by decide : 0 + 0 ≤ _)⟩)
              dsimp only [Pt.U, Pt.locs, Pt.cells, Pt.slots] at X268 l268 y268 z268 st268 hQ268
              subst l268 y268 z268
              rcases hQ268 with ⟨c269, rfl, N270, k271⟩ | ⟨c272, c273, rfl, N274, k275⟩ | ⟨c276, c277, c278, rfl, N279, k280⟩ | ⟨c281, c282, c283, rfl, N284, k285⟩
              · exact absurd c269 (c208 : ¬ ((p2 &&& (3 : Int32)) = (0 : Int32)))
              · exact absurd c273 (c209 : ¬ ((p2 &&& (3 : Int32)) = (1 : Int32)))
              · have N286 := Fr.app N267 N279
                have S287 : ∀ t, Steps p.tables e below (T268.setTop (mkF m 47 #[.val (.int p1), .val (.int p2), .val (.int (p1 &&& (3 : Int32))), .val (.int (p2 &&& (3 : Int32))), .val (.ref w1), .val (.ref w3), .val (.ref w3)] [(.int (1 : Int32))])) t → Steps p.tables e below (s₁.setTop (mkF m 0 #[.val (.int p1), .val (.int p2), .unset, .unset, .unset, .unset, .unset] [])) t := by
                  intro t kt
                  refine S22 t ?_
                  refine XS.iloadN X3.here hx rfl (hb hby at_14) rfl ?_
                  show Steps p.tables e below (T3.setTop (mkF m 15 #[.val (.int p1), .val (.int p2), .val (.int (p1 &&& (3 : Int32))), .val (.int (p2 &&& (3 : Int32))), .val (.ref w1), .unset, .unset] [(.int (p2 &&& (3 : Int32)))])) _
                  refine st200 _ ?_
                  refine XS.astore X200.here hx rfl (hb hby at_18) rfl rfl (l' := #[.val (.int p1), .val (.int p2), .val (.int (p1 &&& (3 : Int32))), .val (.int (p2 &&& (3 : Int32))), .val (.ref w1), .val (.ref w3), .unset]) rfl ?_
                  refine XS.aload X200.here hx rfl (hb hby at_20) rfl rfl ?_
                  refine XS.aload X200.here hx rfl (hb hby at_22) rfl rfl ?_
                  show Steps p.tables e below (T200.setTop (mkF m 24 #[.val (.int p1), .val (.int p2), .val (.int (p1 &&& (3 : Int32))), .val (.int (p2 &&& (3 : Int32))), .val (.ref w1), .val (.ref w3), .unset] [(.ref w3), (.ref w1)])) _
                  refine st219.trans ?_
                  refine XS.astore X219.here hx rfl (hb hby at_27) rfl rfl (l' := #[.val (.int p1), .val (.int p2), .val (.int (p1 &&& (3 : Int32))), .val (.int (p2 &&& (3 : Int32))), .val (.ref w1), .val (.ref w3), .val (.ref w3)]) rfl ?_
                  refine XS.aload X219.here hx rfl (hb hby at_29) rfl rfl ?_
                  refine XS.iloadN X219.here hx rfl (hb hby at_31) rfl ?_
                  refine XS.iloadN X219.here hx rfl (hb hby at_32) rfl ?_
                  show Steps p.tables e below (T219.setTop (mkF m 33 #[.val (.int p1), .val (.int p2), .val (.int (p1 &&& (3 : Int32))), .val (.int (p2 &&& (3 : Int32))), .val (.ref w1), .val (.ref w3), .val (.ref w3)] [(.int (p2 &&& (3 : Int32))), (.int (p1 &&& (3 : Int32))), (.ref w3)])) _
                  refine st249 _ ?_
                  show Steps p.tables e below (T249.setTop (mkF m 36 #[.val (.int p1), .val (.int p2), .val (.int (p1 &&& (3 : Int32))), .val (.int (p2 &&& (3 : Int32))), .val (.ref w1), .val (.ref w3), .val (.ref w3)] [(.int (p2 &&& (3 : Int32))), (.ref w3)])) _
                  refine st268 _ ?_
                  show Steps p.tables e below (T268.setTop (mkF m 39 #[.val (.int p1), .val (.int p2), .val (.int (p1 &&& (3 : Int32))), .val (.int (p2 &&& (3 : Int32))), .val (.ref w1), .val (.ref w3), .val (.ref w3)] [(.ref w3), (.ref w3)])) _
                  refine Jvm.RoadKit.acmp (g := (mkF m 39 #[.val (.int p1), .val (.int p2), .val (.int (p1 &&& (3 : Int32))), .val (.int (p2 &&& (3 : Int32))), .val (.ref w1), .val (.ref w3), .val (.ref w3)] [(.ref w3), (.ref w3)])) X268 hx rfl rfl rfl (pc0 := 39) (pc' := 42) (same := true) rfl (hb hby at_39) rfl (decide_eq_true rfl) (by decide) (by decide) ?_
                  refine XS.iconst X268.here hx rfl (hb hby at_42) ?_
                  refine XS.goto X268.here hx rfl (pc0 := 43) (pc' := 47) rfl (hb hby at_43) (by decide) (by decide) ?_
                  exact kt
                obtain ⟨fs, hr, hrun, hended, hW, hsame⟩ := X268.leave (v := some (.int (1 : Int32))) (fun h => by rw [Bd.returns] at h; cases h)
                refine ⟨_, _, pre0 _ (S287 _ ?_), hrun, hended, _, _, rfl, ?_, ⟨_, rfl⟩, hW, hsame.mono (by decide) (by decide)⟩
                · exact retN X268 hx (t := .boolean) Bd.returns (by simp) (hb hby at_47) hr
                · show Q_rm_law Z p1 p2 w1 w2 w3 w4 h0 n0 _ T268.heap _
                  rw [k280]
                  exact ⟨rfl, N286⟩
              · exact absurd (c210 : (p2 &&& (3 : Int32)) = (2 : Int32)) c283
            · exact absurd (c4 : (p1 &&& (3 : Int32)) = (0 : Int32)) c253
            · exact absurd (c4 : (p1 &&& (3 : Int32)) = (0 : Int32)) c257
            · exact absurd (c4 : (p1 &&& (3 : Int32)) = (0 : Int32)) c262
          · exact absurd c239 ((by decide) : ¬ ((1 : Int32) = (0 : Int32)))
          · exact absurd c244 ((by decide) : ¬ ((1 : Int32) = (0 : Int32)))
        · exact absurd (c23 : (p2 &&& (3 : Int32)) = (2 : Int32)) c215
      · obtain ⟨_, _, ⟨T288, L288, k288, n288⟩, -, X288, ⟨Lc288, hQ288, l288, y288, z288⟩, st288⟩ := Jvm.LawKit.callS X3 hx (y := (⟨"com/example/typecheck/typecheck/model/QuantifierTimesPinLaw", "pick", "(I)Lcom/example/typecheck/typecheck/model/Quantifier;"⟩ : MethodName)) hown (mvT hZ (own_w hw 0 rfl)) (mvT hZ (own_w hw 1 rfl)) (mvT hZ (own_w hw 2 rfl)) (mvT hZ (own_w hw 3 rfl)) (by decide) (backOf (W := 0) (rm_pick l Z a0 hw [] (p2 &&& (3 : Int32)) w1 w2 w3 w4 h0 n0 O0 S_ONE S_OPTIONAL S_ONE_OR_MORE S_ZERO_OR_MORE) hZ (own_w hw 3 rfl) (own_w hw 2 rfl) (by decide) (by decide)) (g := (mkF m 15 #[.val (.int p1), .val (.int p2), .val (.int (p1 &&& (3 : Int32))), .val (.int (p2 &&& (3 : Int32))), .val (.ref w1), .unset, .unset] [(.int (p2 &&& (3 : Int32)))])) rfl (by rw [hml]; rfl) (argsL := [(.int (p2 &&& (3 : Int32)))]) (rest := []) (lenOf pd_1 rfl) rfl (by show 2 * 0 + _ ≤ _; exact Nat.le_of_eq rfl) (hb hby at_15) (fun _ _ => ⟨rfl, k6, (by decide : 0 + 0 ≤ _), (by decide : 0 + 0 ≤ _)⟩)
        dsimp only [Pt.U, Pt.locs, Pt.cells, Pt.slots] at X288 l288 y288 z288 st288 hQ288
        subst l288 y288 z288
        rcases hQ288 with ⟨c289, rfl, N290, k291⟩ | ⟨c292, c293, rfl, N294, k295⟩ | ⟨c296, c297, c298, rfl, N299, k300⟩ | ⟨c301, c302, c303, rfl, N304, k305⟩
        · exact absurd c289 ((by rw [c23] <;> decide) : ¬ ((p2 &&& (3 : Int32)) = (0 : Int32)))
        · exact absurd c293 ((by rw [c23] <;> decide) : ¬ ((p2 &&& (3 : Int32)) = (1 : Int32)))
        · exact absurd c298 ((by rw [c23] <;> decide) : ¬ ((p2 &&& (3 : Int32)) = (2 : Int32)))
        · have N306 := Fr.app N21 N304
          obtain ⟨cq307, kq307, q307a, q307b, q307c⟩ := isOf hZ k305 (E_w1.ext O0.2)
          obtain ⟨_, _, ⟨T307, L307, k307, n307⟩, -, X307, ⟨Lc307, hQ307, l307, y307, z307⟩, st307⟩ := X288.virtualBack hx (y := (⟨"com/example/typecheck/typecheck/model/Quantifier", "times", "(Lcom/example/typecheck/typecheck/model/Quantifier;)Lcom/example/typecheck/typecheck/model/Quantifier;"⟩ : MethodName)) (z := (⟨"com/example/typecheck/typecheck/model/Quantifier", "times", "(Lcom/example/typecheck/typecheck/model/Quantifier;)Lcom/example/typecheck/typecheck/model/Quantifier;"⟩ : MethodName)) hown (mvT hZ (own_w hw 9 rfl)) (mvT hZ (own_w hw 10 rfl)) (notFace_of_selects (args := #[]) (mvT hZ (own_w hw 12 rfl))) (mvT hZ (own_w hw 12 rfl)) (mvT hZ (own_w hw 11 rfl)) (by decide) (backOf (W := 0) (rm_times l Z a0 hw [] w1 w4 (1 : Int32) (0 : Int32) (0 : Int32) (1 : Int32) w1 w2 w3 w4 h0 n0 O0 Fm_w1 Fu_w1 Fm_w4 Fu_w4 S_ONE S_OPTIONAL S_ONE_OR_MORE S_ZERO_OR_MORE) hZ (own_w hw 13 rfl) (own_w hw 5 rfl) (by decide) (by decide)) q307a q307c (g := (mkF m 24 #[.val (.int p1), .val (.int p2), .val (.int (p1 &&& (3 : Int32))), .val (.int (p2 &&& (3 : Int32))), .val (.ref w1), .val (.ref w4), .unset] [(.ref w4), (.ref w1)])) rfl (by rw [hml]; rfl) (Steps.refl _) (argsL := [(.ref w4)]) (rest := []) (lenOf pd_2 rfl) rfl (by show 2 * 0 + _ ≤ _; exact Nat.le_of_eq rfl) (hb hby at_24) (fun _ _ => ⟨rfl, k305, (by decide : 0 + 0 ≤ _), (by decide : 0 + 0 ≤ _)⟩)
          dsimp only [Pt.U, Pt.locs, Pt.cells, Pt.slots] at X307 l307 y307 z307 st307 hQ307
          subst l307 y307 z307
          rcases hQ307 with ⟨c308, c309, rfl, N310, k311⟩ | ⟨c312, c313, rfl, N314, k315⟩ | ⟨c316, c317, c318, rfl, N319, k320⟩ | ⟨c321, c322, c323, rfl, N324, k325⟩ | ⟨c326, c327, c328, rfl, N329, k330⟩ | ⟨c331, c332, c333, rfl, N334, k335⟩
          · exact absurd ((by decide) : (0 : Int32) = (0 : Int32)) c308
          · exact absurd ((by decide) : (0 : Int32) = (0 : Int32)) c312
          · have N336 := Fr.app N306 N319
            obtain ⟨_, _, ⟨T337, L337, k337, n337⟩, -, X337, ⟨Lc337, hQ337, l337, y337, z337⟩, st337⟩ := Jvm.LawKit.callS X307 hx (y := (⟨"com/example/typecheck/typecheck/model/QuantifierTimesPinLaw", "expected", "(II)I"⟩ : MethodName)) hown (mvT hZ (own_w hw 22 rfl)) (mvT hZ (own_w hw 23 rfl)) (mvT hZ (own_w hw 2 rfl)) (mvT hZ (own_w hw 24 rfl)) (by decide) (backOf (W := 1) (rm_exp l Z a0 hw [] (p1 &&& (3 : Int32)) (p2 &&& (3 : Int32)) h0 n0 O0 ) hZ (own_w hw 24 rfl) (own_w hw 2 rfl) (by decide) (by decide)) (g := (mkF m 33 #[.val (.int p1), .val (.int p2), .val (.int (p1 &&& (3 : Int32))), .val (.int (p2 &&& (3 : Int32))), .val (.ref w1), .val (.ref w4), .val (.ref w4)] [(.int (p2 &&& (3 : Int32))), (.int (p1 &&& (3 : Int32))), (.ref w4)])) rfl (by rw [hml]; rfl) (argsL := [(.int (p1 &&& (3 : Int32))), (.int (p2 &&& (3 : Int32)))]) (rest := [(.ref w4)]) (lenOf pd_3 rfl) rfl (by show 2 * 0 + _ ≤ _; exact Nat.le_of_eq rfl) (hb hby at_33) (fun _ _ => ⟨rfl, k320, (by decide : 0 + 0 ≤ _), (by decide : 0 + 0 ≤ _)⟩)
            dsimp only [Pt.U, Pt.locs, Pt.cells, Pt.slots] at X337 l337 y337 z337 st337 hQ337
            subst l337 y337 z337
            rcases hQ337 with ⟨c338, rfl, N339, k340⟩ | ⟨c341, c342, rfl, N343, k344⟩ | ⟨c345, c346, c347, rfl, N348, k349⟩ | ⟨c350, c351, c352, rfl, N353, k354⟩
            · have N355 := Fr.app N336 N339
              obtain ⟨_, _, ⟨T356, L356, k356, n356⟩, -, X356, ⟨Lc356, hQ356, l356, y356, z356⟩, st356⟩ := Jvm.LawKit.callS X337 hx (y := (⟨"com/example/typecheck/typecheck/model/QuantifierTimesPinLaw", "pick", "(I)Lcom/example/typecheck/typecheck/model/Quantifier;"⟩ : MethodName)) hown (mvT hZ (own_w hw 0 rfl)) (mvT hZ (own_w hw 1 rfl)) (mvT hZ (own_w hw 2 rfl)) (mvT hZ (own_w hw 3 rfl)) (by decide) (backOf (W := 1) (rm_pick l Z a0 hw [] (p2 &&& (3 : Int32)) w1 w2 w3 w4 h0 n0 O0 S_ONE S_OPTIONAL S_ONE_OR_MORE S_ZERO_OR_MORE) hZ (own_w hw 3 rfl) (own_w hw 2 rfl) (by decide) (by decide)) (g := (mkF m 36 #[.val (.int p1), .val (.int p2), .val (.int (p1 &&& (3 : Int32))), .val (.int (p2 &&& (3 : Int32))), .val (.ref w1), .val (.ref w4), .val (.ref w4)] [(.int (p2 &&& (3 : Int32))), (.ref w4)])) rfl (by rw [hml]; rfl) (argsL := [(.int (p2 &&& (3 : Int32)))]) (rest := [(.ref w4)]) (lenOf pd_1 rfl) rfl (by show 2 * 0 + _ ≤ _; exact Nat.le_of_eq rfl) (hb hby at_36) (fun _ _ => ⟨rfl, k340, (by decide : 0 + 0 ≤ _), (by decide : 0 + 0 ≤ _)⟩)
              dsimp only [Pt.U, Pt.locs, Pt.cells, Pt.slots] at X356 l356 y356 z356 st356 hQ356
              subst l356 y356 z356
              rcases hQ356 with ⟨c357, rfl, N358, k359⟩ | ⟨c360, c361, rfl, N362, k363⟩ | ⟨c364, c365, c366, rfl, N367, k368⟩ | ⟨c369, c370, c371, rfl, N372, k373⟩
              · exact absurd c357 (c301 : ¬ ((p2 &&& (3 : Int32)) = (0 : Int32)))
              · exact absurd c361 (c302 : ¬ ((p2 &&& (3 : Int32)) = (1 : Int32)))
              · exact absurd c366 (c303 : ¬ ((p2 &&& (3 : Int32)) = (2 : Int32)))
              · have N374 := Fr.app N355 N372
                have S375 : ∀ t, Steps p.tables e below (T356.setTop (mkF m 47 #[.val (.int p1), .val (.int p2), .val (.int (p1 &&& (3 : Int32))), .val (.int (p2 &&& (3 : Int32))), .val (.ref w1), .val (.ref w4), .val (.ref w4)] [(.int (1 : Int32))])) t → Steps p.tables e below (s₁.setTop (mkF m 0 #[.val (.int p1), .val (.int p2), .unset, .unset, .unset, .unset, .unset] [])) t := by
                  intro t kt
                  refine S22 t ?_
                  refine XS.iloadN X3.here hx rfl (hb hby at_14) rfl ?_
                  show Steps p.tables e below (T3.setTop (mkF m 15 #[.val (.int p1), .val (.int p2), .val (.int (p1 &&& (3 : Int32))), .val (.int (p2 &&& (3 : Int32))), .val (.ref w1), .unset, .unset] [(.int (p2 &&& (3 : Int32)))])) _
                  refine st288 _ ?_
                  refine XS.astore X288.here hx rfl (hb hby at_18) rfl rfl (l' := #[.val (.int p1), .val (.int p2), .val (.int (p1 &&& (3 : Int32))), .val (.int (p2 &&& (3 : Int32))), .val (.ref w1), .val (.ref w4), .unset]) rfl ?_
                  refine XS.aload X288.here hx rfl (hb hby at_20) rfl rfl ?_
                  refine XS.aload X288.here hx rfl (hb hby at_22) rfl rfl ?_
                  show Steps p.tables e below (T288.setTop (mkF m 24 #[.val (.int p1), .val (.int p2), .val (.int (p1 &&& (3 : Int32))), .val (.int (p2 &&& (3 : Int32))), .val (.ref w1), .val (.ref w4), .unset] [(.ref w4), (.ref w1)])) _
                  refine st307.trans ?_
                  refine XS.astore X307.here hx rfl (hb hby at_27) rfl rfl (l' := #[.val (.int p1), .val (.int p2), .val (.int (p1 &&& (3 : Int32))), .val (.int (p2 &&& (3 : Int32))), .val (.ref w1), .val (.ref w4), .val (.ref w4)]) rfl ?_
                  refine XS.aload X307.here hx rfl (hb hby at_29) rfl rfl ?_
                  refine XS.iloadN X307.here hx rfl (hb hby at_31) rfl ?_
                  refine XS.iloadN X307.here hx rfl (hb hby at_32) rfl ?_
                  show Steps p.tables e below (T307.setTop (mkF m 33 #[.val (.int p1), .val (.int p2), .val (.int (p1 &&& (3 : Int32))), .val (.int (p2 &&& (3 : Int32))), .val (.ref w1), .val (.ref w4), .val (.ref w4)] [(.int (p2 &&& (3 : Int32))), (.int (p1 &&& (3 : Int32))), (.ref w4)])) _
                  refine st337 _ ?_
                  show Steps p.tables e below (T337.setTop (mkF m 36 #[.val (.int p1), .val (.int p2), .val (.int (p1 &&& (3 : Int32))), .val (.int (p2 &&& (3 : Int32))), .val (.ref w1), .val (.ref w4), .val (.ref w4)] [(.int (p2 &&& (3 : Int32))), (.ref w4)])) _
                  refine st356 _ ?_
                  show Steps p.tables e below (T356.setTop (mkF m 39 #[.val (.int p1), .val (.int p2), .val (.int (p1 &&& (3 : Int32))), .val (.int (p2 &&& (3 : Int32))), .val (.ref w1), .val (.ref w4), .val (.ref w4)] [(.ref w4), (.ref w4)])) _
                  refine Jvm.RoadKit.acmp (g := (mkF m 39 #[.val (.int p1), .val (.int p2), .val (.int (p1 &&& (3 : Int32))), .val (.int (p2 &&& (3 : Int32))), .val (.ref w1), .val (.ref w4), .val (.ref w4)] [(.ref w4), (.ref w4)])) X356 hx rfl rfl rfl (pc0 := 39) (pc' := 42) (same := true) rfl (hb hby at_39) rfl (decide_eq_true rfl) (by decide) (by decide) ?_
                  refine XS.iconst X356.here hx rfl (hb hby at_42) ?_
                  refine XS.goto X356.here hx rfl (pc0 := 43) (pc' := 47) rfl (hb hby at_43) (by decide) (by decide) ?_
                  exact kt
                obtain ⟨fs, hr, hrun, hended, hW, hsame⟩ := X356.leave (v := some (.int (1 : Int32))) (fun h => by rw [Bd.returns] at h; cases h)
                refine ⟨_, _, pre0 _ (S375 _ ?_), hrun, hended, _, _, rfl, ?_, ⟨_, rfl⟩, hW, hsame.mono (by decide) (by decide)⟩
                · exact retN X356 hx (t := .boolean) Bd.returns (by simp) (hb hby at_47) hr
                · show Q_rm_law Z p1 p2 w1 w2 w3 w4 h0 n0 _ T356.heap _
                  rw [k373]
                  exact ⟨rfl, N374⟩
            · exact absurd (c4 : (p1 &&& (3 : Int32)) = (0 : Int32)) c341
            · exact absurd (c4 : (p1 &&& (3 : Int32)) = (0 : Int32)) c345
            · exact absurd (c4 : (p1 &&& (3 : Int32)) = (0 : Int32)) c350
          · exact absurd ((by decide) : ((1 : Int32) * (0 : Int32)) = (0 : Int32)) c323
          · exact absurd c327 ((by decide) : ¬ ((1 : Int32) = (0 : Int32)))
          · exact absurd c332 ((by decide) : ¬ ((1 : Int32) = (0 : Int32)))
    · exact absurd (c2 : (p1 &&& (3 : Int32)) = (0 : Int32)) c7
    · exact absurd (c2 : (p1 &&& (3 : Int32)) = (0 : Int32)) c11
    · exact absurd (c2 : (p1 &&& (3 : Int32)) = (0 : Int32)) c16
  · obtain ⟨_, _, ⟨T376, L376, k376, n376⟩, -, X376, ⟨Lc376, hQ376, l376, y376, z376⟩, st376⟩ := Jvm.LawKit.callS X0 hx (y := (⟨"com/example/typecheck/typecheck/model/QuantifierTimesPinLaw", "pick", "(I)Lcom/example/typecheck/typecheck/model/Quantifier;"⟩ : MethodName)) hown (mvT hZ (own_w hw 0 rfl)) (mvT hZ (own_w hw 1 rfl)) (mvT hZ (own_w hw 2 rfl)) (mvT hZ (own_w hw 3 rfl)) (by decide) (backOf (W := 0) (rm_pick l Z a0 hw [] (p1 &&& (3 : Int32)) w1 w2 w3 w4 h0 n0 O0 S_ONE S_OPTIONAL S_ONE_OR_MORE S_ZERO_OR_MORE) hZ (own_w hw 3 rfl) (own_w hw 2 rfl) (by decide) (by decide)) (g := (mkF m 9 #[.val (.int p1), .val (.int p2), .val (.int (p1 &&& (3 : Int32))), .val (.int (p2 &&& (3 : Int32))), .unset, .unset, .unset] [(.int (p1 &&& (3 : Int32)))])) rfl (by rw [hml]; rfl) (argsL := [(.int (p1 &&& (3 : Int32)))]) (rest := []) (lenOf pd_1 rfl) rfl (by show 2 * 0 + _ ≤ _; exact Nat.le_of_eq rfl) (hb hby at_9) (fun _ _ => ⟨rfl, e0, (by decide : 0 + 0 ≤ _), (by decide : 0 + 0 ≤ _)⟩)
    dsimp only [Pt.U, Pt.locs, Pt.cells, Pt.slots] at X376 l376 y376 z376 st376 hQ376
    subst l376 y376 z376
    rcases hQ376 with ⟨c377, rfl, N378, k379⟩ | ⟨c380, c381, rfl, N382, k383⟩ | ⟨c384, c385, c386, rfl, N387, k388⟩ | ⟨c389, c390, c391, rfl, N392, k393⟩
    · exact absurd c377 ((by rw [c2] <;> decide) : ¬ ((p1 &&& (3 : Int32)) = (0 : Int32)))
    · have N394 := Fr.app N0 N382
      have S395 : ∀ t, Steps p.tables e below (T376.setTop (mkF m 14 #[.val (.int p1), .val (.int p2), .val (.int (p1 &&& (3 : Int32))), .val (.int (p2 &&& (3 : Int32))), .val (.ref w2), .unset, .unset] [])) t → Steps p.tables e below (s₁.setTop (mkF m 0 #[.val (.int p1), .val (.int p2), .unset, .unset, .unset, .unset, .unset] [])) t := by
        intro t kt
        refine S1 t ?_
        refine XS.iloadN X0.here hx rfl (hb hby at_8) rfl ?_
        show Steps p.tables e below (s₁.setTop (mkF m 9 #[.val (.int p1), .val (.int p2), .val (.int (p1 &&& (3 : Int32))), .val (.int (p2 &&& (3 : Int32))), .unset, .unset, .unset] [(.int (p1 &&& (3 : Int32)))])) _
        refine st376 _ ?_
        refine XS.astore X376.here hx rfl (hb hby at_12) rfl rfl (l' := #[.val (.int p1), .val (.int p2), .val (.int (p1 &&& (3 : Int32))), .val (.int (p2 &&& (3 : Int32))), .val (.ref w2), .unset, .unset]) rfl ?_
        exact kt
      rcases own_and3 p2 with c396 | c396 | c396 | c396
      · obtain ⟨_, _, ⟨T397, L397, k397, n397⟩, -, X397, ⟨Lc397, hQ397, l397, y397, z397⟩, st397⟩ := Jvm.LawKit.callS X376 hx (y := (⟨"com/example/typecheck/typecheck/model/QuantifierTimesPinLaw", "pick", "(I)Lcom/example/typecheck/typecheck/model/Quantifier;"⟩ : MethodName)) hown (mvT hZ (own_w hw 0 rfl)) (mvT hZ (own_w hw 1 rfl)) (mvT hZ (own_w hw 2 rfl)) (mvT hZ (own_w hw 3 rfl)) (by decide) (backOf (W := 0) (rm_pick l Z a0 hw [] (p2 &&& (3 : Int32)) w1 w2 w3 w4 h0 n0 O0 S_ONE S_OPTIONAL S_ONE_OR_MORE S_ZERO_OR_MORE) hZ (own_w hw 3 rfl) (own_w hw 2 rfl) (by decide) (by decide)) (g := (mkF m 15 #[.val (.int p1), .val (.int p2), .val (.int (p1 &&& (3 : Int32))), .val (.int (p2 &&& (3 : Int32))), .val (.ref w2), .unset, .unset] [(.int (p2 &&& (3 : Int32)))])) rfl (by rw [hml]; rfl) (argsL := [(.int (p2 &&& (3 : Int32)))]) (rest := []) (lenOf pd_1 rfl) rfl (by show 2 * 0 + _ ≤ _; exact Nat.le_of_eq rfl) (hb hby at_15) (fun _ _ => ⟨rfl, k383, (by decide : 0 + 0 ≤ _), (by decide : 0 + 0 ≤ _)⟩)
        dsimp only [Pt.U, Pt.locs, Pt.cells, Pt.slots] at X397 l397 y397 z397 st397 hQ397
        subst l397 y397 z397
        rcases hQ397 with ⟨c398, rfl, N399, k400⟩ | ⟨c401, c402, rfl, N403, k404⟩ | ⟨c405, c406, c407, rfl, N408, k409⟩ | ⟨c410, c411, c412, rfl, N413, k414⟩
        · have N415 := Fr.app N394 N399
          obtain ⟨cq416, kq416, q416a, q416b, q416c⟩ := isOf hZ k400 (E_w2.ext O0.2)
          obtain ⟨_, _, ⟨T416, L416, k416, n416⟩, -, X416, ⟨Lc416, hQ416, l416, y416, z416⟩, st416⟩ := X397.virtualBack hx (y := (⟨"com/example/typecheck/typecheck/model/Quantifier", "times", "(Lcom/example/typecheck/typecheck/model/Quantifier;)Lcom/example/typecheck/typecheck/model/Quantifier;"⟩ : MethodName)) (z := (⟨"com/example/typecheck/typecheck/model/Quantifier", "times", "(Lcom/example/typecheck/typecheck/model/Quantifier;)Lcom/example/typecheck/typecheck/model/Quantifier;"⟩ : MethodName)) hown (mvT hZ (own_w hw 9 rfl)) (mvT hZ (own_w hw 10 rfl)) (notFace_of_selects (args := #[]) (mvT hZ (own_w hw 12 rfl))) (mvT hZ (own_w hw 12 rfl)) (mvT hZ (own_w hw 11 rfl)) (by decide) (backOf (W := 0) (rm_times l Z a0 hw [] w2 w1 (0 : Int32) (0 : Int32) (1 : Int32) (0 : Int32) w1 w2 w3 w4 h0 n0 O0 Fm_w2 Fu_w2 Fm_w1 Fu_w1 S_ONE S_OPTIONAL S_ONE_OR_MORE S_ZERO_OR_MORE) hZ (own_w hw 13 rfl) (own_w hw 5 rfl) (by decide) (by decide)) q416a q416c (g := (mkF m 24 #[.val (.int p1), .val (.int p2), .val (.int (p1 &&& (3 : Int32))), .val (.int (p2 &&& (3 : Int32))), .val (.ref w2), .val (.ref w1), .unset] [(.ref w1), (.ref w2)])) rfl (by rw [hml]; rfl) (Steps.refl _) (argsL := [(.ref w1)]) (rest := []) (lenOf pd_2 rfl) rfl (by show 2 * 0 + _ ≤ _; exact Nat.le_of_eq rfl) (hb hby at_24) (fun _ _ => ⟨rfl, k400, (by decide : 0 + 0 ≤ _), (by decide : 0 + 0 ≤ _)⟩)
          dsimp only [Pt.U, Pt.locs, Pt.cells, Pt.slots] at X416 l416 y416 z416 st416 hQ416
          subst l416 y416 z416
          rcases hQ416 with ⟨c417, c418, rfl, N419, k420⟩ | ⟨c421, c422, rfl, N423, k424⟩ | ⟨c425, c426, c427, rfl, N428, k429⟩ | ⟨c430, c431, c432, rfl, N433, k434⟩ | ⟨c435, c436, c437, rfl, N438, k439⟩ | ⟨c440, c441, c442, rfl, N443, k444⟩
          · exact absurd ((by decide) : (0 : Int32) = (0 : Int32)) c417
          · exact absurd ((by decide) : (0 : Int32) = (0 : Int32)) c421
          · exact absurd ((by decide) : (0 : Int32) = (0 : Int32)) c426
          · exact absurd ((by decide) : (0 : Int32) = (0 : Int32)) c431
          · have N445 := Fr.app N415 N438
            obtain ⟨_, _, ⟨T446, L446, k446, n446⟩, -, X446, ⟨Lc446, hQ446, l446, y446, z446⟩, st446⟩ := Jvm.LawKit.callS X416 hx (y := (⟨"com/example/typecheck/typecheck/model/QuantifierTimesPinLaw", "expected", "(II)I"⟩ : MethodName)) hown (mvT hZ (own_w hw 22 rfl)) (mvT hZ (own_w hw 23 rfl)) (mvT hZ (own_w hw 2 rfl)) (mvT hZ (own_w hw 24 rfl)) (by decide) (backOf (W := 1) (rm_exp l Z a0 hw [] (p1 &&& (3 : Int32)) (p2 &&& (3 : Int32)) h0 n0 O0 ) hZ (own_w hw 24 rfl) (own_w hw 2 rfl) (by decide) (by decide)) (g := (mkF m 33 #[.val (.int p1), .val (.int p2), .val (.int (p1 &&& (3 : Int32))), .val (.int (p2 &&& (3 : Int32))), .val (.ref w2), .val (.ref w1), .val (.ref w2)] [(.int (p2 &&& (3 : Int32))), (.int (p1 &&& (3 : Int32))), (.ref w2)])) rfl (by rw [hml]; rfl) (argsL := [(.int (p1 &&& (3 : Int32))), (.int (p2 &&& (3 : Int32)))]) (rest := [(.ref w2)]) (lenOf pd_3 rfl) rfl (by show 2 * 0 + _ ≤ _; exact Nat.le_of_eq rfl) (hb hby at_33) (fun _ _ => ⟨rfl, k439, (by decide : 0 + 0 ≤ _), (by decide : 0 + 0 ≤ _)⟩)
            dsimp only [Pt.U, Pt.locs, Pt.cells, Pt.slots] at X446 l446 y446 z446 st446 hQ446
            subst l446 y446 z446
            rcases hQ446 with ⟨c447, rfl, N448, k449⟩ | ⟨c450, c451, rfl, N452, k453⟩ | ⟨c454, c455, c456, rfl, N457, k458⟩ | ⟨c459, c460, c461, rfl, N462, k463⟩
            · exact absurd c447 (c380 : ¬ ((p1 &&& (3 : Int32)) = (0 : Int32)))
            · have N464 := Fr.app N445 N452
              obtain ⟨_, _, ⟨T465, L465, k465, n465⟩, -, X465, ⟨Lc465, hQ465, l465, y465, z465⟩, st465⟩ := Jvm.LawKit.callS X446 hx (y := (⟨"com/example/typecheck/typecheck/model/QuantifierTimesPinLaw", "pick", "(I)Lcom/example/typecheck/typecheck/model/Quantifier;"⟩ : MethodName)) hown (mvT hZ (own_w hw 0 rfl)) (mvT hZ (own_w hw 1 rfl)) (mvT hZ (own_w hw 2 rfl)) (mvT hZ (own_w hw 3 rfl)) (by decide) (backOf (W := 1) (rm_pick l Z a0 hw [] (p1 &&& (3 : Int32)) w1 w2 w3 w4 h0 n0 O0 S_ONE S_OPTIONAL S_ONE_OR_MORE S_ZERO_OR_MORE) hZ (own_w hw 3 rfl) (own_w hw 2 rfl) (by decide) (by decide)) (g := (mkF m 36 #[.val (.int p1), .val (.int p2), .val (.int (p1 &&& (3 : Int32))), .val (.int (p2 &&& (3 : Int32))), .val (.ref w2), .val (.ref w1), .val (.ref w2)] [(.int (p1 &&& (3 : Int32))), (.ref w2)])) rfl (by rw [hml]; rfl) (argsL := [(.int (p1 &&& (3 : Int32)))]) (rest := [(.ref w2)]) (lenOf pd_1 rfl) rfl (by show 2 * 0 + _ ≤ _; exact Nat.le_of_eq rfl) (hb hby at_36) (fun _ _ => ⟨rfl, k453, (by decide : 0 + 0 ≤ _), (by decide : 0 + 0 ≤ _)⟩)
              dsimp only [Pt.U, Pt.locs, Pt.cells, Pt.slots] at X465 l465 y465 z465 st465 hQ465
              subst l465 y465 z465
              rcases hQ465 with ⟨c466, rfl, N467, k468⟩ | ⟨c469, c470, rfl, N471, k472⟩ | ⟨c473, c474, c475, rfl, N476, k477⟩ | ⟨c478, c479, c480, rfl, N481, k482⟩
              · exact absurd c466 (c450 : ¬ ((p1 &&& (3 : Int32)) = (0 : Int32)))
              · have N483 := Fr.app N464 N471
                have S484 : ∀ t, Steps p.tables e below (T465.setTop (mkF m 47 #[.val (.int p1), .val (.int p2), .val (.int (p1 &&& (3 : Int32))), .val (.int (p2 &&& (3 : Int32))), .val (.ref w2), .val (.ref w1), .val (.ref w2)] [(.int (1 : Int32))])) t → Steps p.tables e below (s₁.setTop (mkF m 0 #[.val (.int p1), .val (.int p2), .unset, .unset, .unset, .unset, .unset] [])) t := by
                  intro t kt
                  refine S395 t ?_
                  refine XS.iloadN X376.here hx rfl (hb hby at_14) rfl ?_
                  show Steps p.tables e below (T376.setTop (mkF m 15 #[.val (.int p1), .val (.int p2), .val (.int (p1 &&& (3 : Int32))), .val (.int (p2 &&& (3 : Int32))), .val (.ref w2), .unset, .unset] [(.int (p2 &&& (3 : Int32)))])) _
                  refine st397 _ ?_
                  refine XS.astore X397.here hx rfl (hb hby at_18) rfl rfl (l' := #[.val (.int p1), .val (.int p2), .val (.int (p1 &&& (3 : Int32))), .val (.int (p2 &&& (3 : Int32))), .val (.ref w2), .val (.ref w1), .unset]) rfl ?_
                  refine XS.aload X397.here hx rfl (hb hby at_20) rfl rfl ?_
                  refine XS.aload X397.here hx rfl (hb hby at_22) rfl rfl ?_
                  show Steps p.tables e below (T397.setTop (mkF m 24 #[.val (.int p1), .val (.int p2), .val (.int (p1 &&& (3 : Int32))), .val (.int (p2 &&& (3 : Int32))), .val (.ref w2), .val (.ref w1), .unset] [(.ref w1), (.ref w2)])) _
                  refine st416.trans ?_
                  refine XS.astore X416.here hx rfl (hb hby at_27) rfl rfl (l' := #[.val (.int p1), .val (.int p2), .val (.int (p1 &&& (3 : Int32))), .val (.int (p2 &&& (3 : Int32))), .val (.ref w2), .val (.ref w1), .val (.ref w2)]) rfl ?_
                  refine XS.aload X416.here hx rfl (hb hby at_29) rfl rfl ?_
                  refine XS.iloadN X416.here hx rfl (hb hby at_31) rfl ?_
                  refine XS.iloadN X416.here hx rfl (hb hby at_32) rfl ?_
                  show Steps p.tables e below (T416.setTop (mkF m 33 #[.val (.int p1), .val (.int p2), .val (.int (p1 &&& (3 : Int32))), .val (.int (p2 &&& (3 : Int32))), .val (.ref w2), .val (.ref w1), .val (.ref w2)] [(.int (p2 &&& (3 : Int32))), (.int (p1 &&& (3 : Int32))), (.ref w2)])) _
                  refine st446 _ ?_
                  show Steps p.tables e below (T446.setTop (mkF m 36 #[.val (.int p1), .val (.int p2), .val (.int (p1 &&& (3 : Int32))), .val (.int (p2 &&& (3 : Int32))), .val (.ref w2), .val (.ref w1), .val (.ref w2)] [(.int (p1 &&& (3 : Int32))), (.ref w2)])) _
                  refine st465 _ ?_
                  show Steps p.tables e below (T465.setTop (mkF m 39 #[.val (.int p1), .val (.int p2), .val (.int (p1 &&& (3 : Int32))), .val (.int (p2 &&& (3 : Int32))), .val (.ref w2), .val (.ref w1), .val (.ref w2)] [(.ref w2), (.ref w2)])) _
                  refine Jvm.RoadKit.acmp (g := (mkF m 39 #[.val (.int p1), .val (.int p2), .val (.int (p1 &&& (3 : Int32))), .val (.int (p2 &&& (3 : Int32))), .val (.ref w2), .val (.ref w1), .val (.ref w2)] [(.ref w2), (.ref w2)])) X465 hx rfl rfl rfl (pc0 := 39) (pc' := 42) (same := true) rfl (hb hby at_39) rfl (decide_eq_true rfl) (by decide) (by decide) ?_
                  refine XS.iconst X465.here hx rfl (hb hby at_42) ?_
                  refine XS.goto X465.here hx rfl (pc0 := 43) (pc' := 47) rfl (hb hby at_43) (by decide) (by decide) ?_
                  exact kt
                obtain ⟨fs, hr, hrun, hended, hW, hsame⟩ := X465.leave (v := some (.int (1 : Int32))) (fun h => by rw [Bd.returns] at h; cases h)
                refine ⟨_, _, pre0 _ (S484 _ ?_), hrun, hended, _, _, rfl, ?_, ⟨_, rfl⟩, hW, hsame.mono (by decide) (by decide)⟩
                · exact retN X465 hx (t := .boolean) Bd.returns (by simp) (hb hby at_47) hr
                · show Q_rm_law Z p1 p2 w1 w2 w3 w4 h0 n0 _ T465.heap _
                  rw [k472]
                  exact ⟨rfl, N483⟩
              · exact absurd (c381 : (p1 &&& (3 : Int32)) = (1 : Int32)) c474
              · exact absurd (c381 : (p1 &&& (3 : Int32)) = (1 : Int32)) c479
            · exact absurd (c398 : (p2 &&& (3 : Int32)) = (0 : Int32)) c455
            · exact absurd (c398 : (p2 &&& (3 : Int32)) = (0 : Int32)) c460
          · exact absurd ((by decide) : ((0 : Int32) * (1 : Int32)) = (0 : Int32)) c442
        · exact absurd (c396 : (p2 &&& (3 : Int32)) = (0 : Int32)) c401
        · exact absurd (c396 : (p2 &&& (3 : Int32)) = (0 : Int32)) c405
        · exact absurd (c396 : (p2 &&& (3 : Int32)) = (0 : Int32)) c410
      · obtain ⟨_, _, ⟨T485, L485, k485, n485⟩, -, X485, ⟨Lc485, hQ485, l485, y485, z485⟩, st485⟩ := Jvm.LawKit.callS X376 hx (y := (⟨"com/example/typecheck/typecheck/model/QuantifierTimesPinLaw", "pick", "(I)Lcom/example/typecheck/typecheck/model/Quantifier;"⟩ : MethodName)) hown (mvT hZ (own_w hw 0 rfl)) (mvT hZ (own_w hw 1 rfl)) (mvT hZ (own_w hw 2 rfl)) (mvT hZ (own_w hw 3 rfl)) (by decide) (backOf (W := 0) (rm_pick l Z a0 hw [] (p2 &&& (3 : Int32)) w1 w2 w3 w4 h0 n0 O0 S_ONE S_OPTIONAL S_ONE_OR_MORE S_ZERO_OR_MORE) hZ (own_w hw 3 rfl) (own_w hw 2 rfl) (by decide) (by decide)) (g := (mkF m 15 #[.val (.int p1), .val (.int p2), .val (.int (p1 &&& (3 : Int32))), .val (.int (p2 &&& (3 : Int32))), .val (.ref w2), .unset, .unset] [(.int (p2 &&& (3 : Int32)))])) rfl (by rw [hml]; rfl) (argsL := [(.int (p2 &&& (3 : Int32)))]) (rest := []) (lenOf pd_1 rfl) rfl (by show 2 * 0 + _ ≤ _; exact Nat.le_of_eq rfl) (hb hby at_15) (fun _ _ => ⟨rfl, k383, (by decide : 0 + 0 ≤ _), (by decide : 0 + 0 ≤ _)⟩)
        dsimp only [Pt.U, Pt.locs, Pt.cells, Pt.slots] at X485 l485 y485 z485 st485 hQ485
        subst l485 y485 z485
        rcases hQ485 with ⟨c486, rfl, N487, k488⟩ | ⟨c489, c490, rfl, N491, k492⟩ | ⟨c493, c494, c495, rfl, N496, k497⟩ | ⟨c498, c499, c500, rfl, N501, k502⟩
        · exact absurd c486 ((by rw [c396] <;> decide) : ¬ ((p2 &&& (3 : Int32)) = (0 : Int32)))
        · have N503 := Fr.app N394 N491
          obtain ⟨cq504, kq504, q504a, q504b, q504c⟩ := isOf hZ k492 (E_w2.ext O0.2)
          obtain ⟨_, _, ⟨T504, L504, k504, n504⟩, -, X504, ⟨Lc504, hQ504, l504, y504, z504⟩, st504⟩ := X485.virtualBack hx (y := (⟨"com/example/typecheck/typecheck/model/Quantifier", "times", "(Lcom/example/typecheck/typecheck/model/Quantifier;)Lcom/example/typecheck/typecheck/model/Quantifier;"⟩ : MethodName)) (z := (⟨"com/example/typecheck/typecheck/model/Quantifier", "times", "(Lcom/example/typecheck/typecheck/model/Quantifier;)Lcom/example/typecheck/typecheck/model/Quantifier;"⟩ : MethodName)) hown (mvT hZ (own_w hw 9 rfl)) (mvT hZ (own_w hw 10 rfl)) (notFace_of_selects (args := #[]) (mvT hZ (own_w hw 12 rfl))) (mvT hZ (own_w hw 12 rfl)) (mvT hZ (own_w hw 11 rfl)) (by decide) (backOf (W := 0) (rm_times l Z a0 hw [] w2 w2 (0 : Int32) (0 : Int32) (0 : Int32) (0 : Int32) w1 w2 w3 w4 h0 n0 O0 Fm_w2 Fu_w2 Fm_w2 Fu_w2 S_ONE S_OPTIONAL S_ONE_OR_MORE S_ZERO_OR_MORE) hZ (own_w hw 13 rfl) (own_w hw 5 rfl) (by decide) (by decide)) q504a q504c (g := (mkF m 24 #[.val (.int p1), .val (.int p2), .val (.int (p1 &&& (3 : Int32))), .val (.int (p2 &&& (3 : Int32))), .val (.ref w2), .val (.ref w2), .unset] [(.ref w2), (.ref w2)])) rfl (by rw [hml]; rfl) (Steps.refl _) (argsL := [(.ref w2)]) (rest := []) (lenOf pd_2 rfl) rfl (by show 2 * 0 + _ ≤ _; exact Nat.le_of_eq rfl) (hb hby at_24) (fun _ _ => ⟨rfl, k492, (by decide : 0 + 0 ≤ _), (by decide : 0 + 0 ≤ _)⟩)
          dsimp only [Pt.U, Pt.locs, Pt.cells, Pt.slots] at X504 l504 y504 z504 st504 hQ504
          subst l504 y504 z504
          rcases hQ504 with ⟨c505, c506, rfl, N507, k508⟩ | ⟨c509, c510, rfl, N511, k512⟩ | ⟨c513, c514, c515, rfl, N516, k517⟩ | ⟨c518, c519, c520, rfl, N521, k522⟩ | ⟨c523, c524, c525, rfl, N526, k527⟩ | ⟨c528, c529, c530, rfl, N531, k532⟩
          · exact absurd ((by decide) : (0 : Int32) = (0 : Int32)) c505
          · exact absurd ((by decide) : (0 : Int32) = (0 : Int32)) c509
          · exact absurd ((by decide) : (0 : Int32) = (0 : Int32)) c514
          · exact absurd ((by decide) : (0 : Int32) = (0 : Int32)) c519
          · have N533 := Fr.app N503 N526
            obtain ⟨_, _, ⟨T534, L534, k534, n534⟩, -, X534, ⟨Lc534, hQ534, l534, y534, z534⟩, st534⟩ := Jvm.LawKit.callS X504 hx (y := (⟨"com/example/typecheck/typecheck/model/QuantifierTimesPinLaw", "expected", "(II)I"⟩ : MethodName)) hown (mvT hZ (own_w hw 22 rfl)) (mvT hZ (own_w hw 23 rfl)) (mvT hZ (own_w hw 2 rfl)) (mvT hZ (own_w hw 24 rfl)) (by decide) (backOf (W := 1) (rm_exp l Z a0 hw [] (p1 &&& (3 : Int32)) (p2 &&& (3 : Int32)) h0 n0 O0 ) hZ (own_w hw 24 rfl) (own_w hw 2 rfl) (by decide) (by decide)) (g := (mkF m 33 #[.val (.int p1), .val (.int p2), .val (.int (p1 &&& (3 : Int32))), .val (.int (p2 &&& (3 : Int32))), .val (.ref w2), .val (.ref w2), .val (.ref w2)] [(.int (p2 &&& (3 : Int32))), (.int (p1 &&& (3 : Int32))), (.ref w2)])) rfl (by rw [hml]; rfl) (argsL := [(.int (p1 &&& (3 : Int32))), (.int (p2 &&& (3 : Int32)))]) (rest := [(.ref w2)]) (lenOf pd_3 rfl) rfl (by show 2 * 0 + _ ≤ _; exact Nat.le_of_eq rfl) (hb hby at_33) (fun _ _ => ⟨rfl, k527, (by decide : 0 + 0 ≤ _), (by decide : 0 + 0 ≤ _)⟩)
            dsimp only [Pt.U, Pt.locs, Pt.cells, Pt.slots] at X534 l534 y534 z534 st534 hQ534
            subst l534 y534 z534
            rcases hQ534 with ⟨c535, rfl, N536, k537⟩ | ⟨c538, c539, rfl, N540, k541⟩ | ⟨c542, c543, c544, rfl, N545, k546⟩ | ⟨c547, c548, c549, rfl, N550, k551⟩
            · exact absurd c535 (c380 : ¬ ((p1 &&& (3 : Int32)) = (0 : Int32)))
            · exact absurd c539 (c489 : ¬ ((p2 &&& (3 : Int32)) = (0 : Int32)))
            · have N552 := Fr.app N533 N545
              obtain ⟨_, _, ⟨T553, L553, k553, n553⟩, -, X553, ⟨Lc553, hQ553, l553, y553, z553⟩, st553⟩ := Jvm.LawKit.callS X534 hx (y := (⟨"com/example/typecheck/typecheck/model/QuantifierTimesPinLaw", "pick", "(I)Lcom/example/typecheck/typecheck/model/Quantifier;"⟩ : MethodName)) hown (mvT hZ (own_w hw 0 rfl)) (mvT hZ (own_w hw 1 rfl)) (mvT hZ (own_w hw 2 rfl)) (mvT hZ (own_w hw 3 rfl)) (by decide) (backOf (W := 1) (rm_pick l Z a0 hw [] (p1 &&& (3 : Int32)) w1 w2 w3 w4 h0 n0 O0 S_ONE S_OPTIONAL S_ONE_OR_MORE S_ZERO_OR_MORE) hZ (own_w hw 3 rfl) (own_w hw 2 rfl) (by decide) (by decide)) (g := (mkF m 36 #[.val (.int p1), .val (.int p2), .val (.int (p1 &&& (3 : Int32))), .val (.int (p2 &&& (3 : Int32))), .val (.ref w2), .val (.ref w2), .val (.ref w2)] [(.int (p1 &&& (3 : Int32))), (.ref w2)])) rfl (by rw [hml]; rfl) (argsL := [(.int (p1 &&& (3 : Int32)))]) (rest := [(.ref w2)]) (lenOf pd_1 rfl) rfl (by show 2 * 0 + _ ≤ _; exact Nat.le_of_eq rfl) (hb hby at_36) (fun _ _ => ⟨rfl, k546, (by decide : 0 + 0 ≤ _), (by decide : 0 + 0 ≤ _)⟩)
              dsimp only [Pt.U, Pt.locs, Pt.cells, Pt.slots] at X553 l553 y553 z553 st553 hQ553
              subst l553 y553 z553
              rcases hQ553 with ⟨c554, rfl, N555, k556⟩ | ⟨c557, c558, rfl, N559, k560⟩ | ⟨c561, c562, c563, rfl, N564, k565⟩ | ⟨c566, c567, c568, rfl, N569, k570⟩
              · exact absurd c554 (c542 : ¬ ((p1 &&& (3 : Int32)) = (0 : Int32)))
              · have N571 := Fr.app N552 N559
                have S572 : ∀ t, Steps p.tables e below (T553.setTop (mkF m 47 #[.val (.int p1), .val (.int p2), .val (.int (p1 &&& (3 : Int32))), .val (.int (p2 &&& (3 : Int32))), .val (.ref w2), .val (.ref w2), .val (.ref w2)] [(.int (1 : Int32))])) t → Steps p.tables e below (s₁.setTop (mkF m 0 #[.val (.int p1), .val (.int p2), .unset, .unset, .unset, .unset, .unset] [])) t := by
                  intro t kt
                  refine S395 t ?_
                  refine XS.iloadN X376.here hx rfl (hb hby at_14) rfl ?_
                  show Steps p.tables e below (T376.setTop (mkF m 15 #[.val (.int p1), .val (.int p2), .val (.int (p1 &&& (3 : Int32))), .val (.int (p2 &&& (3 : Int32))), .val (.ref w2), .unset, .unset] [(.int (p2 &&& (3 : Int32)))])) _
                  refine st485 _ ?_
                  refine XS.astore X485.here hx rfl (hb hby at_18) rfl rfl (l' := #[.val (.int p1), .val (.int p2), .val (.int (p1 &&& (3 : Int32))), .val (.int (p2 &&& (3 : Int32))), .val (.ref w2), .val (.ref w2), .unset]) rfl ?_
                  refine XS.aload X485.here hx rfl (hb hby at_20) rfl rfl ?_
                  refine XS.aload X485.here hx rfl (hb hby at_22) rfl rfl ?_
                  show Steps p.tables e below (T485.setTop (mkF m 24 #[.val (.int p1), .val (.int p2), .val (.int (p1 &&& (3 : Int32))), .val (.int (p2 &&& (3 : Int32))), .val (.ref w2), .val (.ref w2), .unset] [(.ref w2), (.ref w2)])) _
                  refine st504.trans ?_
                  refine XS.astore X504.here hx rfl (hb hby at_27) rfl rfl (l' := #[.val (.int p1), .val (.int p2), .val (.int (p1 &&& (3 : Int32))), .val (.int (p2 &&& (3 : Int32))), .val (.ref w2), .val (.ref w2), .val (.ref w2)]) rfl ?_
                  refine XS.aload X504.here hx rfl (hb hby at_29) rfl rfl ?_
                  refine XS.iloadN X504.here hx rfl (hb hby at_31) rfl ?_
                  refine XS.iloadN X504.here hx rfl (hb hby at_32) rfl ?_
                  show Steps p.tables e below (T504.setTop (mkF m 33 #[.val (.int p1), .val (.int p2), .val (.int (p1 &&& (3 : Int32))), .val (.int (p2 &&& (3 : Int32))), .val (.ref w2), .val (.ref w2), .val (.ref w2)] [(.int (p2 &&& (3 : Int32))), (.int (p1 &&& (3 : Int32))), (.ref w2)])) _
                  refine st534 _ ?_
                  show Steps p.tables e below (T534.setTop (mkF m 36 #[.val (.int p1), .val (.int p2), .val (.int (p1 &&& (3 : Int32))), .val (.int (p2 &&& (3 : Int32))), .val (.ref w2), .val (.ref w2), .val (.ref w2)] [(.int (p1 &&& (3 : Int32))), (.ref w2)])) _
                  refine st553 _ ?_
                  show Steps p.tables e below (T553.setTop (mkF m 39 #[.val (.int p1), .val (.int p2), .val (.int (p1 &&& (3 : Int32))), .val (.int (p2 &&& (3 : Int32))), .val (.ref w2), .val (.ref w2), .val (.ref w2)] [(.ref w2), (.ref w2)])) _
                  refine Jvm.RoadKit.acmp (g := (mkF m 39 #[.val (.int p1), .val (.int p2), .val (.int (p1 &&& (3 : Int32))), .val (.int (p2 &&& (3 : Int32))), .val (.ref w2), .val (.ref w2), .val (.ref w2)] [(.ref w2), (.ref w2)])) X553 hx rfl rfl rfl (pc0 := 39) (pc' := 42) (same := true) rfl (hb hby at_39) rfl (decide_eq_true rfl) (by decide) (by decide) ?_
                  refine XS.iconst X553.here hx rfl (hb hby at_42) ?_
                  refine XS.goto X553.here hx rfl (pc0 := 43) (pc' := 47) rfl (hb hby at_43) (by decide) (by decide) ?_
                  exact kt
                obtain ⟨fs, hr, hrun, hended, hW, hsame⟩ := X553.leave (v := some (.int (1 : Int32))) (fun h => by rw [Bd.returns] at h; cases h)
                refine ⟨_, _, pre0 _ (S572 _ ?_), hrun, hended, _, _, rfl, ?_, ⟨_, rfl⟩, hW, hsame.mono (by decide) (by decide)⟩
                · exact retN X553 hx (t := .boolean) Bd.returns (by simp) (hb hby at_47) hr
                · show Q_rm_law Z p1 p2 w1 w2 w3 w4 h0 n0 _ T553.heap _
                  rw [k560]
                  exact ⟨rfl, N571⟩
              · exact absurd (c381 : (p1 &&& (3 : Int32)) = (1 : Int32)) c562
              · exact absurd (c381 : (p1 &&& (3 : Int32)) = (1 : Int32)) c567
            · exact absurd ((by rw [c381, c490] <;> decide) : (p1 &&& (3 : Int32)) = (p2 &&& (3 : Int32))) c549
          · exact absurd ((by decide) : ((0 : Int32) * (0 : Int32)) = (0 : Int32)) c530
        · exact absurd (c396 : (p2 &&& (3 : Int32)) = (1 : Int32)) c494
        · exact absurd (c396 : (p2 &&& (3 : Int32)) = (1 : Int32)) c499
      · obtain ⟨_, _, ⟨T573, L573, k573, n573⟩, -, X573, ⟨Lc573, hQ573, l573, y573, z573⟩, st573⟩ := Jvm.LawKit.callS X376 hx (y := (⟨"com/example/typecheck/typecheck/model/QuantifierTimesPinLaw", "pick", "(I)Lcom/example/typecheck/typecheck/model/Quantifier;"⟩ : MethodName)) hown (mvT hZ (own_w hw 0 rfl)) (mvT hZ (own_w hw 1 rfl)) (mvT hZ (own_w hw 2 rfl)) (mvT hZ (own_w hw 3 rfl)) (by decide) (backOf (W := 0) (rm_pick l Z a0 hw [] (p2 &&& (3 : Int32)) w1 w2 w3 w4 h0 n0 O0 S_ONE S_OPTIONAL S_ONE_OR_MORE S_ZERO_OR_MORE) hZ (own_w hw 3 rfl) (own_w hw 2 rfl) (by decide) (by decide)) (g := (mkF m 15 #[.val (.int p1), .val (.int p2), .val (.int (p1 &&& (3 : Int32))), .val (.int (p2 &&& (3 : Int32))), .val (.ref w2), .unset, .unset] [(.int (p2 &&& (3 : Int32)))])) rfl (by rw [hml]; rfl) (argsL := [(.int (p2 &&& (3 : Int32)))]) (rest := []) (lenOf pd_1 rfl) rfl (by show 2 * 0 + _ ≤ _; exact Nat.le_of_eq rfl) (hb hby at_15) (fun _ _ => ⟨rfl, k383, (by decide : 0 + 0 ≤ _), (by decide : 0 + 0 ≤ _)⟩)
        dsimp only [Pt.U, Pt.locs, Pt.cells, Pt.slots] at X573 l573 y573 z573 st573 hQ573
        subst l573 y573 z573
        rcases hQ573 with ⟨c574, rfl, N575, k576⟩ | ⟨c577, c578, rfl, N579, k580⟩ | ⟨c581, c582, c583, rfl, N584, k585⟩ | ⟨c586, c587, c588, rfl, N589, k590⟩
        · exact absurd c574 ((by rw [c396] <;> decide) : ¬ ((p2 &&& (3 : Int32)) = (0 : Int32)))
        · exact absurd c578 ((by rw [c396] <;> decide) : ¬ ((p2 &&& (3 : Int32)) = (1 : Int32)))
        · have N591 := Fr.app N394 N584
          obtain ⟨cq592, kq592, q592a, q592b, q592c⟩ := isOf hZ k585 (E_w2.ext O0.2)
          obtain ⟨_, _, ⟨T592, L592, k592, n592⟩, -, X592, ⟨Lc592, hQ592, l592, y592, z592⟩, st592⟩ := X573.virtualBack hx (y := (⟨"com/example/typecheck/typecheck/model/Quantifier", "times", "(Lcom/example/typecheck/typecheck/model/Quantifier;)Lcom/example/typecheck/typecheck/model/Quantifier;"⟩ : MethodName)) (z := (⟨"com/example/typecheck/typecheck/model/Quantifier", "times", "(Lcom/example/typecheck/typecheck/model/Quantifier;)Lcom/example/typecheck/typecheck/model/Quantifier;"⟩ : MethodName)) hown (mvT hZ (own_w hw 9 rfl)) (mvT hZ (own_w hw 10 rfl)) (notFace_of_selects (args := #[]) (mvT hZ (own_w hw 12 rfl))) (mvT hZ (own_w hw 12 rfl)) (mvT hZ (own_w hw 11 rfl)) (by decide) (backOf (W := 0) (rm_times l Z a0 hw [] w2 w3 (0 : Int32) (0 : Int32) (1 : Int32) (1 : Int32) w1 w2 w3 w4 h0 n0 O0 Fm_w2 Fu_w2 Fm_w3 Fu_w3 S_ONE S_OPTIONAL S_ONE_OR_MORE S_ZERO_OR_MORE) hZ (own_w hw 13 rfl) (own_w hw 5 rfl) (by decide) (by decide)) q592a q592c (g := (mkF m 24 #[.val (.int p1), .val (.int p2), .val (.int (p1 &&& (3 : Int32))), .val (.int (p2 &&& (3 : Int32))), .val (.ref w2), .val (.ref w3), .unset] [(.ref w3), (.ref w2)])) rfl (by rw [hml]; rfl) (Steps.refl _) (argsL := [(.ref w3)]) (rest := []) (lenOf pd_2 rfl) rfl (by show 2 * 0 + _ ≤ _; exact Nat.le_of_eq rfl) (hb hby at_24) (fun _ _ => ⟨rfl, k585, (by decide : 0 + 0 ≤ _), (by decide : 0 + 0 ≤ _)⟩)
          dsimp only [Pt.U, Pt.locs, Pt.cells, Pt.slots] at X592 l592 y592 z592 st592 hQ592
          subst l592 y592 z592
          rcases hQ592 with ⟨c593, c594, rfl, N595, k596⟩ | ⟨c597, c598, rfl, N599, k600⟩ | ⟨c601, c602, c603, rfl, N604, k605⟩ | ⟨c606, c607, c608, rfl, N609, k610⟩ | ⟨c611, c612, c613, rfl, N614, k615⟩ | ⟨c616, c617, c618, rfl, N619, k620⟩
          · exact absurd ((by decide) : (0 : Int32) = (0 : Int32)) c593
          · exact absurd ((by decide) : (0 : Int32) = (0 : Int32)) c597
          · have N621 := Fr.app N591 N604
            obtain ⟨_, _, ⟨T622, L622, k622, n622⟩, -, X622, ⟨Lc622, hQ622, l622, y622, z622⟩, st622⟩ := Jvm.LawKit.callS X592 hx (y := (⟨"com/example/typecheck/typecheck/model/QuantifierTimesPinLaw", "expected", "(II)I"⟩ : MethodName)) hown (mvT hZ (own_w hw 22 rfl)) (mvT hZ (own_w hw 23 rfl)) (mvT hZ (own_w hw 2 rfl)) (mvT hZ (own_w hw 24 rfl)) (by decide) (backOf (W := 1) (rm_exp l Z a0 hw [] (p1 &&& (3 : Int32)) (p2 &&& (3 : Int32)) h0 n0 O0 ) hZ (own_w hw 24 rfl) (own_w hw 2 rfl) (by decide) (by decide)) (g := (mkF m 33 #[.val (.int p1), .val (.int p2), .val (.int (p1 &&& (3 : Int32))), .val (.int (p2 &&& (3 : Int32))), .val (.ref w2), .val (.ref w3), .val (.ref w4)] [(.int (p2 &&& (3 : Int32))), (.int (p1 &&& (3 : Int32))), (.ref w4)])) rfl (by rw [hml]; rfl) (argsL := [(.int (p1 &&& (3 : Int32))), (.int (p2 &&& (3 : Int32)))]) (rest := [(.ref w4)]) (lenOf pd_3 rfl) rfl (by show 2 * 0 + _ ≤ _; exact Nat.le_of_eq rfl) (hb hby at_33) (fun _ _ => ⟨rfl, k605, (by decide : 0 + 0 ≤ _), (by decide : 0 + 0 ≤ _)⟩)
            dsimp only [Pt.U, Pt.locs, Pt.cells, Pt.slots] at X622 l622 y622 z622 st622 hQ622
            subst l622 y622 z622
            rcases hQ622 with ⟨c623, rfl, N624, k625⟩ | ⟨c626, c627, rfl, N628, k629⟩ | ⟨c630, c631, c632, rfl, N633, k634⟩ | ⟨c635, c636, c637, rfl, N638, k639⟩
            · exact absurd c623 (c380 : ¬ ((p1 &&& (3 : Int32)) = (0 : Int32)))
            · exact absurd c627 (c581 : ¬ ((p2 &&& (3 : Int32)) = (0 : Int32)))
            · exact absurd c632 ((by rw [c381, c583] <;> decide) : ¬ ((p1 &&& (3 : Int32)) = (p2 &&& (3 : Int32))))
            · have N640 := Fr.app N621 N638
              obtain ⟨_, _, ⟨T641, L641, k641, n641⟩, -, X641, ⟨Lc641, hQ641, l641, y641, z641⟩, st641⟩ := Jvm.LawKit.callS X622 hx (y := (⟨"com/example/typecheck/typecheck/model/QuantifierTimesPinLaw", "pick", "(I)Lcom/example/typecheck/typecheck/model/Quantifier;"⟩ : MethodName)) hown (mvT hZ (own_w hw 0 rfl)) (mvT hZ (own_w hw 1 rfl)) (mvT hZ (own_w hw 2 rfl)) (mvT hZ (own_w hw 3 rfl)) (by decide) (backOf (W := 1) (rm_pick l Z a0 hw [] (3 : Int32) w1 w2 w3 w4 h0 n0 O0 S_ONE S_OPTIONAL S_ONE_OR_MORE S_ZERO_OR_MORE) hZ (own_w hw 3 rfl) (own_w hw 2 rfl) (by decide) (by decide)) (g := (mkF m 36 #[.val (.int p1), .val (.int p2), .val (.int (p1 &&& (3 : Int32))), .val (.int (p2 &&& (3 : Int32))), .val (.ref w2), .val (.ref w3), .val (.ref w4)] [(.int (3 : Int32)), (.ref w4)])) rfl (by rw [hml]; rfl) (argsL := [(.int (3 : Int32))]) (rest := [(.ref w4)]) (lenOf pd_1 rfl) rfl (by show 2 * 0 + _ ≤ _; exact Nat.le_of_eq rfl) (hb hby at_36) (fun _ _ => ⟨rfl, k639, (by decide : 0 + 0 ≤ _), (by decide : 0 + 0 ≤ _)⟩)
              dsimp only [Pt.U, Pt.locs, Pt.cells, Pt.slots] at X641 l641 y641 z641 st641 hQ641
              subst l641 y641 z641
              rcases hQ641 with ⟨c642, rfl, N643, k644⟩ | ⟨c645, c646, rfl, N647, k648⟩ | ⟨c649, c650, c651, rfl, N652, k653⟩ | ⟨c654, c655, c656, rfl, N657, k658⟩
              · exact absurd c642 ((by decide) : ¬ ((3 : Int32) = (0 : Int32)))
              · exact absurd c646 ((by decide) : ¬ ((3 : Int32) = (1 : Int32)))
              · exact absurd c651 ((by decide) : ¬ ((3 : Int32) = (2 : Int32)))
              · have N659 := Fr.app N640 N657
                have S660 : ∀ t, Steps p.tables e below (T641.setTop (mkF m 47 #[.val (.int p1), .val (.int p2), .val (.int (p1 &&& (3 : Int32))), .val (.int (p2 &&& (3 : Int32))), .val (.ref w2), .val (.ref w3), .val (.ref w4)] [(.int (1 : Int32))])) t → Steps p.tables e below (s₁.setTop (mkF m 0 #[.val (.int p1), .val (.int p2), .unset, .unset, .unset, .unset, .unset] [])) t := by
                  intro t kt
                  refine S395 t ?_
                  refine XS.iloadN X376.here hx rfl (hb hby at_14) rfl ?_
                  show Steps p.tables e below (T376.setTop (mkF m 15 #[.val (.int p1), .val (.int p2), .val (.int (p1 &&& (3 : Int32))), .val (.int (p2 &&& (3 : Int32))), .val (.ref w2), .unset, .unset] [(.int (p2 &&& (3 : Int32)))])) _
                  refine st573 _ ?_
                  refine XS.astore X573.here hx rfl (hb hby at_18) rfl rfl (l' := #[.val (.int p1), .val (.int p2), .val (.int (p1 &&& (3 : Int32))), .val (.int (p2 &&& (3 : Int32))), .val (.ref w2), .val (.ref w3), .unset]) rfl ?_
                  refine XS.aload X573.here hx rfl (hb hby at_20) rfl rfl ?_
                  refine XS.aload X573.here hx rfl (hb hby at_22) rfl rfl ?_
                  show Steps p.tables e below (T573.setTop (mkF m 24 #[.val (.int p1), .val (.int p2), .val (.int (p1 &&& (3 : Int32))), .val (.int (p2 &&& (3 : Int32))), .val (.ref w2), .val (.ref w3), .unset] [(.ref w3), (.ref w2)])) _
                  refine st592.trans ?_
                  refine XS.astore X592.here hx rfl (hb hby at_27) rfl rfl (l' := #[.val (.int p1), .val (.int p2), .val (.int (p1 &&& (3 : Int32))), .val (.int (p2 &&& (3 : Int32))), .val (.ref w2), .val (.ref w3), .val (.ref w4)]) rfl ?_
                  refine XS.aload X592.here hx rfl (hb hby at_29) rfl rfl ?_
                  refine XS.iloadN X592.here hx rfl (hb hby at_31) rfl ?_
                  refine XS.iloadN X592.here hx rfl (hb hby at_32) rfl ?_
                  show Steps p.tables e below (T592.setTop (mkF m 33 #[.val (.int p1), .val (.int p2), .val (.int (p1 &&& (3 : Int32))), .val (.int (p2 &&& (3 : Int32))), .val (.ref w2), .val (.ref w3), .val (.ref w4)] [(.int (p2 &&& (3 : Int32))), (.int (p1 &&& (3 : Int32))), (.ref w4)])) _
                  refine st622 _ ?_
                  show Steps p.tables e below (T622.setTop (mkF m 36 #[.val (.int p1), .val (.int p2), .val (.int (p1 &&& (3 : Int32))), .val (.int (p2 &&& (3 : Int32))), .val (.ref w2), .val (.ref w3), .val (.ref w4)] [(.int (3 : Int32)), (.ref w4)])) _
                  refine st641 _ ?_
                  show Steps p.tables e below (T641.setTop (mkF m 39 #[.val (.int p1), .val (.int p2), .val (.int (p1 &&& (3 : Int32))), .val (.int (p2 &&& (3 : Int32))), .val (.ref w2), .val (.ref w3), .val (.ref w4)] [(.ref w4), (.ref w4)])) _
                  refine Jvm.RoadKit.acmp (g := (mkF m 39 #[.val (.int p1), .val (.int p2), .val (.int (p1 &&& (3 : Int32))), .val (.int (p2 &&& (3 : Int32))), .val (.ref w2), .val (.ref w3), .val (.ref w4)] [(.ref w4), (.ref w4)])) X641 hx rfl rfl rfl (pc0 := 39) (pc' := 42) (same := true) rfl (hb hby at_39) rfl (decide_eq_true rfl) (by decide) (by decide) ?_
                  refine XS.iconst X641.here hx rfl (hb hby at_42) ?_
                  refine XS.goto X641.here hx rfl (pc0 := 43) (pc' := 47) rfl (hb hby at_43) (by decide) (by decide) ?_
                  exact kt
                obtain ⟨fs, hr, hrun, hended, hW, hsame⟩ := X641.leave (v := some (.int (1 : Int32))) (fun h => by rw [Bd.returns] at h; cases h)
                refine ⟨_, _, pre0 _ (S660 _ ?_), hrun, hended, _, _, rfl, ?_, ⟨_, rfl⟩, hW, hsame.mono (by decide) (by decide)⟩
                · exact retN X641 hx (t := .boolean) Bd.returns (by simp) (hb hby at_47) hr
                · show Q_rm_law Z p1 p2 w1 w2 w3 w4 h0 n0 _ T641.heap _
                  rw [k658]
                  exact ⟨rfl, N659⟩
          · exact absurd ((by decide) : ((0 : Int32) * (1 : Int32)) = (0 : Int32)) c608
          · exact absurd c612 ((by decide) : ¬ ((1 : Int32) = (0 : Int32)))
          · exact absurd c617 ((by decide) : ¬ ((1 : Int32) = (0 : Int32)))
        · exact absurd (c396 : (p2 &&& (3 : Int32)) = (2 : Int32)) c588
      · obtain ⟨_, _, ⟨T661, L661, k661, n661⟩, -, X661, ⟨Lc661, hQ661, l661, y661, z661⟩, st661⟩ := Jvm.LawKit.callS X376 hx (y := (⟨"com/example/typecheck/typecheck/model/QuantifierTimesPinLaw", "pick", "(I)Lcom/example/typecheck/typecheck/model/Quantifier;"⟩ : MethodName)) hown (mvT hZ (own_w hw 0 rfl)) (mvT hZ (own_w hw 1 rfl)) (mvT hZ (own_w hw 2 rfl)) (mvT hZ (own_w hw 3 rfl)) (by decide) (backOf (W := 0) (rm_pick l Z a0 hw [] (p2 &&& (3 : Int32)) w1 w2 w3 w4 h0 n0 O0 S_ONE S_OPTIONAL S_ONE_OR_MORE S_ZERO_OR_MORE) hZ (own_w hw 3 rfl) (own_w hw 2 rfl) (by decide) (by decide)) (g := (mkF m 15 #[.val (.int p1), .val (.int p2), .val (.int (p1 &&& (3 : Int32))), .val (.int (p2 &&& (3 : Int32))), .val (.ref w2), .unset, .unset] [(.int (p2 &&& (3 : Int32)))])) rfl (by rw [hml]; rfl) (argsL := [(.int (p2 &&& (3 : Int32)))]) (rest := []) (lenOf pd_1 rfl) rfl (by show 2 * 0 + _ ≤ _; exact Nat.le_of_eq rfl) (hb hby at_15) (fun _ _ => ⟨rfl, k383, (by decide : 0 + 0 ≤ _), (by decide : 0 + 0 ≤ _)⟩)
        dsimp only [Pt.U, Pt.locs, Pt.cells, Pt.slots] at X661 l661 y661 z661 st661 hQ661
        subst l661 y661 z661
        rcases hQ661 with ⟨c662, rfl, N663, k664⟩ | ⟨c665, c666, rfl, N667, k668⟩ | ⟨c669, c670, c671, rfl, N672, k673⟩ | ⟨c674, c675, c676, rfl, N677, k678⟩
        · exact absurd c662 ((by rw [c396] <;> decide) : ¬ ((p2 &&& (3 : Int32)) = (0 : Int32)))
        · exact absurd c666 ((by rw [c396] <;> decide) : ¬ ((p2 &&& (3 : Int32)) = (1 : Int32)))
        · exact absurd c671 ((by rw [c396] <;> decide) : ¬ ((p2 &&& (3 : Int32)) = (2 : Int32)))
        · have N679 := Fr.app N394 N677
          obtain ⟨cq680, kq680, q680a, q680b, q680c⟩ := isOf hZ k678 (E_w2.ext O0.2)
          obtain ⟨_, _, ⟨T680, L680, k680, n680⟩, -, X680, ⟨Lc680, hQ680, l680, y680, z680⟩, st680⟩ := X661.virtualBack hx (y := (⟨"com/example/typecheck/typecheck/model/Quantifier", "times", "(Lcom/example/typecheck/typecheck/model/Quantifier;)Lcom/example/typecheck/typecheck/model/Quantifier;"⟩ : MethodName)) (z := (⟨"com/example/typecheck/typecheck/model/Quantifier", "times", "(Lcom/example/typecheck/typecheck/model/Quantifier;)Lcom/example/typecheck/typecheck/model/Quantifier;"⟩ : MethodName)) hown (mvT hZ (own_w hw 9 rfl)) (mvT hZ (own_w hw 10 rfl)) (notFace_of_selects (args := #[]) (mvT hZ (own_w hw 12 rfl))) (mvT hZ (own_w hw 12 rfl)) (mvT hZ (own_w hw 11 rfl)) (by decide) (backOf (W := 0) (rm_times l Z a0 hw [] w2 w4 (0 : Int32) (0 : Int32) (0 : Int32) (1 : Int32) w1 w2 w3 w4 h0 n0 O0 Fm_w2 Fu_w2 Fm_w4 Fu_w4 S_ONE S_OPTIONAL S_ONE_OR_MORE S_ZERO_OR_MORE) hZ (own_w hw 13 rfl) (own_w hw 5 rfl) (by decide) (by decide)) q680a q680c (g := (mkF m 24 #[.val (.int p1), .val (.int p2), .val (.int (p1 &&& (3 : Int32))), .val (.int (p2 &&& (3 : Int32))), .val (.ref w2), .val (.ref w4), .unset] [(.ref w4), (.ref w2)])) rfl (by rw [hml]; rfl) (Steps.refl _) (argsL := [(.ref w4)]) (rest := []) (lenOf pd_2 rfl) rfl (by show 2 * 0 + _ ≤ _; exact Nat.le_of_eq rfl) (hb hby at_24) (fun _ _ => ⟨rfl, k678, (by decide : 0 + 0 ≤ _), (by decide : 0 + 0 ≤ _)⟩)
          dsimp only [Pt.U, Pt.locs, Pt.cells, Pt.slots] at X680 l680 y680 z680 st680 hQ680
          subst l680 y680 z680
          rcases hQ680 with ⟨c681, c682, rfl, N683, k684⟩ | ⟨c685, c686, rfl, N687, k688⟩ | ⟨c689, c690, c691, rfl, N692, k693⟩ | ⟨c694, c695, c696, rfl, N697, k698⟩ | ⟨c699, c700, c701, rfl, N702, k703⟩ | ⟨c704, c705, c706, rfl, N707, k708⟩
          · exact absurd ((by decide) : (0 : Int32) = (0 : Int32)) c681
          · exact absurd ((by decide) : (0 : Int32) = (0 : Int32)) c685
          · have N709 := Fr.app N679 N692
            obtain ⟨_, _, ⟨T710, L710, k710, n710⟩, -, X710, ⟨Lc710, hQ710, l710, y710, z710⟩, st710⟩ := Jvm.LawKit.callS X680 hx (y := (⟨"com/example/typecheck/typecheck/model/QuantifierTimesPinLaw", "expected", "(II)I"⟩ : MethodName)) hown (mvT hZ (own_w hw 22 rfl)) (mvT hZ (own_w hw 23 rfl)) (mvT hZ (own_w hw 2 rfl)) (mvT hZ (own_w hw 24 rfl)) (by decide) (backOf (W := 1) (rm_exp l Z a0 hw [] (p1 &&& (3 : Int32)) (p2 &&& (3 : Int32)) h0 n0 O0 ) hZ (own_w hw 24 rfl) (own_w hw 2 rfl) (by decide) (by decide)) (g := (mkF m 33 #[.val (.int p1), .val (.int p2), .val (.int (p1 &&& (3 : Int32))), .val (.int (p2 &&& (3 : Int32))), .val (.ref w2), .val (.ref w4), .val (.ref w4)] [(.int (p2 &&& (3 : Int32))), (.int (p1 &&& (3 : Int32))), (.ref w4)])) rfl (by rw [hml]; rfl) (argsL := [(.int (p1 &&& (3 : Int32))), (.int (p2 &&& (3 : Int32)))]) (rest := [(.ref w4)]) (lenOf pd_3 rfl) rfl (by show 2 * 0 + _ ≤ _; exact Nat.le_of_eq rfl) (hb hby at_33) (fun _ _ => ⟨rfl, k693, (by decide : 0 + 0 ≤ _), (by decide : 0 + 0 ≤ _)⟩)
            dsimp only [Pt.U, Pt.locs, Pt.cells, Pt.slots] at X710 l710 y710 z710 st710 hQ710
            subst l710 y710 z710
            rcases hQ710 with ⟨c711, rfl, N712, k713⟩ | ⟨c714, c715, rfl, N716, k717⟩ | ⟨c718, c719, c720, rfl, N721, k722⟩ | ⟨c723, c724, c725, rfl, N726, k727⟩
            · exact absurd c711 (c380 : ¬ ((p1 &&& (3 : Int32)) = (0 : Int32)))
            · exact absurd c715 (c674 : ¬ ((p2 &&& (3 : Int32)) = (0 : Int32)))
            · exact absurd c720 ((by rw [c381, c396] <;> decide) : ¬ ((p1 &&& (3 : Int32)) = (p2 &&& (3 : Int32))))
            · have N728 := Fr.app N709 N726
              obtain ⟨_, _, ⟨T729, L729, k729, n729⟩, -, X729, ⟨Lc729, hQ729, l729, y729, z729⟩, st729⟩ := Jvm.LawKit.callS X710 hx (y := (⟨"com/example/typecheck/typecheck/model/QuantifierTimesPinLaw", "pick", "(I)Lcom/example/typecheck/typecheck/model/Quantifier;"⟩ : MethodName)) hown (mvT hZ (own_w hw 0 rfl)) (mvT hZ (own_w hw 1 rfl)) (mvT hZ (own_w hw 2 rfl)) (mvT hZ (own_w hw 3 rfl)) (by decide) (backOf (W := 1) (rm_pick l Z a0 hw [] (3 : Int32) w1 w2 w3 w4 h0 n0 O0 S_ONE S_OPTIONAL S_ONE_OR_MORE S_ZERO_OR_MORE) hZ (own_w hw 3 rfl) (own_w hw 2 rfl) (by decide) (by decide)) (g := (mkF m 36 #[.val (.int p1), .val (.int p2), .val (.int (p1 &&& (3 : Int32))), .val (.int (p2 &&& (3 : Int32))), .val (.ref w2), .val (.ref w4), .val (.ref w4)] [(.int (3 : Int32)), (.ref w4)])) rfl (by rw [hml]; rfl) (argsL := [(.int (3 : Int32))]) (rest := [(.ref w4)]) (lenOf pd_1 rfl) rfl (by show 2 * 0 + _ ≤ _; exact Nat.le_of_eq rfl) (hb hby at_36) (fun _ _ => ⟨rfl, k727, (by decide : 0 + 0 ≤ _), (by decide : 0 + 0 ≤ _)⟩)
              dsimp only [Pt.U, Pt.locs, Pt.cells, Pt.slots] at X729 l729 y729 z729 st729 hQ729
              subst l729 y729 z729
              rcases hQ729 with ⟨c730, rfl, N731, k732⟩ | ⟨c733, c734, rfl, N735, k736⟩ | ⟨c737, c738, c739, rfl, N740, k741⟩ | ⟨c742, c743, c744, rfl, N745, k746⟩
              · exact absurd c730 ((by decide) : ¬ ((3 : Int32) = (0 : Int32)))
              · exact absurd c734 ((by decide) : ¬ ((3 : Int32) = (1 : Int32)))
              · exact absurd c739 ((by decide) : ¬ ((3 : Int32) = (2 : Int32)))
              · have N747 := Fr.app N728 N745
                have S748 : ∀ t, Steps p.tables e below (T729.setTop (mkF m 47 #[.val (.int p1), .val (.int p2), .val (.int (p1 &&& (3 : Int32))), .val (.int (p2 &&& (3 : Int32))), .val (.ref w2), .val (.ref w4), .val (.ref w4)] [(.int (1 : Int32))])) t → Steps p.tables e below (s₁.setTop (mkF m 0 #[.val (.int p1), .val (.int p2), .unset, .unset, .unset, .unset, .unset] [])) t := by
                  intro t kt
                  refine S395 t ?_
                  refine XS.iloadN X376.here hx rfl (hb hby at_14) rfl ?_
                  show Steps p.tables e below (T376.setTop (mkF m 15 #[.val (.int p1), .val (.int p2), .val (.int (p1 &&& (3 : Int32))), .val (.int (p2 &&& (3 : Int32))), .val (.ref w2), .unset, .unset] [(.int (p2 &&& (3 : Int32)))])) _
                  refine st661 _ ?_
                  refine XS.astore X661.here hx rfl (hb hby at_18) rfl rfl (l' := #[.val (.int p1), .val (.int p2), .val (.int (p1 &&& (3 : Int32))), .val (.int (p2 &&& (3 : Int32))), .val (.ref w2), .val (.ref w4), .unset]) rfl ?_
                  refine XS.aload X661.here hx rfl (hb hby at_20) rfl rfl ?_
                  refine XS.aload X661.here hx rfl (hb hby at_22) rfl rfl ?_
                  show Steps p.tables e below (T661.setTop (mkF m 24 #[.val (.int p1), .val (.int p2), .val (.int (p1 &&& (3 : Int32))), .val (.int (p2 &&& (3 : Int32))), .val (.ref w2), .val (.ref w4), .unset] [(.ref w4), (.ref w2)])) _
                  refine st680.trans ?_
                  refine XS.astore X680.here hx rfl (hb hby at_27) rfl rfl (l' := #[.val (.int p1), .val (.int p2), .val (.int (p1 &&& (3 : Int32))), .val (.int (p2 &&& (3 : Int32))), .val (.ref w2), .val (.ref w4), .val (.ref w4)]) rfl ?_
                  refine XS.aload X680.here hx rfl (hb hby at_29) rfl rfl ?_
                  refine XS.iloadN X680.here hx rfl (hb hby at_31) rfl ?_
                  refine XS.iloadN X680.here hx rfl (hb hby at_32) rfl ?_
                  show Steps p.tables e below (T680.setTop (mkF m 33 #[.val (.int p1), .val (.int p2), .val (.int (p1 &&& (3 : Int32))), .val (.int (p2 &&& (3 : Int32))), .val (.ref w2), .val (.ref w4), .val (.ref w4)] [(.int (p2 &&& (3 : Int32))), (.int (p1 &&& (3 : Int32))), (.ref w4)])) _
                  refine st710 _ ?_
                  show Steps p.tables e below (T710.setTop (mkF m 36 #[.val (.int p1), .val (.int p2), .val (.int (p1 &&& (3 : Int32))), .val (.int (p2 &&& (3 : Int32))), .val (.ref w2), .val (.ref w4), .val (.ref w4)] [(.int (3 : Int32)), (.ref w4)])) _
                  refine st729 _ ?_
                  show Steps p.tables e below (T729.setTop (mkF m 39 #[.val (.int p1), .val (.int p2), .val (.int (p1 &&& (3 : Int32))), .val (.int (p2 &&& (3 : Int32))), .val (.ref w2), .val (.ref w4), .val (.ref w4)] [(.ref w4), (.ref w4)])) _
                  refine Jvm.RoadKit.acmp (g := (mkF m 39 #[.val (.int p1), .val (.int p2), .val (.int (p1 &&& (3 : Int32))), .val (.int (p2 &&& (3 : Int32))), .val (.ref w2), .val (.ref w4), .val (.ref w4)] [(.ref w4), (.ref w4)])) X729 hx rfl rfl rfl (pc0 := 39) (pc' := 42) (same := true) rfl (hb hby at_39) rfl (decide_eq_true rfl) (by decide) (by decide) ?_
                  refine XS.iconst X729.here hx rfl (hb hby at_42) ?_
                  refine XS.goto X729.here hx rfl (pc0 := 43) (pc' := 47) rfl (hb hby at_43) (by decide) (by decide) ?_
                  exact kt
                obtain ⟨fs, hr, hrun, hended, hW, hsame⟩ := X729.leave (v := some (.int (1 : Int32))) (fun h => by rw [Bd.returns] at h; cases h)
                refine ⟨_, _, pre0 _ (S748 _ ?_), hrun, hended, _, _, rfl, ?_, ⟨_, rfl⟩, hW, hsame.mono (by decide) (by decide)⟩
                · exact retN X729 hx (t := .boolean) Bd.returns (by simp) (hb hby at_47) hr
                · show Q_rm_law Z p1 p2 w1 w2 w3 w4 h0 n0 _ T729.heap _
                  rw [k746]
                  exact ⟨rfl, N747⟩
          · exact absurd ((by decide) : ((0 : Int32) * (0 : Int32)) = (0 : Int32)) c696
          · exact absurd c700 ((by decide) : ¬ ((1 : Int32) = (0 : Int32)))
          · exact absurd c705 ((by decide) : ¬ ((1 : Int32) = (0 : Int32)))
    · exact absurd (c2 : (p1 &&& (3 : Int32)) = (1 : Int32)) c385
    · exact absurd (c2 : (p1 &&& (3 : Int32)) = (1 : Int32)) c390
  · obtain ⟨_, _, ⟨T749, L749, k749, n749⟩, -, X749, ⟨Lc749, hQ749, l749, y749, z749⟩, st749⟩ := Jvm.LawKit.callS X0 hx (y := (⟨"com/example/typecheck/typecheck/model/QuantifierTimesPinLaw", "pick", "(I)Lcom/example/typecheck/typecheck/model/Quantifier;"⟩ : MethodName)) hown (mvT hZ (own_w hw 0 rfl)) (mvT hZ (own_w hw 1 rfl)) (mvT hZ (own_w hw 2 rfl)) (mvT hZ (own_w hw 3 rfl)) (by decide) (backOf (W := 0) (rm_pick l Z a0 hw [] (p1 &&& (3 : Int32)) w1 w2 w3 w4 h0 n0 O0 S_ONE S_OPTIONAL S_ONE_OR_MORE S_ZERO_OR_MORE) hZ (own_w hw 3 rfl) (own_w hw 2 rfl) (by decide) (by decide)) (g := (mkF m 9 #[.val (.int p1), .val (.int p2), .val (.int (p1 &&& (3 : Int32))), .val (.int (p2 &&& (3 : Int32))), .unset, .unset, .unset] [(.int (p1 &&& (3 : Int32)))])) rfl (by rw [hml]; rfl) (argsL := [(.int (p1 &&& (3 : Int32)))]) (rest := []) (lenOf pd_1 rfl) rfl (by show 2 * 0 + _ ≤ _; exact Nat.le_of_eq rfl) (hb hby at_9) (fun _ _ => ⟨rfl, e0, (by decide : 0 + 0 ≤ _), (by decide : 0 + 0 ≤ _)⟩)
    dsimp only [Pt.U, Pt.locs, Pt.cells, Pt.slots] at X749 l749 y749 z749 st749 hQ749
    subst l749 y749 z749
    rcases hQ749 with ⟨c750, rfl, N751, k752⟩ | ⟨c753, c754, rfl, N755, k756⟩ | ⟨c757, c758, c759, rfl, N760, k761⟩ | ⟨c762, c763, c764, rfl, N765, k766⟩
    · exact absurd c750 ((by rw [c2] <;> decide) : ¬ ((p1 &&& (3 : Int32)) = (0 : Int32)))
    · exact absurd c754 ((by rw [c2] <;> decide) : ¬ ((p1 &&& (3 : Int32)) = (1 : Int32)))
    · have N767 := Fr.app N0 N760
      have S768 : ∀ t, Steps p.tables e below (T749.setTop (mkF m 14 #[.val (.int p1), .val (.int p2), .val (.int (p1 &&& (3 : Int32))), .val (.int (p2 &&& (3 : Int32))), .val (.ref w3), .unset, .unset] [])) t → Steps p.tables e below (s₁.setTop (mkF m 0 #[.val (.int p1), .val (.int p2), .unset, .unset, .unset, .unset, .unset] [])) t := by
        intro t kt
        refine S1 t ?_
        refine XS.iloadN X0.here hx rfl (hb hby at_8) rfl ?_
        show Steps p.tables e below (s₁.setTop (mkF m 9 #[.val (.int p1), .val (.int p2), .val (.int (p1 &&& (3 : Int32))), .val (.int (p2 &&& (3 : Int32))), .unset, .unset, .unset] [(.int (p1 &&& (3 : Int32)))])) _
        refine st749 _ ?_
        refine XS.astore X749.here hx rfl (hb hby at_12) rfl rfl (l' := #[.val (.int p1), .val (.int p2), .val (.int (p1 &&& (3 : Int32))), .val (.int (p2 &&& (3 : Int32))), .val (.ref w3), .unset, .unset]) rfl ?_
        exact kt
      rcases own_and3 p2 with c769 | c769 | c769 | c769
      · obtain ⟨_, _, ⟨T770, L770, k770, n770⟩, -, X770, ⟨Lc770, hQ770, l770, y770, z770⟩, st770⟩ := Jvm.LawKit.callS X749 hx (y := (⟨"com/example/typecheck/typecheck/model/QuantifierTimesPinLaw", "pick", "(I)Lcom/example/typecheck/typecheck/model/Quantifier;"⟩ : MethodName)) hown (mvT hZ (own_w hw 0 rfl)) (mvT hZ (own_w hw 1 rfl)) (mvT hZ (own_w hw 2 rfl)) (mvT hZ (own_w hw 3 rfl)) (by decide) (backOf (W := 0) (rm_pick l Z a0 hw [] (p2 &&& (3 : Int32)) w1 w2 w3 w4 h0 n0 O0 S_ONE S_OPTIONAL S_ONE_OR_MORE S_ZERO_OR_MORE) hZ (own_w hw 3 rfl) (own_w hw 2 rfl) (by decide) (by decide)) (g := (mkF m 15 #[.val (.int p1), .val (.int p2), .val (.int (p1 &&& (3 : Int32))), .val (.int (p2 &&& (3 : Int32))), .val (.ref w3), .unset, .unset] [(.int (p2 &&& (3 : Int32)))])) rfl (by rw [hml]; rfl) (argsL := [(.int (p2 &&& (3 : Int32)))]) (rest := []) (lenOf pd_1 rfl) rfl (by show 2 * 0 + _ ≤ _; exact Nat.le_of_eq rfl) (hb hby at_15) (fun _ _ => ⟨rfl, k761, (by decide : 0 + 0 ≤ _), (by decide : 0 + 0 ≤ _)⟩)
        dsimp only [Pt.U, Pt.locs, Pt.cells, Pt.slots] at X770 l770 y770 z770 st770 hQ770
        subst l770 y770 z770
        rcases hQ770 with ⟨c771, rfl, N772, k773⟩ | ⟨c774, c775, rfl, N776, k777⟩ | ⟨c778, c779, c780, rfl, N781, k782⟩ | ⟨c783, c784, c785, rfl, N786, k787⟩
        · have N788 := Fr.app N767 N772
          obtain ⟨cq789, kq789, q789a, q789b, q789c⟩ := isOf hZ k773 (E_w3.ext O0.2)
          obtain ⟨_, _, ⟨T789, L789, k789, n789⟩, -, X789, ⟨Lc789, hQ789, l789, y789, z789⟩, st789⟩ := X770.virtualBack hx (y := (⟨"com/example/typecheck/typecheck/model/Quantifier", "times", "(Lcom/example/typecheck/typecheck/model/Quantifier;)Lcom/example/typecheck/typecheck/model/Quantifier;"⟩ : MethodName)) (z := (⟨"com/example/typecheck/typecheck/model/Quantifier", "times", "(Lcom/example/typecheck/typecheck/model/Quantifier;)Lcom/example/typecheck/typecheck/model/Quantifier;"⟩ : MethodName)) hown (mvT hZ (own_w hw 9 rfl)) (mvT hZ (own_w hw 10 rfl)) (notFace_of_selects (args := #[]) (mvT hZ (own_w hw 12 rfl))) (mvT hZ (own_w hw 12 rfl)) (mvT hZ (own_w hw 11 rfl)) (by decide) (backOf (W := 0) (rm_times l Z a0 hw [] w3 w1 (1 : Int32) (1 : Int32) (1 : Int32) (0 : Int32) w1 w2 w3 w4 h0 n0 O0 Fm_w3 Fu_w3 Fm_w1 Fu_w1 S_ONE S_OPTIONAL S_ONE_OR_MORE S_ZERO_OR_MORE) hZ (own_w hw 13 rfl) (own_w hw 5 rfl) (by decide) (by decide)) q789a q789c (g := (mkF m 24 #[.val (.int p1), .val (.int p2), .val (.int (p1 &&& (3 : Int32))), .val (.int (p2 &&& (3 : Int32))), .val (.ref w3), .val (.ref w1), .unset] [(.ref w1), (.ref w3)])) rfl (by rw [hml]; rfl) (Steps.refl _) (argsL := [(.ref w1)]) (rest := []) (lenOf pd_2 rfl) rfl (by show 2 * 0 + _ ≤ _; exact Nat.le_of_eq rfl) (hb hby at_24) (fun _ _ => ⟨rfl, k773, (by decide : 0 + 0 ≤ _), (by decide : 0 + 0 ≤ _)⟩)
          dsimp only [Pt.U, Pt.locs, Pt.cells, Pt.slots] at X789 l789 y789 z789 st789 hQ789
          subst l789 y789 z789
          rcases hQ789 with ⟨c790, c791, rfl, N792, k793⟩ | ⟨c794, c795, rfl, N796, k797⟩ | ⟨c798, c799, c800, rfl, N801, k802⟩ | ⟨c803, c804, c805, rfl, N806, k807⟩ | ⟨c808, c809, c810, rfl, N811, k812⟩ | ⟨c813, c814, c815, rfl, N816, k817⟩
          · exact absurd c791 ((by decide) : ¬ (((1 : Int32) * (1 : Int32)) = (0 : Int32)))
          · have N818 := Fr.app N788 N796
            obtain ⟨_, _, ⟨T819, L819, k819, n819⟩, -, X819, ⟨Lc819, hQ819, l819, y819, z819⟩, st819⟩ := Jvm.LawKit.callS X789 hx (y := (⟨"com/example/typecheck/typecheck/model/QuantifierTimesPinLaw", "expected", "(II)I"⟩ : MethodName)) hown (mvT hZ (own_w hw 22 rfl)) (mvT hZ (own_w hw 23 rfl)) (mvT hZ (own_w hw 2 rfl)) (mvT hZ (own_w hw 24 rfl)) (by decide) (backOf (W := 1) (rm_exp l Z a0 hw [] (p1 &&& (3 : Int32)) (p2 &&& (3 : Int32)) h0 n0 O0 ) hZ (own_w hw 24 rfl) (own_w hw 2 rfl) (by decide) (by decide)) (g := (mkF m 33 #[.val (.int p1), .val (.int p2), .val (.int (p1 &&& (3 : Int32))), .val (.int (p2 &&& (3 : Int32))), .val (.ref w3), .val (.ref w1), .val (.ref w3)] [(.int (p2 &&& (3 : Int32))), (.int (p1 &&& (3 : Int32))), (.ref w3)])) rfl (by rw [hml]; rfl) (argsL := [(.int (p1 &&& (3 : Int32))), (.int (p2 &&& (3 : Int32)))]) (rest := [(.ref w3)]) (lenOf pd_3 rfl) rfl (by show 2 * 0 + _ ≤ _; exact Nat.le_of_eq rfl) (hb hby at_33) (fun _ _ => ⟨rfl, k797, (by decide : 0 + 0 ≤ _), (by decide : 0 + 0 ≤ _)⟩)
            dsimp only [Pt.U, Pt.locs, Pt.cells, Pt.slots] at X819 l819 y819 z819 st819 hQ819
            subst l819 y819 z819
            rcases hQ819 with ⟨c820, rfl, N821, k822⟩ | ⟨c823, c824, rfl, N825, k826⟩ | ⟨c827, c828, c829, rfl, N830, k831⟩ | ⟨c832, c833, c834, rfl, N835, k836⟩
            · exact absurd c820 (c757 : ¬ ((p1 &&& (3 : Int32)) = (0 : Int32)))
            · have N837 := Fr.app N818 N825
              obtain ⟨_, _, ⟨T838, L838, k838, n838⟩, -, X838, ⟨Lc838, hQ838, l838, y838, z838⟩, st838⟩ := Jvm.LawKit.callS X819 hx (y := (⟨"com/example/typecheck/typecheck/model/QuantifierTimesPinLaw", "pick", "(I)Lcom/example/typecheck/typecheck/model/Quantifier;"⟩ : MethodName)) hown (mvT hZ (own_w hw 0 rfl)) (mvT hZ (own_w hw 1 rfl)) (mvT hZ (own_w hw 2 rfl)) (mvT hZ (own_w hw 3 rfl)) (by decide) (backOf (W := 1) (rm_pick l Z a0 hw [] (p1 &&& (3 : Int32)) w1 w2 w3 w4 h0 n0 O0 S_ONE S_OPTIONAL S_ONE_OR_MORE S_ZERO_OR_MORE) hZ (own_w hw 3 rfl) (own_w hw 2 rfl) (by decide) (by decide)) (g := (mkF m 36 #[.val (.int p1), .val (.int p2), .val (.int (p1 &&& (3 : Int32))), .val (.int (p2 &&& (3 : Int32))), .val (.ref w3), .val (.ref w1), .val (.ref w3)] [(.int (p1 &&& (3 : Int32))), (.ref w3)])) rfl (by rw [hml]; rfl) (argsL := [(.int (p1 &&& (3 : Int32)))]) (rest := [(.ref w3)]) (lenOf pd_1 rfl) rfl (by show 2 * 0 + _ ≤ _; exact Nat.le_of_eq rfl) (hb hby at_36) (fun _ _ => ⟨rfl, k826, (by decide : 0 + 0 ≤ _), (by decide : 0 + 0 ≤ _)⟩)
              dsimp only [Pt.U, Pt.locs, Pt.cells, Pt.slots] at X838 l838 y838 z838 st838 hQ838
              subst l838 y838 z838
              rcases hQ838 with ⟨c839, rfl, N840, k841⟩ | ⟨c842, c843, rfl, N844, k845⟩ | ⟨c846, c847, c848, rfl, N849, k850⟩ | ⟨c851, c852, c853, rfl, N854, k855⟩
              · exact absurd c839 (c823 : ¬ ((p1 &&& (3 : Int32)) = (0 : Int32)))
              · exact absurd c843 (c758 : ¬ ((p1 &&& (3 : Int32)) = (1 : Int32)))
              · have N856 := Fr.app N837 N849
                have S857 : ∀ t, Steps p.tables e below (T838.setTop (mkF m 47 #[.val (.int p1), .val (.int p2), .val (.int (p1 &&& (3 : Int32))), .val (.int (p2 &&& (3 : Int32))), .val (.ref w3), .val (.ref w1), .val (.ref w3)] [(.int (1 : Int32))])) t → Steps p.tables e below (s₁.setTop (mkF m 0 #[.val (.int p1), .val (.int p2), .unset, .unset, .unset, .unset, .unset] [])) t := by
                  intro t kt
                  refine S768 t ?_
                  refine XS.iloadN X749.here hx rfl (hb hby at_14) rfl ?_
                  show Steps p.tables e below (T749.setTop (mkF m 15 #[.val (.int p1), .val (.int p2), .val (.int (p1 &&& (3 : Int32))), .val (.int (p2 &&& (3 : Int32))), .val (.ref w3), .unset, .unset] [(.int (p2 &&& (3 : Int32)))])) _
                  refine st770 _ ?_
                  refine XS.astore X770.here hx rfl (hb hby at_18) rfl rfl (l' := #[.val (.int p1), .val (.int p2), .val (.int (p1 &&& (3 : Int32))), .val (.int (p2 &&& (3 : Int32))), .val (.ref w3), .val (.ref w1), .unset]) rfl ?_
                  refine XS.aload X770.here hx rfl (hb hby at_20) rfl rfl ?_
                  refine XS.aload X770.here hx rfl (hb hby at_22) rfl rfl ?_
                  show Steps p.tables e below (T770.setTop (mkF m 24 #[.val (.int p1), .val (.int p2), .val (.int (p1 &&& (3 : Int32))), .val (.int (p2 &&& (3 : Int32))), .val (.ref w3), .val (.ref w1), .unset] [(.ref w1), (.ref w3)])) _
                  refine st789.trans ?_
                  refine XS.astore X789.here hx rfl (hb hby at_27) rfl rfl (l' := #[.val (.int p1), .val (.int p2), .val (.int (p1 &&& (3 : Int32))), .val (.int (p2 &&& (3 : Int32))), .val (.ref w3), .val (.ref w1), .val (.ref w3)]) rfl ?_
                  refine XS.aload X789.here hx rfl (hb hby at_29) rfl rfl ?_
                  refine XS.iloadN X789.here hx rfl (hb hby at_31) rfl ?_
                  refine XS.iloadN X789.here hx rfl (hb hby at_32) rfl ?_
                  show Steps p.tables e below (T789.setTop (mkF m 33 #[.val (.int p1), .val (.int p2), .val (.int (p1 &&& (3 : Int32))), .val (.int (p2 &&& (3 : Int32))), .val (.ref w3), .val (.ref w1), .val (.ref w3)] [(.int (p2 &&& (3 : Int32))), (.int (p1 &&& (3 : Int32))), (.ref w3)])) _
                  refine st819 _ ?_
                  show Steps p.tables e below (T819.setTop (mkF m 36 #[.val (.int p1), .val (.int p2), .val (.int (p1 &&& (3 : Int32))), .val (.int (p2 &&& (3 : Int32))), .val (.ref w3), .val (.ref w1), .val (.ref w3)] [(.int (p1 &&& (3 : Int32))), (.ref w3)])) _
                  refine st838 _ ?_
                  show Steps p.tables e below (T838.setTop (mkF m 39 #[.val (.int p1), .val (.int p2), .val (.int (p1 &&& (3 : Int32))), .val (.int (p2 &&& (3 : Int32))), .val (.ref w3), .val (.ref w1), .val (.ref w3)] [(.ref w3), (.ref w3)])) _
                  refine Jvm.RoadKit.acmp (g := (mkF m 39 #[.val (.int p1), .val (.int p2), .val (.int (p1 &&& (3 : Int32))), .val (.int (p2 &&& (3 : Int32))), .val (.ref w3), .val (.ref w1), .val (.ref w3)] [(.ref w3), (.ref w3)])) X838 hx rfl rfl rfl (pc0 := 39) (pc' := 42) (same := true) rfl (hb hby at_39) rfl (decide_eq_true rfl) (by decide) (by decide) ?_
                  refine XS.iconst X838.here hx rfl (hb hby at_42) ?_
                  refine XS.goto X838.here hx rfl (pc0 := 43) (pc' := 47) rfl (hb hby at_43) (by decide) (by decide) ?_
                  exact kt
                obtain ⟨fs, hr, hrun, hended, hW, hsame⟩ := X838.leave (v := some (.int (1 : Int32))) (fun h => by rw [Bd.returns] at h; cases h)
                refine ⟨_, _, pre0 _ (S857 _ ?_), hrun, hended, _, _, rfl, ?_, ⟨_, rfl⟩, hW, hsame.mono (by decide) (by decide)⟩
                · exact retN X838 hx (t := .boolean) Bd.returns (by simp) (hb hby at_47) hr
                · show Q_rm_law Z p1 p2 w1 w2 w3 w4 h0 n0 _ T838.heap _
                  rw [k850]
                  exact ⟨rfl, N856⟩
              · exact absurd (c759 : (p1 &&& (3 : Int32)) = (2 : Int32)) c853
            · exact absurd (c771 : (p2 &&& (3 : Int32)) = (0 : Int32)) c828
            · exact absurd (c771 : (p2 &&& (3 : Int32)) = (0 : Int32)) c833
          · exact absurd c798 ((by decide) : ¬ ((1 : Int32) = (0 : Int32)))
          · exact absurd c803 ((by decide) : ¬ ((1 : Int32) = (0 : Int32)))
          · exact absurd c808 ((by decide) : ¬ ((1 : Int32) = (0 : Int32)))
          · exact absurd c813 ((by decide) : ¬ ((1 : Int32) = (0 : Int32)))
        · exact absurd (c769 : (p2 &&& (3 : Int32)) = (0 : Int32)) c774
        · exact absurd (c769 : (p2 &&& (3 : Int32)) = (0 : Int32)) c778
        · exact absurd (c769 : (p2 &&& (3 : Int32)) = (0 : Int32)) c783
      · obtain ⟨_, _, ⟨T858, L858, k858, n858⟩, -, X858, ⟨Lc858, hQ858, l858, y858, z858⟩, st858⟩ := Jvm.LawKit.callS X749 hx (y := (⟨"com/example/typecheck/typecheck/model/QuantifierTimesPinLaw", "pick", "(I)Lcom/example/typecheck/typecheck/model/Quantifier;"⟩ : MethodName)) hown (mvT hZ (own_w hw 0 rfl)) (mvT hZ (own_w hw 1 rfl)) (mvT hZ (own_w hw 2 rfl)) (mvT hZ (own_w hw 3 rfl)) (by decide) (backOf (W := 0) (rm_pick l Z a0 hw [] (p2 &&& (3 : Int32)) w1 w2 w3 w4 h0 n0 O0 S_ONE S_OPTIONAL S_ONE_OR_MORE S_ZERO_OR_MORE) hZ (own_w hw 3 rfl) (own_w hw 2 rfl) (by decide) (by decide)) (g := (mkF m 15 #[.val (.int p1), .val (.int p2), .val (.int (p1 &&& (3 : Int32))), .val (.int (p2 &&& (3 : Int32))), .val (.ref w3), .unset, .unset] [(.int (p2 &&& (3 : Int32)))])) rfl (by rw [hml]; rfl) (argsL := [(.int (p2 &&& (3 : Int32)))]) (rest := []) (lenOf pd_1 rfl) rfl (by show 2 * 0 + _ ≤ _; exact Nat.le_of_eq rfl) (hb hby at_15) (fun _ _ => ⟨rfl, k761, (by decide : 0 + 0 ≤ _), (by decide : 0 + 0 ≤ _)⟩)
        dsimp only [Pt.U, Pt.locs, Pt.cells, Pt.slots] at X858 l858 y858 z858 st858 hQ858
        subst l858 y858 z858
        rcases hQ858 with ⟨c859, rfl, N860, k861⟩ | ⟨c862, c863, rfl, N864, k865⟩ | ⟨c866, c867, c868, rfl, N869, k870⟩ | ⟨c871, c872, c873, rfl, N874, k875⟩
        · exact absurd c859 ((by rw [c769] <;> decide) : ¬ ((p2 &&& (3 : Int32)) = (0 : Int32)))
        · have N876 := Fr.app N767 N864
          obtain ⟨cq877, kq877, q877a, q877b, q877c⟩ := isOf hZ k865 (E_w3.ext O0.2)
          obtain ⟨_, _, ⟨T877, L877, k877, n877⟩, -, X877, ⟨Lc877, hQ877, l877, y877, z877⟩, st877⟩ := X858.virtualBack hx (y := (⟨"com/example/typecheck/typecheck/model/Quantifier", "times", "(Lcom/example/typecheck/typecheck/model/Quantifier;)Lcom/example/typecheck/typecheck/model/Quantifier;"⟩ : MethodName)) (z := (⟨"com/example/typecheck/typecheck/model/Quantifier", "times", "(Lcom/example/typecheck/typecheck/model/Quantifier;)Lcom/example/typecheck/typecheck/model/Quantifier;"⟩ : MethodName)) hown (mvT hZ (own_w hw 9 rfl)) (mvT hZ (own_w hw 10 rfl)) (notFace_of_selects (args := #[]) (mvT hZ (own_w hw 12 rfl))) (mvT hZ (own_w hw 12 rfl)) (mvT hZ (own_w hw 11 rfl)) (by decide) (backOf (W := 0) (rm_times l Z a0 hw [] w3 w2 (1 : Int32) (1 : Int32) (0 : Int32) (0 : Int32) w1 w2 w3 w4 h0 n0 O0 Fm_w3 Fu_w3 Fm_w2 Fu_w2 S_ONE S_OPTIONAL S_ONE_OR_MORE S_ZERO_OR_MORE) hZ (own_w hw 13 rfl) (own_w hw 5 rfl) (by decide) (by decide)) q877a q877c (g := (mkF m 24 #[.val (.int p1), .val (.int p2), .val (.int (p1 &&& (3 : Int32))), .val (.int (p2 &&& (3 : Int32))), .val (.ref w3), .val (.ref w2), .unset] [(.ref w2), (.ref w3)])) rfl (by rw [hml]; rfl) (Steps.refl _) (argsL := [(.ref w2)]) (rest := []) (lenOf pd_2 rfl) rfl (by show 2 * 0 + _ ≤ _; exact Nat.le_of_eq rfl) (hb hby at_24) (fun _ _ => ⟨rfl, k865, (by decide : 0 + 0 ≤ _), (by decide : 0 + 0 ≤ _)⟩)
          dsimp only [Pt.U, Pt.locs, Pt.cells, Pt.slots] at X877 l877 y877 z877 st877 hQ877
          subst l877 y877 z877
          rcases hQ877 with ⟨c878, c879, rfl, N880, k881⟩ | ⟨c882, c883, rfl, N884, k885⟩ | ⟨c886, c887, c888, rfl, N889, k890⟩ | ⟨c891, c892, c893, rfl, N894, k895⟩ | ⟨c896, c897, c898, rfl, N899, k900⟩ | ⟨c901, c902, c903, rfl, N904, k905⟩
          · have N906 := Fr.app N876 N880
            obtain ⟨_, _, ⟨T907, L907, k907, n907⟩, -, X907, ⟨Lc907, hQ907, l907, y907, z907⟩, st907⟩ := Jvm.LawKit.callS X877 hx (y := (⟨"com/example/typecheck/typecheck/model/QuantifierTimesPinLaw", "expected", "(II)I"⟩ : MethodName)) hown (mvT hZ (own_w hw 22 rfl)) (mvT hZ (own_w hw 23 rfl)) (mvT hZ (own_w hw 2 rfl)) (mvT hZ (own_w hw 24 rfl)) (by decide) (backOf (W := 1) (rm_exp l Z a0 hw [] (p1 &&& (3 : Int32)) (p2 &&& (3 : Int32)) h0 n0 O0 ) hZ (own_w hw 24 rfl) (own_w hw 2 rfl) (by decide) (by decide)) (g := (mkF m 33 #[.val (.int p1), .val (.int p2), .val (.int (p1 &&& (3 : Int32))), .val (.int (p2 &&& (3 : Int32))), .val (.ref w3), .val (.ref w2), .val (.ref w4)] [(.int (p2 &&& (3 : Int32))), (.int (p1 &&& (3 : Int32))), (.ref w4)])) rfl (by rw [hml]; rfl) (argsL := [(.int (p1 &&& (3 : Int32))), (.int (p2 &&& (3 : Int32)))]) (rest := [(.ref w4)]) (lenOf pd_3 rfl) rfl (by show 2 * 0 + _ ≤ _; exact Nat.le_of_eq rfl) (hb hby at_33) (fun _ _ => ⟨rfl, k881, (by decide : 0 + 0 ≤ _), (by decide : 0 + 0 ≤ _)⟩)
            dsimp only [Pt.U, Pt.locs, Pt.cells, Pt.slots] at X907 l907 y907 z907 st907 hQ907
            subst l907 y907 z907
            rcases hQ907 with ⟨c908, rfl, N909, k910⟩ | ⟨c911, c912, rfl, N913, k914⟩ | ⟨c915, c916, c917, rfl, N918, k919⟩ | ⟨c920, c921, c922, rfl, N923, k924⟩
            · exact absurd c908 (c757 : ¬ ((p1 &&& (3 : Int32)) = (0 : Int32)))
            · exact absurd c912 (c862 : ¬ ((p2 &&& (3 : Int32)) = (0 : Int32)))
            · exact absurd c917 ((by rw [c759, c863] <;> decide) : ¬ ((p1 &&& (3 : Int32)) = (p2 &&& (3 : Int32))))
            · have N925 := Fr.app N906 N923
              obtain ⟨_, _, ⟨T926, L926, k926, n926⟩, -, X926, ⟨Lc926, hQ926, l926, y926, z926⟩, st926⟩ := Jvm.LawKit.callS X907 hx (y := (⟨"com/example/typecheck/typecheck/model/QuantifierTimesPinLaw", "pick", "(I)Lcom/example/typecheck/typecheck/model/Quantifier;"⟩ : MethodName)) hown (mvT hZ (own_w hw 0 rfl)) (mvT hZ (own_w hw 1 rfl)) (mvT hZ (own_w hw 2 rfl)) (mvT hZ (own_w hw 3 rfl)) (by decide) (backOf (W := 1) (rm_pick l Z a0 hw [] (3 : Int32) w1 w2 w3 w4 h0 n0 O0 S_ONE S_OPTIONAL S_ONE_OR_MORE S_ZERO_OR_MORE) hZ (own_w hw 3 rfl) (own_w hw 2 rfl) (by decide) (by decide)) (g := (mkF m 36 #[.val (.int p1), .val (.int p2), .val (.int (p1 &&& (3 : Int32))), .val (.int (p2 &&& (3 : Int32))), .val (.ref w3), .val (.ref w2), .val (.ref w4)] [(.int (3 : Int32)), (.ref w4)])) rfl (by rw [hml]; rfl) (argsL := [(.int (3 : Int32))]) (rest := [(.ref w4)]) (lenOf pd_1 rfl) rfl (by show 2 * 0 + _ ≤ _; exact Nat.le_of_eq rfl) (hb hby at_36) (fun _ _ => ⟨rfl, k924, (by decide : 0 + 0 ≤ _), (by decide : 0 + 0 ≤ _)⟩)
              dsimp only [Pt.U, Pt.locs, Pt.cells, Pt.slots] at X926 l926 y926 z926 st926 hQ926
              subst l926 y926 z926
              rcases hQ926 with ⟨c927, rfl, N928, k929⟩ | ⟨c930, c931, rfl, N932, k933⟩ | ⟨c934, c935, c936, rfl, N937, k938⟩ | ⟨c939, c940, c941, rfl, N942, k943⟩
              · exact absurd c927 ((by decide) : ¬ ((3 : Int32) = (0 : Int32)))
              · exact absurd c931 ((by decide) : ¬ ((3 : Int32) = (1 : Int32)))
              · exact absurd c936 ((by decide) : ¬ ((3 : Int32) = (2 : Int32)))
              · have N944 := Fr.app N925 N942
                have S945 : ∀ t, Steps p.tables e below (T926.setTop (mkF m 47 #[.val (.int p1), .val (.int p2), .val (.int (p1 &&& (3 : Int32))), .val (.int (p2 &&& (3 : Int32))), .val (.ref w3), .val (.ref w2), .val (.ref w4)] [(.int (1 : Int32))])) t → Steps p.tables e below (s₁.setTop (mkF m 0 #[.val (.int p1), .val (.int p2), .unset, .unset, .unset, .unset, .unset] [])) t := by
                  intro t kt
                  refine S768 t ?_
                  refine XS.iloadN X749.here hx rfl (hb hby at_14) rfl ?_
                  show Steps p.tables e below (T749.setTop (mkF m 15 #[.val (.int p1), .val (.int p2), .val (.int (p1 &&& (3 : Int32))), .val (.int (p2 &&& (3 : Int32))), .val (.ref w3), .unset, .unset] [(.int (p2 &&& (3 : Int32)))])) _
                  refine st858 _ ?_
                  refine XS.astore X858.here hx rfl (hb hby at_18) rfl rfl (l' := #[.val (.int p1), .val (.int p2), .val (.int (p1 &&& (3 : Int32))), .val (.int (p2 &&& (3 : Int32))), .val (.ref w3), .val (.ref w2), .unset]) rfl ?_
                  refine XS.aload X858.here hx rfl (hb hby at_20) rfl rfl ?_
                  refine XS.aload X858.here hx rfl (hb hby at_22) rfl rfl ?_
                  show Steps p.tables e below (T858.setTop (mkF m 24 #[.val (.int p1), .val (.int p2), .val (.int (p1 &&& (3 : Int32))), .val (.int (p2 &&& (3 : Int32))), .val (.ref w3), .val (.ref w2), .unset] [(.ref w2), (.ref w3)])) _
                  refine st877.trans ?_
                  refine XS.astore X877.here hx rfl (hb hby at_27) rfl rfl (l' := #[.val (.int p1), .val (.int p2), .val (.int (p1 &&& (3 : Int32))), .val (.int (p2 &&& (3 : Int32))), .val (.ref w3), .val (.ref w2), .val (.ref w4)]) rfl ?_
                  refine XS.aload X877.here hx rfl (hb hby at_29) rfl rfl ?_
                  refine XS.iloadN X877.here hx rfl (hb hby at_31) rfl ?_
                  refine XS.iloadN X877.here hx rfl (hb hby at_32) rfl ?_
                  show Steps p.tables e below (T877.setTop (mkF m 33 #[.val (.int p1), .val (.int p2), .val (.int (p1 &&& (3 : Int32))), .val (.int (p2 &&& (3 : Int32))), .val (.ref w3), .val (.ref w2), .val (.ref w4)] [(.int (p2 &&& (3 : Int32))), (.int (p1 &&& (3 : Int32))), (.ref w4)])) _
                  refine st907 _ ?_
                  show Steps p.tables e below (T907.setTop (mkF m 36 #[.val (.int p1), .val (.int p2), .val (.int (p1 &&& (3 : Int32))), .val (.int (p2 &&& (3 : Int32))), .val (.ref w3), .val (.ref w2), .val (.ref w4)] [(.int (3 : Int32)), (.ref w4)])) _
                  refine st926 _ ?_
                  show Steps p.tables e below (T926.setTop (mkF m 39 #[.val (.int p1), .val (.int p2), .val (.int (p1 &&& (3 : Int32))), .val (.int (p2 &&& (3 : Int32))), .val (.ref w3), .val (.ref w2), .val (.ref w4)] [(.ref w4), (.ref w4)])) _
                  refine Jvm.RoadKit.acmp (g := (mkF m 39 #[.val (.int p1), .val (.int p2), .val (.int (p1 &&& (3 : Int32))), .val (.int (p2 &&& (3 : Int32))), .val (.ref w3), .val (.ref w2), .val (.ref w4)] [(.ref w4), (.ref w4)])) X926 hx rfl rfl rfl (pc0 := 39) (pc' := 42) (same := true) rfl (hb hby at_39) rfl (decide_eq_true rfl) (by decide) (by decide) ?_
                  refine XS.iconst X926.here hx rfl (hb hby at_42) ?_
                  refine XS.goto X926.here hx rfl (pc0 := 43) (pc' := 47) rfl (hb hby at_43) (by decide) (by decide) ?_
                  exact kt
                obtain ⟨fs, hr, hrun, hended, hW, hsame⟩ := X926.leave (v := some (.int (1 : Int32))) (fun h => by rw [Bd.returns] at h; cases h)
                refine ⟨_, _, pre0 _ (S945 _ ?_), hrun, hended, _, _, rfl, ?_, ⟨_, rfl⟩, hW, hsame.mono (by decide) (by decide)⟩
                · exact retN X926 hx (t := .boolean) Bd.returns (by simp) (hb hby at_47) hr
                · show Q_rm_law Z p1 p2 w1 w2 w3 w4 h0 n0 _ T926.heap _
                  rw [k943]
                  exact ⟨rfl, N944⟩
          · exact absurd ((by decide) : ((1 : Int32) * (0 : Int32)) = (0 : Int32)) c883
          · exact absurd c886 ((by decide) : ¬ ((1 : Int32) = (0 : Int32)))
          · exact absurd c891 ((by decide) : ¬ ((1 : Int32) = (0 : Int32)))
          · exact absurd c896 ((by decide) : ¬ ((1 : Int32) = (0 : Int32)))
          · exact absurd c901 ((by decide) : ¬ ((1 : Int32) = (0 : Int32)))
        · exact absurd (c769 : (p2 &&& (3 : Int32)) = (1 : Int32)) c867
        · exact absurd (c769 : (p2 &&& (3 : Int32)) = (1 : Int32)) c872
      · obtain ⟨_, _, ⟨T946, L946, k946, n946⟩, -, X946, ⟨Lc946, hQ946, l946, y946, z946⟩, st946⟩ := Jvm.LawKit.callS X749 hx (y := (⟨"com/example/typecheck/typecheck/model/QuantifierTimesPinLaw", "pick", "(I)Lcom/example/typecheck/typecheck/model/Quantifier;"⟩ : MethodName)) hown (mvT hZ (own_w hw 0 rfl)) (mvT hZ (own_w hw 1 rfl)) (mvT hZ (own_w hw 2 rfl)) (mvT hZ (own_w hw 3 rfl)) (by decide) (backOf (W := 0) (rm_pick l Z a0 hw [] (p2 &&& (3 : Int32)) w1 w2 w3 w4 h0 n0 O0 S_ONE S_OPTIONAL S_ONE_OR_MORE S_ZERO_OR_MORE) hZ (own_w hw 3 rfl) (own_w hw 2 rfl) (by decide) (by decide)) (g := (mkF m 15 #[.val (.int p1), .val (.int p2), .val (.int (p1 &&& (3 : Int32))), .val (.int (p2 &&& (3 : Int32))), .val (.ref w3), .unset, .unset] [(.int (p2 &&& (3 : Int32)))])) rfl (by rw [hml]; rfl) (argsL := [(.int (p2 &&& (3 : Int32)))]) (rest := []) (lenOf pd_1 rfl) rfl (by show 2 * 0 + _ ≤ _; exact Nat.le_of_eq rfl) (hb hby at_15) (fun _ _ => ⟨rfl, k761, (by decide : 0 + 0 ≤ _), (by decide : 0 + 0 ≤ _)⟩)
        dsimp only [Pt.U, Pt.locs, Pt.cells, Pt.slots] at X946 l946 y946 z946 st946 hQ946
        subst l946 y946 z946
        rcases hQ946 with ⟨c947, rfl, N948, k949⟩ | ⟨c950, c951, rfl, N952, k953⟩ | ⟨c954, c955, c956, rfl, N957, k958⟩ | ⟨c959, c960, c961, rfl, N962, k963⟩
        · exact absurd c947 ((by rw [c769] <;> decide) : ¬ ((p2 &&& (3 : Int32)) = (0 : Int32)))
        · exact absurd c951 ((by rw [c769] <;> decide) : ¬ ((p2 &&& (3 : Int32)) = (1 : Int32)))
        · have N964 := Fr.app N767 N957
          obtain ⟨cq965, kq965, q965a, q965b, q965c⟩ := isOf hZ k958 (E_w3.ext O0.2)
          obtain ⟨_, _, ⟨T965, L965, k965, n965⟩, -, X965, ⟨Lc965, hQ965, l965, y965, z965⟩, st965⟩ := X946.virtualBack hx (y := (⟨"com/example/typecheck/typecheck/model/Quantifier", "times", "(Lcom/example/typecheck/typecheck/model/Quantifier;)Lcom/example/typecheck/typecheck/model/Quantifier;"⟩ : MethodName)) (z := (⟨"com/example/typecheck/typecheck/model/Quantifier", "times", "(Lcom/example/typecheck/typecheck/model/Quantifier;)Lcom/example/typecheck/typecheck/model/Quantifier;"⟩ : MethodName)) hown (mvT hZ (own_w hw 9 rfl)) (mvT hZ (own_w hw 10 rfl)) (notFace_of_selects (args := #[]) (mvT hZ (own_w hw 12 rfl))) (mvT hZ (own_w hw 12 rfl)) (mvT hZ (own_w hw 11 rfl)) (by decide) (backOf (W := 0) (rm_times l Z a0 hw [] w3 w3 (1 : Int32) (1 : Int32) (1 : Int32) (1 : Int32) w1 w2 w3 w4 h0 n0 O0 Fm_w3 Fu_w3 Fm_w3 Fu_w3 S_ONE S_OPTIONAL S_ONE_OR_MORE S_ZERO_OR_MORE) hZ (own_w hw 13 rfl) (own_w hw 5 rfl) (by decide) (by decide)) q965a q965c (g := (mkF m 24 #[.val (.int p1), .val (.int p2), .val (.int (p1 &&& (3 : Int32))), .val (.int (p2 &&& (3 : Int32))), .val (.ref w3), .val (.ref w3), .unset] [(.ref w3), (.ref w3)])) rfl (by rw [hml]; rfl) (Steps.refl _) (argsL := [(.ref w3)]) (rest := []) (lenOf pd_2 rfl) rfl (by show 2 * 0 + _ ≤ _; exact Nat.le_of_eq rfl) (hb hby at_24) (fun _ _ => ⟨rfl, k958, (by decide : 0 + 0 ≤ _), (by decide : 0 + 0 ≤ _)⟩)
          dsimp only [Pt.U, Pt.locs, Pt.cells, Pt.slots] at X965 l965 y965 z965 st965 hQ965
          subst l965 y965 z965
          rcases hQ965 with ⟨c966, c967, rfl, N968, k969⟩ | ⟨c970, c971, rfl, N972, k973⟩ | ⟨c974, c975, c976, rfl, N977, k978⟩ | ⟨c979, c980, c981, rfl, N982, k983⟩ | ⟨c984, c985, c986, rfl, N987, k988⟩ | ⟨c989, c990, c991, rfl, N992, k993⟩
          · exact absurd c967 ((by decide) : ¬ (((1 : Int32) * (1 : Int32)) = (0 : Int32)))
          · have N994 := Fr.app N964 N972
            obtain ⟨_, _, ⟨T995, L995, k995, n995⟩, -, X995, ⟨Lc995, hQ995, l995, y995, z995⟩, st995⟩ := Jvm.LawKit.callS X965 hx (y := (⟨"com/example/typecheck/typecheck/model/QuantifierTimesPinLaw", "expected", "(II)I"⟩ : MethodName)) hown (mvT hZ (own_w hw 22 rfl)) (mvT hZ (own_w hw 23 rfl)) (mvT hZ (own_w hw 2 rfl)) (mvT hZ (own_w hw 24 rfl)) (by decide) (backOf (W := 1) (rm_exp l Z a0 hw [] (p1 &&& (3 : Int32)) (p2 &&& (3 : Int32)) h0 n0 O0 ) hZ (own_w hw 24 rfl) (own_w hw 2 rfl) (by decide) (by decide)) (g := (mkF m 33 #[.val (.int p1), .val (.int p2), .val (.int (p1 &&& (3 : Int32))), .val (.int (p2 &&& (3 : Int32))), .val (.ref w3), .val (.ref w3), .val (.ref w3)] [(.int (p2 &&& (3 : Int32))), (.int (p1 &&& (3 : Int32))), (.ref w3)])) rfl (by rw [hml]; rfl) (argsL := [(.int (p1 &&& (3 : Int32))), (.int (p2 &&& (3 : Int32)))]) (rest := [(.ref w3)]) (lenOf pd_3 rfl) rfl (by show 2 * 0 + _ ≤ _; exact Nat.le_of_eq rfl) (hb hby at_33) (fun _ _ => ⟨rfl, k973, (by decide : 0 + 0 ≤ _), (by decide : 0 + 0 ≤ _)⟩)
            dsimp only [Pt.U, Pt.locs, Pt.cells, Pt.slots] at X995 l995 y995 z995 st995 hQ995
            subst l995 y995 z995
            rcases hQ995 with ⟨c996, rfl, N997, k998⟩ | ⟨c999, c1000, rfl, N1001, k1002⟩ | ⟨c1003, c1004, c1005, rfl, N1006, k1007⟩ | ⟨c1008, c1009, c1010, rfl, N1011, k1012⟩
            · exact absurd c996 (c757 : ¬ ((p1 &&& (3 : Int32)) = (0 : Int32)))
            · exact absurd c1000 (c954 : ¬ ((p2 &&& (3 : Int32)) = (0 : Int32)))
            · have N1013 := Fr.app N994 N1006
              obtain ⟨_, _, ⟨T1014, L1014, k1014, n1014⟩, -, X1014, ⟨Lc1014, hQ1014, l1014, y1014, z1014⟩, st1014⟩ := Jvm.LawKit.callS X995 hx (y := (⟨"com/example/typecheck/typecheck/model/QuantifierTimesPinLaw", "pick", "(I)Lcom/example/typecheck/typecheck/model/Quantifier;"⟩ : MethodName)) hown (mvT hZ (own_w hw 0 rfl)) (mvT hZ (own_w hw 1 rfl)) (mvT hZ (own_w hw 2 rfl)) (mvT hZ (own_w hw 3 rfl)) (by decide) (backOf (W := 1) (rm_pick l Z a0 hw [] (p1 &&& (3 : Int32)) w1 w2 w3 w4 h0 n0 O0 S_ONE S_OPTIONAL S_ONE_OR_MORE S_ZERO_OR_MORE) hZ (own_w hw 3 rfl) (own_w hw 2 rfl) (by decide) (by decide)) (g := (mkF m 36 #[.val (.int p1), .val (.int p2), .val (.int (p1 &&& (3 : Int32))), .val (.int (p2 &&& (3 : Int32))), .val (.ref w3), .val (.ref w3), .val (.ref w3)] [(.int (p1 &&& (3 : Int32))), (.ref w3)])) rfl (by rw [hml]; rfl) (argsL := [(.int (p1 &&& (3 : Int32)))]) (rest := [(.ref w3)]) (lenOf pd_1 rfl) rfl (by show 2 * 0 + _ ≤ _; exact Nat.le_of_eq rfl) (hb hby at_36) (fun _ _ => ⟨rfl, k1007, (by decide : 0 + 0 ≤ _), (by decide : 0 + 0 ≤ _)⟩)
              dsimp only [Pt.U, Pt.locs, Pt.cells, Pt.slots] at X1014 l1014 y1014 z1014 st1014 hQ1014
              subst l1014 y1014 z1014
              rcases hQ1014 with ⟨c1015, rfl, N1016, k1017⟩ | ⟨c1018, c1019, rfl, N1020, k1021⟩ | ⟨c1022, c1023, c1024, rfl, N1025, k1026⟩ | ⟨c1027, c1028, c1029, rfl, N1030, k1031⟩
              · exact absurd c1015 (c1003 : ¬ ((p1 &&& (3 : Int32)) = (0 : Int32)))
              · exact absurd c1019 (c758 : ¬ ((p1 &&& (3 : Int32)) = (1 : Int32)))
              · have N1032 := Fr.app N1013 N1025
                have S1033 : ∀ t, Steps p.tables e below (T1014.setTop (mkF m 47 #[.val (.int p1), .val (.int p2), .val (.int (p1 &&& (3 : Int32))), .val (.int (p2 &&& (3 : Int32))), .val (.ref w3), .val (.ref w3), .val (.ref w3)] [(.int (1 : Int32))])) t → Steps p.tables e below (s₁.setTop (mkF m 0 #[.val (.int p1), .val (.int p2), .unset, .unset, .unset, .unset, .unset] [])) t := by
                  intro t kt
                  refine S768 t ?_
                  refine XS.iloadN X749.here hx rfl (hb hby at_14) rfl ?_
                  show Steps p.tables e below (T749.setTop (mkF m 15 #[.val (.int p1), .val (.int p2), .val (.int (p1 &&& (3 : Int32))), .val (.int (p2 &&& (3 : Int32))), .val (.ref w3), .unset, .unset] [(.int (p2 &&& (3 : Int32)))])) _
                  refine st946 _ ?_
                  refine XS.astore X946.here hx rfl (hb hby at_18) rfl rfl (l' := #[.val (.int p1), .val (.int p2), .val (.int (p1 &&& (3 : Int32))), .val (.int (p2 &&& (3 : Int32))), .val (.ref w3), .val (.ref w3), .unset]) rfl ?_
                  refine XS.aload X946.here hx rfl (hb hby at_20) rfl rfl ?_
                  refine XS.aload X946.here hx rfl (hb hby at_22) rfl rfl ?_
                  show Steps p.tables e below (T946.setTop (mkF m 24 #[.val (.int p1), .val (.int p2), .val (.int (p1 &&& (3 : Int32))), .val (.int (p2 &&& (3 : Int32))), .val (.ref w3), .val (.ref w3), .unset] [(.ref w3), (.ref w3)])) _
                  refine st965.trans ?_
                  refine XS.astore X965.here hx rfl (hb hby at_27) rfl rfl (l' := #[.val (.int p1), .val (.int p2), .val (.int (p1 &&& (3 : Int32))), .val (.int (p2 &&& (3 : Int32))), .val (.ref w3), .val (.ref w3), .val (.ref w3)]) rfl ?_
                  refine XS.aload X965.here hx rfl (hb hby at_29) rfl rfl ?_
                  refine XS.iloadN X965.here hx rfl (hb hby at_31) rfl ?_
                  refine XS.iloadN X965.here hx rfl (hb hby at_32) rfl ?_
                  show Steps p.tables e below (T965.setTop (mkF m 33 #[.val (.int p1), .val (.int p2), .val (.int (p1 &&& (3 : Int32))), .val (.int (p2 &&& (3 : Int32))), .val (.ref w3), .val (.ref w3), .val (.ref w3)] [(.int (p2 &&& (3 : Int32))), (.int (p1 &&& (3 : Int32))), (.ref w3)])) _
                  refine st995 _ ?_
                  show Steps p.tables e below (T995.setTop (mkF m 36 #[.val (.int p1), .val (.int p2), .val (.int (p1 &&& (3 : Int32))), .val (.int (p2 &&& (3 : Int32))), .val (.ref w3), .val (.ref w3), .val (.ref w3)] [(.int (p1 &&& (3 : Int32))), (.ref w3)])) _
                  refine st1014 _ ?_
                  show Steps p.tables e below (T1014.setTop (mkF m 39 #[.val (.int p1), .val (.int p2), .val (.int (p1 &&& (3 : Int32))), .val (.int (p2 &&& (3 : Int32))), .val (.ref w3), .val (.ref w3), .val (.ref w3)] [(.ref w3), (.ref w3)])) _
                  refine Jvm.RoadKit.acmp (g := (mkF m 39 #[.val (.int p1), .val (.int p2), .val (.int (p1 &&& (3 : Int32))), .val (.int (p2 &&& (3 : Int32))), .val (.ref w3), .val (.ref w3), .val (.ref w3)] [(.ref w3), (.ref w3)])) X1014 hx rfl rfl rfl (pc0 := 39) (pc' := 42) (same := true) rfl (hb hby at_39) rfl (decide_eq_true rfl) (by decide) (by decide) ?_
                  refine XS.iconst X1014.here hx rfl (hb hby at_42) ?_
                  refine XS.goto X1014.here hx rfl (pc0 := 43) (pc' := 47) rfl (hb hby at_43) (by decide) (by decide) ?_
                  exact kt
                obtain ⟨fs, hr, hrun, hended, hW, hsame⟩ := X1014.leave (v := some (.int (1 : Int32))) (fun h => by rw [Bd.returns] at h; cases h)
                refine ⟨_, _, pre0 _ (S1033 _ ?_), hrun, hended, _, _, rfl, ?_, ⟨_, rfl⟩, hW, hsame.mono (by decide) (by decide)⟩
                · exact retN X1014 hx (t := .boolean) Bd.returns (by simp) (hb hby at_47) hr
                · show Q_rm_law Z p1 p2 w1 w2 w3 w4 h0 n0 _ T1014.heap _
                  rw [k1026]
                  exact ⟨rfl, N1032⟩
              · exact absurd (c759 : (p1 &&& (3 : Int32)) = (2 : Int32)) c1029
            · exact absurd ((by rw [c759, c956] <;> decide) : (p1 &&& (3 : Int32)) = (p2 &&& (3 : Int32))) c1010
          · exact absurd c974 ((by decide) : ¬ ((1 : Int32) = (0 : Int32)))
          · exact absurd c979 ((by decide) : ¬ ((1 : Int32) = (0 : Int32)))
          · exact absurd c984 ((by decide) : ¬ ((1 : Int32) = (0 : Int32)))
          · exact absurd c989 ((by decide) : ¬ ((1 : Int32) = (0 : Int32)))
        · exact absurd (c769 : (p2 &&& (3 : Int32)) = (2 : Int32)) c961
      · obtain ⟨_, _, ⟨T1034, L1034, k1034, n1034⟩, -, X1034, ⟨Lc1034, hQ1034, l1034, y1034, z1034⟩, st1034⟩ := Jvm.LawKit.callS X749 hx (y := (⟨"com/example/typecheck/typecheck/model/QuantifierTimesPinLaw", "pick", "(I)Lcom/example/typecheck/typecheck/model/Quantifier;"⟩ : MethodName)) hown (mvT hZ (own_w hw 0 rfl)) (mvT hZ (own_w hw 1 rfl)) (mvT hZ (own_w hw 2 rfl)) (mvT hZ (own_w hw 3 rfl)) (by decide) (backOf (W := 0) (rm_pick l Z a0 hw [] (p2 &&& (3 : Int32)) w1 w2 w3 w4 h0 n0 O0 S_ONE S_OPTIONAL S_ONE_OR_MORE S_ZERO_OR_MORE) hZ (own_w hw 3 rfl) (own_w hw 2 rfl) (by decide) (by decide)) (g := (mkF m 15 #[.val (.int p1), .val (.int p2), .val (.int (p1 &&& (3 : Int32))), .val (.int (p2 &&& (3 : Int32))), .val (.ref w3), .unset, .unset] [(.int (p2 &&& (3 : Int32)))])) rfl (by rw [hml]; rfl) (argsL := [(.int (p2 &&& (3 : Int32)))]) (rest := []) (lenOf pd_1 rfl) rfl (by show 2 * 0 + _ ≤ _; exact Nat.le_of_eq rfl) (hb hby at_15) (fun _ _ => ⟨rfl, k761, (by decide : 0 + 0 ≤ _), (by decide : 0 + 0 ≤ _)⟩)
        dsimp only [Pt.U, Pt.locs, Pt.cells, Pt.slots] at X1034 l1034 y1034 z1034 st1034 hQ1034
        subst l1034 y1034 z1034
        rcases hQ1034 with ⟨c1035, rfl, N1036, k1037⟩ | ⟨c1038, c1039, rfl, N1040, k1041⟩ | ⟨c1042, c1043, c1044, rfl, N1045, k1046⟩ | ⟨c1047, c1048, c1049, rfl, N1050, k1051⟩
        · exact absurd c1035 ((by rw [c769] <;> decide) : ¬ ((p2 &&& (3 : Int32)) = (0 : Int32)))
        · exact absurd c1039 ((by rw [c769] <;> decide) : ¬ ((p2 &&& (3 : Int32)) = (1 : Int32)))
        · exact absurd c1044 ((by rw [c769] <;> decide) : ¬ ((p2 &&& (3 : Int32)) = (2 : Int32)))
        · have N1052 := Fr.app N767 N1050
          obtain ⟨cq1053, kq1053, q1053a, q1053b, q1053c⟩ := isOf hZ k1051 (E_w3.ext O0.2)
          obtain ⟨_, _, ⟨T1053, L1053, k1053, n1053⟩, -, X1053, ⟨Lc1053, hQ1053, l1053, y1053, z1053⟩, st1053⟩ := X1034.virtualBack hx (y := (⟨"com/example/typecheck/typecheck/model/Quantifier", "times", "(Lcom/example/typecheck/typecheck/model/Quantifier;)Lcom/example/typecheck/typecheck/model/Quantifier;"⟩ : MethodName)) (z := (⟨"com/example/typecheck/typecheck/model/Quantifier", "times", "(Lcom/example/typecheck/typecheck/model/Quantifier;)Lcom/example/typecheck/typecheck/model/Quantifier;"⟩ : MethodName)) hown (mvT hZ (own_w hw 9 rfl)) (mvT hZ (own_w hw 10 rfl)) (notFace_of_selects (args := #[]) (mvT hZ (own_w hw 12 rfl))) (mvT hZ (own_w hw 12 rfl)) (mvT hZ (own_w hw 11 rfl)) (by decide) (backOf (W := 0) (rm_times l Z a0 hw [] w3 w4 (1 : Int32) (1 : Int32) (0 : Int32) (1 : Int32) w1 w2 w3 w4 h0 n0 O0 Fm_w3 Fu_w3 Fm_w4 Fu_w4 S_ONE S_OPTIONAL S_ONE_OR_MORE S_ZERO_OR_MORE) hZ (own_w hw 13 rfl) (own_w hw 5 rfl) (by decide) (by decide)) q1053a q1053c (g := (mkF m 24 #[.val (.int p1), .val (.int p2), .val (.int (p1 &&& (3 : Int32))), .val (.int (p2 &&& (3 : Int32))), .val (.ref w3), .val (.ref w4), .unset] [(.ref w4), (.ref w3)])) rfl (by rw [hml]; rfl) (Steps.refl _) (argsL := [(.ref w4)]) (rest := []) (lenOf pd_2 rfl) rfl (by show 2 * 0 + _ ≤ _; exact Nat.le_of_eq rfl) (hb hby at_24) (fun _ _ => ⟨rfl, k1051, (by decide : 0 + 0 ≤ _), (by decide : 0 + 0 ≤ _)⟩)
          dsimp only [Pt.U, Pt.locs, Pt.cells, Pt.slots] at X1053 l1053 y1053 z1053 st1053 hQ1053
          subst l1053 y1053 z1053
          rcases hQ1053 with ⟨c1054, c1055, rfl, N1056, k1057⟩ | ⟨c1058, c1059, rfl, N1060, k1061⟩ | ⟨c1062, c1063, c1064, rfl, N1065, k1066⟩ | ⟨c1067, c1068, c1069, rfl, N1070, k1071⟩ | ⟨c1072, c1073, c1074, rfl, N1075, k1076⟩ | ⟨c1077, c1078, c1079, rfl, N1080, k1081⟩
          · have N1082 := Fr.app N1052 N1056
            obtain ⟨_, _, ⟨T1083, L1083, k1083, n1083⟩, -, X1083, ⟨Lc1083, hQ1083, l1083, y1083, z1083⟩, st1083⟩ := Jvm.LawKit.callS X1053 hx (y := (⟨"com/example/typecheck/typecheck/model/QuantifierTimesPinLaw", "expected", "(II)I"⟩ : MethodName)) hown (mvT hZ (own_w hw 22 rfl)) (mvT hZ (own_w hw 23 rfl)) (mvT hZ (own_w hw 2 rfl)) (mvT hZ (own_w hw 24 rfl)) (by decide) (backOf (W := 1) (rm_exp l Z a0 hw [] (p1 &&& (3 : Int32)) (p2 &&& (3 : Int32)) h0 n0 O0 ) hZ (own_w hw 24 rfl) (own_w hw 2 rfl) (by decide) (by decide)) (g := (mkF m 33 #[.val (.int p1), .val (.int p2), .val (.int (p1 &&& (3 : Int32))), .val (.int (p2 &&& (3 : Int32))), .val (.ref w3), .val (.ref w4), .val (.ref w4)] [(.int (p2 &&& (3 : Int32))), (.int (p1 &&& (3 : Int32))), (.ref w4)])) rfl (by rw [hml]; rfl) (argsL := [(.int (p1 &&& (3 : Int32))), (.int (p2 &&& (3 : Int32)))]) (rest := [(.ref w4)]) (lenOf pd_3 rfl) rfl (by show 2 * 0 + _ ≤ _; exact Nat.le_of_eq rfl) (hb hby at_33) (fun _ _ => ⟨rfl, k1057, (by decide : 0 + 0 ≤ _), (by decide : 0 + 0 ≤ _)⟩)
            dsimp only [Pt.U, Pt.locs, Pt.cells, Pt.slots] at X1083 l1083 y1083 z1083 st1083 hQ1083
            subst l1083 y1083 z1083
            rcases hQ1083 with ⟨c1084, rfl, N1085, k1086⟩ | ⟨c1087, c1088, rfl, N1089, k1090⟩ | ⟨c1091, c1092, c1093, rfl, N1094, k1095⟩ | ⟨c1096, c1097, c1098, rfl, N1099, k1100⟩
            · exact absurd c1084 (c757 : ¬ ((p1 &&& (3 : Int32)) = (0 : Int32)))
            · exact absurd c1088 (c1047 : ¬ ((p2 &&& (3 : Int32)) = (0 : Int32)))
            · exact absurd c1093 ((by rw [c759, c769] <;> decide) : ¬ ((p1 &&& (3 : Int32)) = (p2 &&& (3 : Int32))))
            · have N1101 := Fr.app N1082 N1099
              obtain ⟨_, _, ⟨T1102, L1102, k1102, n1102⟩, -, X1102, ⟨Lc1102, hQ1102, l1102, y1102, z1102⟩, st1102⟩ := Jvm.LawKit.callS X1083 hx (y := (⟨"com/example/typecheck/typecheck/model/QuantifierTimesPinLaw", "pick", "(I)Lcom/example/typecheck/typecheck/model/Quantifier;"⟩ : MethodName)) hown (mvT hZ (own_w hw 0 rfl)) (mvT hZ (own_w hw 1 rfl)) (mvT hZ (own_w hw 2 rfl)) (mvT hZ (own_w hw 3 rfl)) (by decide) (backOf (W := 1) (rm_pick l Z a0 hw [] (3 : Int32) w1 w2 w3 w4 h0 n0 O0 S_ONE S_OPTIONAL S_ONE_OR_MORE S_ZERO_OR_MORE) hZ (own_w hw 3 rfl) (own_w hw 2 rfl) (by decide) (by decide)) (g := (mkF m 36 #[.val (.int p1), .val (.int p2), .val (.int (p1 &&& (3 : Int32))), .val (.int (p2 &&& (3 : Int32))), .val (.ref w3), .val (.ref w4), .val (.ref w4)] [(.int (3 : Int32)), (.ref w4)])) rfl (by rw [hml]; rfl) (argsL := [(.int (3 : Int32))]) (rest := [(.ref w4)]) (lenOf pd_1 rfl) rfl (by show 2 * 0 + _ ≤ _; exact Nat.le_of_eq rfl) (hb hby at_36) (fun _ _ => ⟨rfl, k1100, (by decide : 0 + 0 ≤ _), (by decide : 0 + 0 ≤ _)⟩)
              dsimp only [Pt.U, Pt.locs, Pt.cells, Pt.slots] at X1102 l1102 y1102 z1102 st1102 hQ1102
              subst l1102 y1102 z1102
              rcases hQ1102 with ⟨c1103, rfl, N1104, k1105⟩ | ⟨c1106, c1107, rfl, N1108, k1109⟩ | ⟨c1110, c1111, c1112, rfl, N1113, k1114⟩ | ⟨c1115, c1116, c1117, rfl, N1118, k1119⟩
              · exact absurd c1103 ((by decide) : ¬ ((3 : Int32) = (0 : Int32)))
              · exact absurd c1107 ((by decide) : ¬ ((3 : Int32) = (1 : Int32)))
              · exact absurd c1112 ((by decide) : ¬ ((3 : Int32) = (2 : Int32)))
              · have N1120 := Fr.app N1101 N1118
                have S1121 : ∀ t, Steps p.tables e below (T1102.setTop (mkF m 47 #[.val (.int p1), .val (.int p2), .val (.int (p1 &&& (3 : Int32))), .val (.int (p2 &&& (3 : Int32))), .val (.ref w3), .val (.ref w4), .val (.ref w4)] [(.int (1 : Int32))])) t → Steps p.tables e below (s₁.setTop (mkF m 0 #[.val (.int p1), .val (.int p2), .unset, .unset, .unset, .unset, .unset] [])) t := by
                  intro t kt
                  refine S768 t ?_
                  refine XS.iloadN X749.here hx rfl (hb hby at_14) rfl ?_
                  show Steps p.tables e below (T749.setTop (mkF m 15 #[.val (.int p1), .val (.int p2), .val (.int (p1 &&& (3 : Int32))), .val (.int (p2 &&& (3 : Int32))), .val (.ref w3), .unset, .unset] [(.int (p2 &&& (3 : Int32)))])) _
                  refine st1034 _ ?_
                  refine XS.astore X1034.here hx rfl (hb hby at_18) rfl rfl (l' := #[.val (.int p1), .val (.int p2), .val (.int (p1 &&& (3 : Int32))), .val (.int (p2 &&& (3 : Int32))), .val (.ref w3), .val (.ref w4), .unset]) rfl ?_
                  refine XS.aload X1034.here hx rfl (hb hby at_20) rfl rfl ?_
                  refine XS.aload X1034.here hx rfl (hb hby at_22) rfl rfl ?_
                  show Steps p.tables e below (T1034.setTop (mkF m 24 #[.val (.int p1), .val (.int p2), .val (.int (p1 &&& (3 : Int32))), .val (.int (p2 &&& (3 : Int32))), .val (.ref w3), .val (.ref w4), .unset] [(.ref w4), (.ref w3)])) _
                  refine st1053.trans ?_
                  refine XS.astore X1053.here hx rfl (hb hby at_27) rfl rfl (l' := #[.val (.int p1), .val (.int p2), .val (.int (p1 &&& (3 : Int32))), .val (.int (p2 &&& (3 : Int32))), .val (.ref w3), .val (.ref w4), .val (.ref w4)]) rfl ?_
                  refine XS.aload X1053.here hx rfl (hb hby at_29) rfl rfl ?_
                  refine XS.iloadN X1053.here hx rfl (hb hby at_31) rfl ?_
                  refine XS.iloadN X1053.here hx rfl (hb hby at_32) rfl ?_
                  show Steps p.tables e below (T1053.setTop (mkF m 33 #[.val (.int p1), .val (.int p2), .val (.int (p1 &&& (3 : Int32))), .val (.int (p2 &&& (3 : Int32))), .val (.ref w3), .val (.ref w4), .val (.ref w4)] [(.int (p2 &&& (3 : Int32))), (.int (p1 &&& (3 : Int32))), (.ref w4)])) _
                  refine st1083 _ ?_
                  show Steps p.tables e below (T1083.setTop (mkF m 36 #[.val (.int p1), .val (.int p2), .val (.int (p1 &&& (3 : Int32))), .val (.int (p2 &&& (3 : Int32))), .val (.ref w3), .val (.ref w4), .val (.ref w4)] [(.int (3 : Int32)), (.ref w4)])) _
                  refine st1102 _ ?_
                  show Steps p.tables e below (T1102.setTop (mkF m 39 #[.val (.int p1), .val (.int p2), .val (.int (p1 &&& (3 : Int32))), .val (.int (p2 &&& (3 : Int32))), .val (.ref w3), .val (.ref w4), .val (.ref w4)] [(.ref w4), (.ref w4)])) _
                  refine Jvm.RoadKit.acmp (g := (mkF m 39 #[.val (.int p1), .val (.int p2), .val (.int (p1 &&& (3 : Int32))), .val (.int (p2 &&& (3 : Int32))), .val (.ref w3), .val (.ref w4), .val (.ref w4)] [(.ref w4), (.ref w4)])) X1102 hx rfl rfl rfl (pc0 := 39) (pc' := 42) (same := true) rfl (hb hby at_39) rfl (decide_eq_true rfl) (by decide) (by decide) ?_
                  refine XS.iconst X1102.here hx rfl (hb hby at_42) ?_
                  refine XS.goto X1102.here hx rfl (pc0 := 43) (pc' := 47) rfl (hb hby at_43) (by decide) (by decide) ?_
                  exact kt
                obtain ⟨fs, hr, hrun, hended, hW, hsame⟩ := X1102.leave (v := some (.int (1 : Int32))) (fun h => by rw [Bd.returns] at h; cases h)
                refine ⟨_, _, pre0 _ (S1121 _ ?_), hrun, hended, _, _, rfl, ?_, ⟨_, rfl⟩, hW, hsame.mono (by decide) (by decide)⟩
                · exact retN X1102 hx (t := .boolean) Bd.returns (by simp) (hb hby at_47) hr
                · show Q_rm_law Z p1 p2 w1 w2 w3 w4 h0 n0 _ T1102.heap _
                  rw [k1119]
                  exact ⟨rfl, N1120⟩
          · exact absurd ((by decide) : ((1 : Int32) * (0 : Int32)) = (0 : Int32)) c1059
          · exact absurd c1062 ((by decide) : ¬ ((1 : Int32) = (0 : Int32)))
          · exact absurd c1067 ((by decide) : ¬ ((1 : Int32) = (0 : Int32)))
          · exact absurd c1072 ((by decide) : ¬ ((1 : Int32) = (0 : Int32)))
          · exact absurd c1077 ((by decide) : ¬ ((1 : Int32) = (0 : Int32)))
    · exact absurd (c2 : (p1 &&& (3 : Int32)) = (2 : Int32)) c764
  · obtain ⟨_, _, ⟨T1122, L1122, k1122, n1122⟩, -, X1122, ⟨Lc1122, hQ1122, l1122, y1122, z1122⟩, st1122⟩ := Jvm.LawKit.callS X0 hx (y := (⟨"com/example/typecheck/typecheck/model/QuantifierTimesPinLaw", "pick", "(I)Lcom/example/typecheck/typecheck/model/Quantifier;"⟩ : MethodName)) hown (mvT hZ (own_w hw 0 rfl)) (mvT hZ (own_w hw 1 rfl)) (mvT hZ (own_w hw 2 rfl)) (mvT hZ (own_w hw 3 rfl)) (by decide) (backOf (W := 0) (rm_pick l Z a0 hw [] (p1 &&& (3 : Int32)) w1 w2 w3 w4 h0 n0 O0 S_ONE S_OPTIONAL S_ONE_OR_MORE S_ZERO_OR_MORE) hZ (own_w hw 3 rfl) (own_w hw 2 rfl) (by decide) (by decide)) (g := (mkF m 9 #[.val (.int p1), .val (.int p2), .val (.int (p1 &&& (3 : Int32))), .val (.int (p2 &&& (3 : Int32))), .unset, .unset, .unset] [(.int (p1 &&& (3 : Int32)))])) rfl (by rw [hml]; rfl) (argsL := [(.int (p1 &&& (3 : Int32)))]) (rest := []) (lenOf pd_1 rfl) rfl (by show 2 * 0 + _ ≤ _; exact Nat.le_of_eq rfl) (hb hby at_9) (fun _ _ => ⟨rfl, e0, (by decide : 0 + 0 ≤ _), (by decide : 0 + 0 ≤ _)⟩)
    dsimp only [Pt.U, Pt.locs, Pt.cells, Pt.slots] at X1122 l1122 y1122 z1122 st1122 hQ1122
    subst l1122 y1122 z1122
    rcases hQ1122 with ⟨c1123, rfl, N1124, k1125⟩ | ⟨c1126, c1127, rfl, N1128, k1129⟩ | ⟨c1130, c1131, c1132, rfl, N1133, k1134⟩ | ⟨c1135, c1136, c1137, rfl, N1138, k1139⟩
    · exact absurd c1123 ((by rw [c2] <;> decide) : ¬ ((p1 &&& (3 : Int32)) = (0 : Int32)))
    · exact absurd c1127 ((by rw [c2] <;> decide) : ¬ ((p1 &&& (3 : Int32)) = (1 : Int32)))
    · exact absurd c1132 ((by rw [c2] <;> decide) : ¬ ((p1 &&& (3 : Int32)) = (2 : Int32)))
    · have N1140 := Fr.app N0 N1138
      have S1141 : ∀ t, Steps p.tables e below (T1122.setTop (mkF m 14 #[.val (.int p1), .val (.int p2), .val (.int (p1 &&& (3 : Int32))), .val (.int (p2 &&& (3 : Int32))), .val (.ref w4), .unset, .unset] [])) t → Steps p.tables e below (s₁.setTop (mkF m 0 #[.val (.int p1), .val (.int p2), .unset, .unset, .unset, .unset, .unset] [])) t := by
        intro t kt
        refine S1 t ?_
        refine XS.iloadN X0.here hx rfl (hb hby at_8) rfl ?_
        show Steps p.tables e below (s₁.setTop (mkF m 9 #[.val (.int p1), .val (.int p2), .val (.int (p1 &&& (3 : Int32))), .val (.int (p2 &&& (3 : Int32))), .unset, .unset, .unset] [(.int (p1 &&& (3 : Int32)))])) _
        refine st1122 _ ?_
        refine XS.astore X1122.here hx rfl (hb hby at_12) rfl rfl (l' := #[.val (.int p1), .val (.int p2), .val (.int (p1 &&& (3 : Int32))), .val (.int (p2 &&& (3 : Int32))), .val (.ref w4), .unset, .unset]) rfl ?_
        exact kt
      rcases own_and3 p2 with c1142 | c1142 | c1142 | c1142
      · obtain ⟨_, _, ⟨T1143, L1143, k1143, n1143⟩, -, X1143, ⟨Lc1143, hQ1143, l1143, y1143, z1143⟩, st1143⟩ := Jvm.LawKit.callS X1122 hx (y := (⟨"com/example/typecheck/typecheck/model/QuantifierTimesPinLaw", "pick", "(I)Lcom/example/typecheck/typecheck/model/Quantifier;"⟩ : MethodName)) hown (mvT hZ (own_w hw 0 rfl)) (mvT hZ (own_w hw 1 rfl)) (mvT hZ (own_w hw 2 rfl)) (mvT hZ (own_w hw 3 rfl)) (by decide) (backOf (W := 0) (rm_pick l Z a0 hw [] (p2 &&& (3 : Int32)) w1 w2 w3 w4 h0 n0 O0 S_ONE S_OPTIONAL S_ONE_OR_MORE S_ZERO_OR_MORE) hZ (own_w hw 3 rfl) (own_w hw 2 rfl) (by decide) (by decide)) (g := (mkF m 15 #[.val (.int p1), .val (.int p2), .val (.int (p1 &&& (3 : Int32))), .val (.int (p2 &&& (3 : Int32))), .val (.ref w4), .unset, .unset] [(.int (p2 &&& (3 : Int32)))])) rfl (by rw [hml]; rfl) (argsL := [(.int (p2 &&& (3 : Int32)))]) (rest := []) (lenOf pd_1 rfl) rfl (by show 2 * 0 + _ ≤ _; exact Nat.le_of_eq rfl) (hb hby at_15) (fun _ _ => ⟨rfl, k1139, (by decide : 0 + 0 ≤ _), (by decide : 0 + 0 ≤ _)⟩)
        dsimp only [Pt.U, Pt.locs, Pt.cells, Pt.slots] at X1143 l1143 y1143 z1143 st1143 hQ1143
        subst l1143 y1143 z1143
        rcases hQ1143 with ⟨c1144, rfl, N1145, k1146⟩ | ⟨c1147, c1148, rfl, N1149, k1150⟩ | ⟨c1151, c1152, c1153, rfl, N1154, k1155⟩ | ⟨c1156, c1157, c1158, rfl, N1159, k1160⟩
        · have N1161 := Fr.app N1140 N1145
          obtain ⟨cq1162, kq1162, q1162a, q1162b, q1162c⟩ := isOf hZ k1146 (E_w4.ext O0.2)
          obtain ⟨_, _, ⟨T1162, L1162, k1162, n1162⟩, -, X1162, ⟨Lc1162, hQ1162, l1162, y1162, z1162⟩, st1162⟩ := X1143.virtualBack hx (y := (⟨"com/example/typecheck/typecheck/model/Quantifier", "times", "(Lcom/example/typecheck/typecheck/model/Quantifier;)Lcom/example/typecheck/typecheck/model/Quantifier;"⟩ : MethodName)) (z := (⟨"com/example/typecheck/typecheck/model/Quantifier", "times", "(Lcom/example/typecheck/typecheck/model/Quantifier;)Lcom/example/typecheck/typecheck/model/Quantifier;"⟩ : MethodName)) hown (mvT hZ (own_w hw 9 rfl)) (mvT hZ (own_w hw 10 rfl)) (notFace_of_selects (args := #[]) (mvT hZ (own_w hw 12 rfl))) (mvT hZ (own_w hw 12 rfl)) (mvT hZ (own_w hw 11 rfl)) (by decide) (backOf (W := 0) (rm_times l Z a0 hw [] w4 w1 (0 : Int32) (1 : Int32) (1 : Int32) (0 : Int32) w1 w2 w3 w4 h0 n0 O0 Fm_w4 Fu_w4 Fm_w1 Fu_w1 S_ONE S_OPTIONAL S_ONE_OR_MORE S_ZERO_OR_MORE) hZ (own_w hw 13 rfl) (own_w hw 5 rfl) (by decide) (by decide)) q1162a q1162c (g := (mkF m 24 #[.val (.int p1), .val (.int p2), .val (.int (p1 &&& (3 : Int32))), .val (.int (p2 &&& (3 : Int32))), .val (.ref w4), .val (.ref w1), .unset] [(.ref w1), (.ref w4)])) rfl (by rw [hml]; rfl) (Steps.refl _) (argsL := [(.ref w1)]) (rest := []) (lenOf pd_2 rfl) rfl (by show 2 * 0 + _ ≤ _; exact Nat.le_of_eq rfl) (hb hby at_24) (fun _ _ => ⟨rfl, k1146, (by decide : 0 + 0 ≤ _), (by decide : 0 + 0 ≤ _)⟩)
          dsimp only [Pt.U, Pt.locs, Pt.cells, Pt.slots] at X1162 l1162 y1162 z1162 st1162 hQ1162
          subst l1162 y1162 z1162
          rcases hQ1162 with ⟨c1163, c1164, rfl, N1165, k1166⟩ | ⟨c1167, c1168, rfl, N1169, k1170⟩ | ⟨c1171, c1172, c1173, rfl, N1174, k1175⟩ | ⟨c1176, c1177, c1178, rfl, N1179, k1180⟩ | ⟨c1181, c1182, c1183, rfl, N1184, k1185⟩ | ⟨c1186, c1187, c1188, rfl, N1189, k1190⟩
          · have N1191 := Fr.app N1161 N1165
            obtain ⟨_, _, ⟨T1192, L1192, k1192, n1192⟩, -, X1192, ⟨Lc1192, hQ1192, l1192, y1192, z1192⟩, st1192⟩ := Jvm.LawKit.callS X1162 hx (y := (⟨"com/example/typecheck/typecheck/model/QuantifierTimesPinLaw", "expected", "(II)I"⟩ : MethodName)) hown (mvT hZ (own_w hw 22 rfl)) (mvT hZ (own_w hw 23 rfl)) (mvT hZ (own_w hw 2 rfl)) (mvT hZ (own_w hw 24 rfl)) (by decide) (backOf (W := 1) (rm_exp l Z a0 hw [] (p1 &&& (3 : Int32)) (p2 &&& (3 : Int32)) h0 n0 O0 ) hZ (own_w hw 24 rfl) (own_w hw 2 rfl) (by decide) (by decide)) (g := (mkF m 33 #[.val (.int p1), .val (.int p2), .val (.int (p1 &&& (3 : Int32))), .val (.int (p2 &&& (3 : Int32))), .val (.ref w4), .val (.ref w1), .val (.ref w4)] [(.int (p2 &&& (3 : Int32))), (.int (p1 &&& (3 : Int32))), (.ref w4)])) rfl (by rw [hml]; rfl) (argsL := [(.int (p1 &&& (3 : Int32))), (.int (p2 &&& (3 : Int32)))]) (rest := [(.ref w4)]) (lenOf pd_3 rfl) rfl (by show 2 * 0 + _ ≤ _; exact Nat.le_of_eq rfl) (hb hby at_33) (fun _ _ => ⟨rfl, k1166, (by decide : 0 + 0 ≤ _), (by decide : 0 + 0 ≤ _)⟩)
            dsimp only [Pt.U, Pt.locs, Pt.cells, Pt.slots] at X1192 l1192 y1192 z1192 st1192 hQ1192
            subst l1192 y1192 z1192
            rcases hQ1192 with ⟨c1193, rfl, N1194, k1195⟩ | ⟨c1196, c1197, rfl, N1198, k1199⟩ | ⟨c1200, c1201, c1202, rfl, N1203, k1204⟩ | ⟨c1205, c1206, c1207, rfl, N1208, k1209⟩
            · exact absurd c1193 (c1135 : ¬ ((p1 &&& (3 : Int32)) = (0 : Int32)))
            · have N1210 := Fr.app N1191 N1198
              obtain ⟨_, _, ⟨T1211, L1211, k1211, n1211⟩, -, X1211, ⟨Lc1211, hQ1211, l1211, y1211, z1211⟩, st1211⟩ := Jvm.LawKit.callS X1192 hx (y := (⟨"com/example/typecheck/typecheck/model/QuantifierTimesPinLaw", "pick", "(I)Lcom/example/typecheck/typecheck/model/Quantifier;"⟩ : MethodName)) hown (mvT hZ (own_w hw 0 rfl)) (mvT hZ (own_w hw 1 rfl)) (mvT hZ (own_w hw 2 rfl)) (mvT hZ (own_w hw 3 rfl)) (by decide) (backOf (W := 1) (rm_pick l Z a0 hw [] (p1 &&& (3 : Int32)) w1 w2 w3 w4 h0 n0 O0 S_ONE S_OPTIONAL S_ONE_OR_MORE S_ZERO_OR_MORE) hZ (own_w hw 3 rfl) (own_w hw 2 rfl) (by decide) (by decide)) (g := (mkF m 36 #[.val (.int p1), .val (.int p2), .val (.int (p1 &&& (3 : Int32))), .val (.int (p2 &&& (3 : Int32))), .val (.ref w4), .val (.ref w1), .val (.ref w4)] [(.int (p1 &&& (3 : Int32))), (.ref w4)])) rfl (by rw [hml]; rfl) (argsL := [(.int (p1 &&& (3 : Int32)))]) (rest := [(.ref w4)]) (lenOf pd_1 rfl) rfl (by show 2 * 0 + _ ≤ _; exact Nat.le_of_eq rfl) (hb hby at_36) (fun _ _ => ⟨rfl, k1199, (by decide : 0 + 0 ≤ _), (by decide : 0 + 0 ≤ _)⟩)
              dsimp only [Pt.U, Pt.locs, Pt.cells, Pt.slots] at X1211 l1211 y1211 z1211 st1211 hQ1211
              subst l1211 y1211 z1211
              rcases hQ1211 with ⟨c1212, rfl, N1213, k1214⟩ | ⟨c1215, c1216, rfl, N1217, k1218⟩ | ⟨c1219, c1220, c1221, rfl, N1222, k1223⟩ | ⟨c1224, c1225, c1226, rfl, N1227, k1228⟩
              · exact absurd c1212 (c1196 : ¬ ((p1 &&& (3 : Int32)) = (0 : Int32)))
              · exact absurd c1216 (c1136 : ¬ ((p1 &&& (3 : Int32)) = (1 : Int32)))
              · exact absurd c1221 (c1137 : ¬ ((p1 &&& (3 : Int32)) = (2 : Int32)))
              · have N1229 := Fr.app N1210 N1227
                have S1230 : ∀ t, Steps p.tables e below (T1211.setTop (mkF m 47 #[.val (.int p1), .val (.int p2), .val (.int (p1 &&& (3 : Int32))), .val (.int (p2 &&& (3 : Int32))), .val (.ref w4), .val (.ref w1), .val (.ref w4)] [(.int (1 : Int32))])) t → Steps p.tables e below (s₁.setTop (mkF m 0 #[.val (.int p1), .val (.int p2), .unset, .unset, .unset, .unset, .unset] [])) t := by
                  intro t kt
                  refine S1141 t ?_
                  refine XS.iloadN X1122.here hx rfl (hb hby at_14) rfl ?_
                  show Steps p.tables e below (T1122.setTop (mkF m 15 #[.val (.int p1), .val (.int p2), .val (.int (p1 &&& (3 : Int32))), .val (.int (p2 &&& (3 : Int32))), .val (.ref w4), .unset, .unset] [(.int (p2 &&& (3 : Int32)))])) _
                  refine st1143 _ ?_
                  refine XS.astore X1143.here hx rfl (hb hby at_18) rfl rfl (l' := #[.val (.int p1), .val (.int p2), .val (.int (p1 &&& (3 : Int32))), .val (.int (p2 &&& (3 : Int32))), .val (.ref w4), .val (.ref w1), .unset]) rfl ?_
                  refine XS.aload X1143.here hx rfl (hb hby at_20) rfl rfl ?_
                  refine XS.aload X1143.here hx rfl (hb hby at_22) rfl rfl ?_
                  show Steps p.tables e below (T1143.setTop (mkF m 24 #[.val (.int p1), .val (.int p2), .val (.int (p1 &&& (3 : Int32))), .val (.int (p2 &&& (3 : Int32))), .val (.ref w4), .val (.ref w1), .unset] [(.ref w1), (.ref w4)])) _
                  refine st1162.trans ?_
                  refine XS.astore X1162.here hx rfl (hb hby at_27) rfl rfl (l' := #[.val (.int p1), .val (.int p2), .val (.int (p1 &&& (3 : Int32))), .val (.int (p2 &&& (3 : Int32))), .val (.ref w4), .val (.ref w1), .val (.ref w4)]) rfl ?_
                  refine XS.aload X1162.here hx rfl (hb hby at_29) rfl rfl ?_
                  refine XS.iloadN X1162.here hx rfl (hb hby at_31) rfl ?_
                  refine XS.iloadN X1162.here hx rfl (hb hby at_32) rfl ?_
                  show Steps p.tables e below (T1162.setTop (mkF m 33 #[.val (.int p1), .val (.int p2), .val (.int (p1 &&& (3 : Int32))), .val (.int (p2 &&& (3 : Int32))), .val (.ref w4), .val (.ref w1), .val (.ref w4)] [(.int (p2 &&& (3 : Int32))), (.int (p1 &&& (3 : Int32))), (.ref w4)])) _
                  refine st1192 _ ?_
                  show Steps p.tables e below (T1192.setTop (mkF m 36 #[.val (.int p1), .val (.int p2), .val (.int (p1 &&& (3 : Int32))), .val (.int (p2 &&& (3 : Int32))), .val (.ref w4), .val (.ref w1), .val (.ref w4)] [(.int (p1 &&& (3 : Int32))), (.ref w4)])) _
                  refine st1211 _ ?_
                  show Steps p.tables e below (T1211.setTop (mkF m 39 #[.val (.int p1), .val (.int p2), .val (.int (p1 &&& (3 : Int32))), .val (.int (p2 &&& (3 : Int32))), .val (.ref w4), .val (.ref w1), .val (.ref w4)] [(.ref w4), (.ref w4)])) _
                  refine Jvm.RoadKit.acmp (g := (mkF m 39 #[.val (.int p1), .val (.int p2), .val (.int (p1 &&& (3 : Int32))), .val (.int (p2 &&& (3 : Int32))), .val (.ref w4), .val (.ref w1), .val (.ref w4)] [(.ref w4), (.ref w4)])) X1211 hx rfl rfl rfl (pc0 := 39) (pc' := 42) (same := true) rfl (hb hby at_39) rfl (decide_eq_true rfl) (by decide) (by decide) ?_
                  refine XS.iconst X1211.here hx rfl (hb hby at_42) ?_
                  refine XS.goto X1211.here hx rfl (pc0 := 43) (pc' := 47) rfl (hb hby at_43) (by decide) (by decide) ?_
                  exact kt
                obtain ⟨fs, hr, hrun, hended, hW, hsame⟩ := X1211.leave (v := some (.int (1 : Int32))) (fun h => by rw [Bd.returns] at h; cases h)
                refine ⟨_, _, pre0 _ (S1230 _ ?_), hrun, hended, _, _, rfl, ?_, ⟨_, rfl⟩, hW, hsame.mono (by decide) (by decide)⟩
                · exact retN X1211 hx (t := .boolean) Bd.returns (by simp) (hb hby at_47) hr
                · show Q_rm_law Z p1 p2 w1 w2 w3 w4 h0 n0 _ T1211.heap _
                  rw [k1228]
                  exact ⟨rfl, N1229⟩
            · exact absurd (c1144 : (p2 &&& (3 : Int32)) = (0 : Int32)) c1201
            · exact absurd (c1144 : (p2 &&& (3 : Int32)) = (0 : Int32)) c1206
          · exact absurd ((by decide) : ((0 : Int32) * (1 : Int32)) = (0 : Int32)) c1168
          · exact absurd c1171 ((by decide) : ¬ ((1 : Int32) = (0 : Int32)))
          · exact absurd c1176 ((by decide) : ¬ ((1 : Int32) = (0 : Int32)))
          · exact absurd c1181 ((by decide) : ¬ ((1 : Int32) = (0 : Int32)))
          · exact absurd c1186 ((by decide) : ¬ ((1 : Int32) = (0 : Int32)))
        · exact absurd (c1142 : (p2 &&& (3 : Int32)) = (0 : Int32)) c1147
        · exact absurd (c1142 : (p2 &&& (3 : Int32)) = (0 : Int32)) c1151
        · exact absurd (c1142 : (p2 &&& (3 : Int32)) = (0 : Int32)) c1156
      · obtain ⟨_, _, ⟨T1231, L1231, k1231, n1231⟩, -, X1231, ⟨Lc1231, hQ1231, l1231, y1231, z1231⟩, st1231⟩ := Jvm.LawKit.callS X1122 hx (y := (⟨"com/example/typecheck/typecheck/model/QuantifierTimesPinLaw", "pick", "(I)Lcom/example/typecheck/typecheck/model/Quantifier;"⟩ : MethodName)) hown (mvT hZ (own_w hw 0 rfl)) (mvT hZ (own_w hw 1 rfl)) (mvT hZ (own_w hw 2 rfl)) (mvT hZ (own_w hw 3 rfl)) (by decide) (backOf (W := 0) (rm_pick l Z a0 hw [] (p2 &&& (3 : Int32)) w1 w2 w3 w4 h0 n0 O0 S_ONE S_OPTIONAL S_ONE_OR_MORE S_ZERO_OR_MORE) hZ (own_w hw 3 rfl) (own_w hw 2 rfl) (by decide) (by decide)) (g := (mkF m 15 #[.val (.int p1), .val (.int p2), .val (.int (p1 &&& (3 : Int32))), .val (.int (p2 &&& (3 : Int32))), .val (.ref w4), .unset, .unset] [(.int (p2 &&& (3 : Int32)))])) rfl (by rw [hml]; rfl) (argsL := [(.int (p2 &&& (3 : Int32)))]) (rest := []) (lenOf pd_1 rfl) rfl (by show 2 * 0 + _ ≤ _; exact Nat.le_of_eq rfl) (hb hby at_15) (fun _ _ => ⟨rfl, k1139, (by decide : 0 + 0 ≤ _), (by decide : 0 + 0 ≤ _)⟩)
        dsimp only [Pt.U, Pt.locs, Pt.cells, Pt.slots] at X1231 l1231 y1231 z1231 st1231 hQ1231
        subst l1231 y1231 z1231
        rcases hQ1231 with ⟨c1232, rfl, N1233, k1234⟩ | ⟨c1235, c1236, rfl, N1237, k1238⟩ | ⟨c1239, c1240, c1241, rfl, N1242, k1243⟩ | ⟨c1244, c1245, c1246, rfl, N1247, k1248⟩
        · exact absurd c1232 ((by rw [c1142] <;> decide) : ¬ ((p2 &&& (3 : Int32)) = (0 : Int32)))
        · have N1249 := Fr.app N1140 N1237
          obtain ⟨cq1250, kq1250, q1250a, q1250b, q1250c⟩ := isOf hZ k1238 (E_w4.ext O0.2)
          obtain ⟨_, _, ⟨T1250, L1250, k1250, n1250⟩, -, X1250, ⟨Lc1250, hQ1250, l1250, y1250, z1250⟩, st1250⟩ := X1231.virtualBack hx (y := (⟨"com/example/typecheck/typecheck/model/Quantifier", "times", "(Lcom/example/typecheck/typecheck/model/Quantifier;)Lcom/example/typecheck/typecheck/model/Quantifier;"⟩ : MethodName)) (z := (⟨"com/example/typecheck/typecheck/model/Quantifier", "times", "(Lcom/example/typecheck/typecheck/model/Quantifier;)Lcom/example/typecheck/typecheck/model/Quantifier;"⟩ : MethodName)) hown (mvT hZ (own_w hw 9 rfl)) (mvT hZ (own_w hw 10 rfl)) (notFace_of_selects (args := #[]) (mvT hZ (own_w hw 12 rfl))) (mvT hZ (own_w hw 12 rfl)) (mvT hZ (own_w hw 11 rfl)) (by decide) (backOf (W := 0) (rm_times l Z a0 hw [] w4 w2 (0 : Int32) (1 : Int32) (0 : Int32) (0 : Int32) w1 w2 w3 w4 h0 n0 O0 Fm_w4 Fu_w4 Fm_w2 Fu_w2 S_ONE S_OPTIONAL S_ONE_OR_MORE S_ZERO_OR_MORE) hZ (own_w hw 13 rfl) (own_w hw 5 rfl) (by decide) (by decide)) q1250a q1250c (g := (mkF m 24 #[.val (.int p1), .val (.int p2), .val (.int (p1 &&& (3 : Int32))), .val (.int (p2 &&& (3 : Int32))), .val (.ref w4), .val (.ref w2), .unset] [(.ref w2), (.ref w4)])) rfl (by rw [hml]; rfl) (Steps.refl _) (argsL := [(.ref w2)]) (rest := []) (lenOf pd_2 rfl) rfl (by show 2 * 0 + _ ≤ _; exact Nat.le_of_eq rfl) (hb hby at_24) (fun _ _ => ⟨rfl, k1238, (by decide : 0 + 0 ≤ _), (by decide : 0 + 0 ≤ _)⟩)
          dsimp only [Pt.U, Pt.locs, Pt.cells, Pt.slots] at X1250 l1250 y1250 z1250 st1250 hQ1250
          subst l1250 y1250 z1250
          rcases hQ1250 with ⟨c1251, c1252, rfl, N1253, k1254⟩ | ⟨c1255, c1256, rfl, N1257, k1258⟩ | ⟨c1259, c1260, c1261, rfl, N1262, k1263⟩ | ⟨c1264, c1265, c1266, rfl, N1267, k1268⟩ | ⟨c1269, c1270, c1271, rfl, N1272, k1273⟩ | ⟨c1274, c1275, c1276, rfl, N1277, k1278⟩
          · have N1279 := Fr.app N1249 N1253
            obtain ⟨_, _, ⟨T1280, L1280, k1280, n1280⟩, -, X1280, ⟨Lc1280, hQ1280, l1280, y1280, z1280⟩, st1280⟩ := Jvm.LawKit.callS X1250 hx (y := (⟨"com/example/typecheck/typecheck/model/QuantifierTimesPinLaw", "expected", "(II)I"⟩ : MethodName)) hown (mvT hZ (own_w hw 22 rfl)) (mvT hZ (own_w hw 23 rfl)) (mvT hZ (own_w hw 2 rfl)) (mvT hZ (own_w hw 24 rfl)) (by decide) (backOf (W := 1) (rm_exp l Z a0 hw [] (p1 &&& (3 : Int32)) (p2 &&& (3 : Int32)) h0 n0 O0 ) hZ (own_w hw 24 rfl) (own_w hw 2 rfl) (by decide) (by decide)) (g := (mkF m 33 #[.val (.int p1), .val (.int p2), .val (.int (p1 &&& (3 : Int32))), .val (.int (p2 &&& (3 : Int32))), .val (.ref w4), .val (.ref w2), .val (.ref w4)] [(.int (p2 &&& (3 : Int32))), (.int (p1 &&& (3 : Int32))), (.ref w4)])) rfl (by rw [hml]; rfl) (argsL := [(.int (p1 &&& (3 : Int32))), (.int (p2 &&& (3 : Int32)))]) (rest := [(.ref w4)]) (lenOf pd_3 rfl) rfl (by show 2 * 0 + _ ≤ _; exact Nat.le_of_eq rfl) (hb hby at_33) (fun _ _ => ⟨rfl, k1254, (by decide : 0 + 0 ≤ _), (by decide : 0 + 0 ≤ _)⟩)
            dsimp only [Pt.U, Pt.locs, Pt.cells, Pt.slots] at X1280 l1280 y1280 z1280 st1280 hQ1280
            subst l1280 y1280 z1280
            rcases hQ1280 with ⟨c1281, rfl, N1282, k1283⟩ | ⟨c1284, c1285, rfl, N1286, k1287⟩ | ⟨c1288, c1289, c1290, rfl, N1291, k1292⟩ | ⟨c1293, c1294, c1295, rfl, N1296, k1297⟩
            · exact absurd c1281 (c1135 : ¬ ((p1 &&& (3 : Int32)) = (0 : Int32)))
            · exact absurd c1285 (c1235 : ¬ ((p2 &&& (3 : Int32)) = (0 : Int32)))
            · exact absurd c1290 ((by rw [c2, c1236] <;> decide) : ¬ ((p1 &&& (3 : Int32)) = (p2 &&& (3 : Int32))))
            · have N1298 := Fr.app N1279 N1296
              obtain ⟨_, _, ⟨T1299, L1299, k1299, n1299⟩, -, X1299, ⟨Lc1299, hQ1299, l1299, y1299, z1299⟩, st1299⟩ := Jvm.LawKit.callS X1280 hx (y := (⟨"com/example/typecheck/typecheck/model/QuantifierTimesPinLaw", "pick", "(I)Lcom/example/typecheck/typecheck/model/Quantifier;"⟩ : MethodName)) hown (mvT hZ (own_w hw 0 rfl)) (mvT hZ (own_w hw 1 rfl)) (mvT hZ (own_w hw 2 rfl)) (mvT hZ (own_w hw 3 rfl)) (by decide) (backOf (W := 1) (rm_pick l Z a0 hw [] (3 : Int32) w1 w2 w3 w4 h0 n0 O0 S_ONE S_OPTIONAL S_ONE_OR_MORE S_ZERO_OR_MORE) hZ (own_w hw 3 rfl) (own_w hw 2 rfl) (by decide) (by decide)) (g := (mkF m 36 #[.val (.int p1), .val (.int p2), .val (.int (p1 &&& (3 : Int32))), .val (.int (p2 &&& (3 : Int32))), .val (.ref w4), .val (.ref w2), .val (.ref w4)] [(.int (3 : Int32)), (.ref w4)])) rfl (by rw [hml]; rfl) (argsL := [(.int (3 : Int32))]) (rest := [(.ref w4)]) (lenOf pd_1 rfl) rfl (by show 2 * 0 + _ ≤ _; exact Nat.le_of_eq rfl) (hb hby at_36) (fun _ _ => ⟨rfl, k1297, (by decide : 0 + 0 ≤ _), (by decide : 0 + 0 ≤ _)⟩)
              dsimp only [Pt.U, Pt.locs, Pt.cells, Pt.slots] at X1299 l1299 y1299 z1299 st1299 hQ1299
              subst l1299 y1299 z1299
              rcases hQ1299 with ⟨c1300, rfl, N1301, k1302⟩ | ⟨c1303, c1304, rfl, N1305, k1306⟩ | ⟨c1307, c1308, c1309, rfl, N1310, k1311⟩ | ⟨c1312, c1313, c1314, rfl, N1315, k1316⟩
              · exact absurd c1300 ((by decide) : ¬ ((3 : Int32) = (0 : Int32)))
              · exact absurd c1304 ((by decide) : ¬ ((3 : Int32) = (1 : Int32)))
              · exact absurd c1309 ((by decide) : ¬ ((3 : Int32) = (2 : Int32)))
              · have N1317 := Fr.app N1298 N1315
                have S1318 : ∀ t, Steps p.tables e below (T1299.setTop (mkF m 47 #[.val (.int p1), .val (.int p2), .val (.int (p1 &&& (3 : Int32))), .val (.int (p2 &&& (3 : Int32))), .val (.ref w4), .val (.ref w2), .val (.ref w4)] [(.int (1 : Int32))])) t → Steps p.tables e below (s₁.setTop (mkF m 0 #[.val (.int p1), .val (.int p2), .unset, .unset, .unset, .unset, .unset] [])) t := by
                  intro t kt
                  refine S1141 t ?_
                  refine XS.iloadN X1122.here hx rfl (hb hby at_14) rfl ?_
                  show Steps p.tables e below (T1122.setTop (mkF m 15 #[.val (.int p1), .val (.int p2), .val (.int (p1 &&& (3 : Int32))), .val (.int (p2 &&& (3 : Int32))), .val (.ref w4), .unset, .unset] [(.int (p2 &&& (3 : Int32)))])) _
                  refine st1231 _ ?_
                  refine XS.astore X1231.here hx rfl (hb hby at_18) rfl rfl (l' := #[.val (.int p1), .val (.int p2), .val (.int (p1 &&& (3 : Int32))), .val (.int (p2 &&& (3 : Int32))), .val (.ref w4), .val (.ref w2), .unset]) rfl ?_
                  refine XS.aload X1231.here hx rfl (hb hby at_20) rfl rfl ?_
                  refine XS.aload X1231.here hx rfl (hb hby at_22) rfl rfl ?_
                  show Steps p.tables e below (T1231.setTop (mkF m 24 #[.val (.int p1), .val (.int p2), .val (.int (p1 &&& (3 : Int32))), .val (.int (p2 &&& (3 : Int32))), .val (.ref w4), .val (.ref w2), .unset] [(.ref w2), (.ref w4)])) _
                  refine st1250.trans ?_
                  refine XS.astore X1250.here hx rfl (hb hby at_27) rfl rfl (l' := #[.val (.int p1), .val (.int p2), .val (.int (p1 &&& (3 : Int32))), .val (.int (p2 &&& (3 : Int32))), .val (.ref w4), .val (.ref w2), .val (.ref w4)]) rfl ?_
                  refine XS.aload X1250.here hx rfl (hb hby at_29) rfl rfl ?_
                  refine XS.iloadN X1250.here hx rfl (hb hby at_31) rfl ?_
                  refine XS.iloadN X1250.here hx rfl (hb hby at_32) rfl ?_
                  show Steps p.tables e below (T1250.setTop (mkF m 33 #[.val (.int p1), .val (.int p2), .val (.int (p1 &&& (3 : Int32))), .val (.int (p2 &&& (3 : Int32))), .val (.ref w4), .val (.ref w2), .val (.ref w4)] [(.int (p2 &&& (3 : Int32))), (.int (p1 &&& (3 : Int32))), (.ref w4)])) _
                  refine st1280 _ ?_
                  show Steps p.tables e below (T1280.setTop (mkF m 36 #[.val (.int p1), .val (.int p2), .val (.int (p1 &&& (3 : Int32))), .val (.int (p2 &&& (3 : Int32))), .val (.ref w4), .val (.ref w2), .val (.ref w4)] [(.int (3 : Int32)), (.ref w4)])) _
                  refine st1299 _ ?_
                  show Steps p.tables e below (T1299.setTop (mkF m 39 #[.val (.int p1), .val (.int p2), .val (.int (p1 &&& (3 : Int32))), .val (.int (p2 &&& (3 : Int32))), .val (.ref w4), .val (.ref w2), .val (.ref w4)] [(.ref w4), (.ref w4)])) _
                  refine Jvm.RoadKit.acmp (g := (mkF m 39 #[.val (.int p1), .val (.int p2), .val (.int (p1 &&& (3 : Int32))), .val (.int (p2 &&& (3 : Int32))), .val (.ref w4), .val (.ref w2), .val (.ref w4)] [(.ref w4), (.ref w4)])) X1299 hx rfl rfl rfl (pc0 := 39) (pc' := 42) (same := true) rfl (hb hby at_39) rfl (decide_eq_true rfl) (by decide) (by decide) ?_
                  refine XS.iconst X1299.here hx rfl (hb hby at_42) ?_
                  refine XS.goto X1299.here hx rfl (pc0 := 43) (pc' := 47) rfl (hb hby at_43) (by decide) (by decide) ?_
                  exact kt
                obtain ⟨fs, hr, hrun, hended, hW, hsame⟩ := X1299.leave (v := some (.int (1 : Int32))) (fun h => by rw [Bd.returns] at h; cases h)
                refine ⟨_, _, pre0 _ (S1318 _ ?_), hrun, hended, _, _, rfl, ?_, ⟨_, rfl⟩, hW, hsame.mono (by decide) (by decide)⟩
                · exact retN X1299 hx (t := .boolean) Bd.returns (by simp) (hb hby at_47) hr
                · show Q_rm_law Z p1 p2 w1 w2 w3 w4 h0 n0 _ T1299.heap _
                  rw [k1316]
                  exact ⟨rfl, N1317⟩
          · exact absurd ((by decide) : ((0 : Int32) * (0 : Int32)) = (0 : Int32)) c1256
          · exact absurd c1259 ((by decide) : ¬ ((1 : Int32) = (0 : Int32)))
          · exact absurd c1264 ((by decide) : ¬ ((1 : Int32) = (0 : Int32)))
          · exact absurd c1269 ((by decide) : ¬ ((1 : Int32) = (0 : Int32)))
          · exact absurd c1274 ((by decide) : ¬ ((1 : Int32) = (0 : Int32)))
        · exact absurd (c1142 : (p2 &&& (3 : Int32)) = (1 : Int32)) c1240
        · exact absurd (c1142 : (p2 &&& (3 : Int32)) = (1 : Int32)) c1245
      · obtain ⟨_, _, ⟨T1319, L1319, k1319, n1319⟩, -, X1319, ⟨Lc1319, hQ1319, l1319, y1319, z1319⟩, st1319⟩ := Jvm.LawKit.callS X1122 hx (y := (⟨"com/example/typecheck/typecheck/model/QuantifierTimesPinLaw", "pick", "(I)Lcom/example/typecheck/typecheck/model/Quantifier;"⟩ : MethodName)) hown (mvT hZ (own_w hw 0 rfl)) (mvT hZ (own_w hw 1 rfl)) (mvT hZ (own_w hw 2 rfl)) (mvT hZ (own_w hw 3 rfl)) (by decide) (backOf (W := 0) (rm_pick l Z a0 hw [] (p2 &&& (3 : Int32)) w1 w2 w3 w4 h0 n0 O0 S_ONE S_OPTIONAL S_ONE_OR_MORE S_ZERO_OR_MORE) hZ (own_w hw 3 rfl) (own_w hw 2 rfl) (by decide) (by decide)) (g := (mkF m 15 #[.val (.int p1), .val (.int p2), .val (.int (p1 &&& (3 : Int32))), .val (.int (p2 &&& (3 : Int32))), .val (.ref w4), .unset, .unset] [(.int (p2 &&& (3 : Int32)))])) rfl (by rw [hml]; rfl) (argsL := [(.int (p2 &&& (3 : Int32)))]) (rest := []) (lenOf pd_1 rfl) rfl (by show 2 * 0 + _ ≤ _; exact Nat.le_of_eq rfl) (hb hby at_15) (fun _ _ => ⟨rfl, k1139, (by decide : 0 + 0 ≤ _), (by decide : 0 + 0 ≤ _)⟩)
        dsimp only [Pt.U, Pt.locs, Pt.cells, Pt.slots] at X1319 l1319 y1319 z1319 st1319 hQ1319
        subst l1319 y1319 z1319
        rcases hQ1319 with ⟨c1320, rfl, N1321, k1322⟩ | ⟨c1323, c1324, rfl, N1325, k1326⟩ | ⟨c1327, c1328, c1329, rfl, N1330, k1331⟩ | ⟨c1332, c1333, c1334, rfl, N1335, k1336⟩
        · exact absurd c1320 ((by rw [c1142] <;> decide) : ¬ ((p2 &&& (3 : Int32)) = (0 : Int32)))
        · exact absurd c1324 ((by rw [c1142] <;> decide) : ¬ ((p2 &&& (3 : Int32)) = (1 : Int32)))
        · have N1337 := Fr.app N1140 N1330
          obtain ⟨cq1338, kq1338, q1338a, q1338b, q1338c⟩ := isOf hZ k1331 (E_w4.ext O0.2)
          obtain ⟨_, _, ⟨T1338, L1338, k1338, n1338⟩, -, X1338, ⟨Lc1338, hQ1338, l1338, y1338, z1338⟩, st1338⟩ := X1319.virtualBack hx (y := (⟨"com/example/typecheck/typecheck/model/Quantifier", "times", "(Lcom/example/typecheck/typecheck/model/Quantifier;)Lcom/example/typecheck/typecheck/model/Quantifier;"⟩ : MethodName)) (z := (⟨"com/example/typecheck/typecheck/model/Quantifier", "times", "(Lcom/example/typecheck/typecheck/model/Quantifier;)Lcom/example/typecheck/typecheck/model/Quantifier;"⟩ : MethodName)) hown (mvT hZ (own_w hw 9 rfl)) (mvT hZ (own_w hw 10 rfl)) (notFace_of_selects (args := #[]) (mvT hZ (own_w hw 12 rfl))) (mvT hZ (own_w hw 12 rfl)) (mvT hZ (own_w hw 11 rfl)) (by decide) (backOf (W := 0) (rm_times l Z a0 hw [] w4 w3 (0 : Int32) (1 : Int32) (1 : Int32) (1 : Int32) w1 w2 w3 w4 h0 n0 O0 Fm_w4 Fu_w4 Fm_w3 Fu_w3 S_ONE S_OPTIONAL S_ONE_OR_MORE S_ZERO_OR_MORE) hZ (own_w hw 13 rfl) (own_w hw 5 rfl) (by decide) (by decide)) q1338a q1338c (g := (mkF m 24 #[.val (.int p1), .val (.int p2), .val (.int (p1 &&& (3 : Int32))), .val (.int (p2 &&& (3 : Int32))), .val (.ref w4), .val (.ref w3), .unset] [(.ref w3), (.ref w4)])) rfl (by rw [hml]; rfl) (Steps.refl _) (argsL := [(.ref w3)]) (rest := []) (lenOf pd_2 rfl) rfl (by show 2 * 0 + _ ≤ _; exact Nat.le_of_eq rfl) (hb hby at_24) (fun _ _ => ⟨rfl, k1331, (by decide : 0 + 0 ≤ _), (by decide : 0 + 0 ≤ _)⟩)
          dsimp only [Pt.U, Pt.locs, Pt.cells, Pt.slots] at X1338 l1338 y1338 z1338 st1338 hQ1338
          subst l1338 y1338 z1338
          rcases hQ1338 with ⟨c1339, c1340, rfl, N1341, k1342⟩ | ⟨c1343, c1344, rfl, N1345, k1346⟩ | ⟨c1347, c1348, c1349, rfl, N1350, k1351⟩ | ⟨c1352, c1353, c1354, rfl, N1355, k1356⟩ | ⟨c1357, c1358, c1359, rfl, N1360, k1361⟩ | ⟨c1362, c1363, c1364, rfl, N1365, k1366⟩
          · have N1367 := Fr.app N1337 N1341
            obtain ⟨_, _, ⟨T1368, L1368, k1368, n1368⟩, -, X1368, ⟨Lc1368, hQ1368, l1368, y1368, z1368⟩, st1368⟩ := Jvm.LawKit.callS X1338 hx (y := (⟨"com/example/typecheck/typecheck/model/QuantifierTimesPinLaw", "expected", "(II)I"⟩ : MethodName)) hown (mvT hZ (own_w hw 22 rfl)) (mvT hZ (own_w hw 23 rfl)) (mvT hZ (own_w hw 2 rfl)) (mvT hZ (own_w hw 24 rfl)) (by decide) (backOf (W := 1) (rm_exp l Z a0 hw [] (p1 &&& (3 : Int32)) (p2 &&& (3 : Int32)) h0 n0 O0 ) hZ (own_w hw 24 rfl) (own_w hw 2 rfl) (by decide) (by decide)) (g := (mkF m 33 #[.val (.int p1), .val (.int p2), .val (.int (p1 &&& (3 : Int32))), .val (.int (p2 &&& (3 : Int32))), .val (.ref w4), .val (.ref w3), .val (.ref w4)] [(.int (p2 &&& (3 : Int32))), (.int (p1 &&& (3 : Int32))), (.ref w4)])) rfl (by rw [hml]; rfl) (argsL := [(.int (p1 &&& (3 : Int32))), (.int (p2 &&& (3 : Int32)))]) (rest := [(.ref w4)]) (lenOf pd_3 rfl) rfl (by show 2 * 0 + _ ≤ _; exact Nat.le_of_eq rfl) (hb hby at_33) (fun _ _ => ⟨rfl, k1342, (by decide : 0 + 0 ≤ _), (by decide : 0 + 0 ≤ _)⟩)
            dsimp only [Pt.U, Pt.locs, Pt.cells, Pt.slots] at X1368 l1368 y1368 z1368 st1368 hQ1368
            subst l1368 y1368 z1368
            rcases hQ1368 with ⟨c1369, rfl, N1370, k1371⟩ | ⟨c1372, c1373, rfl, N1374, k1375⟩ | ⟨c1376, c1377, c1378, rfl, N1379, k1380⟩ | ⟨c1381, c1382, c1383, rfl, N1384, k1385⟩
            · exact absurd c1369 (c1135 : ¬ ((p1 &&& (3 : Int32)) = (0 : Int32)))
            · exact absurd c1373 (c1327 : ¬ ((p2 &&& (3 : Int32)) = (0 : Int32)))
            · exact absurd c1378 ((by rw [c2, c1329] <;> decide) : ¬ ((p1 &&& (3 : Int32)) = (p2 &&& (3 : Int32))))
            · have N1386 := Fr.app N1367 N1384
              obtain ⟨_, _, ⟨T1387, L1387, k1387, n1387⟩, -, X1387, ⟨Lc1387, hQ1387, l1387, y1387, z1387⟩, st1387⟩ := Jvm.LawKit.callS X1368 hx (y := (⟨"com/example/typecheck/typecheck/model/QuantifierTimesPinLaw", "pick", "(I)Lcom/example/typecheck/typecheck/model/Quantifier;"⟩ : MethodName)) hown (mvT hZ (own_w hw 0 rfl)) (mvT hZ (own_w hw 1 rfl)) (mvT hZ (own_w hw 2 rfl)) (mvT hZ (own_w hw 3 rfl)) (by decide) (backOf (W := 1) (rm_pick l Z a0 hw [] (3 : Int32) w1 w2 w3 w4 h0 n0 O0 S_ONE S_OPTIONAL S_ONE_OR_MORE S_ZERO_OR_MORE) hZ (own_w hw 3 rfl) (own_w hw 2 rfl) (by decide) (by decide)) (g := (mkF m 36 #[.val (.int p1), .val (.int p2), .val (.int (p1 &&& (3 : Int32))), .val (.int (p2 &&& (3 : Int32))), .val (.ref w4), .val (.ref w3), .val (.ref w4)] [(.int (3 : Int32)), (.ref w4)])) rfl (by rw [hml]; rfl) (argsL := [(.int (3 : Int32))]) (rest := [(.ref w4)]) (lenOf pd_1 rfl) rfl (by show 2 * 0 + _ ≤ _; exact Nat.le_of_eq rfl) (hb hby at_36) (fun _ _ => ⟨rfl, k1385, (by decide : 0 + 0 ≤ _), (by decide : 0 + 0 ≤ _)⟩)
              dsimp only [Pt.U, Pt.locs, Pt.cells, Pt.slots] at X1387 l1387 y1387 z1387 st1387 hQ1387
              subst l1387 y1387 z1387
              rcases hQ1387 with ⟨c1388, rfl, N1389, k1390⟩ | ⟨c1391, c1392, rfl, N1393, k1394⟩ | ⟨c1395, c1396, c1397, rfl, N1398, k1399⟩ | ⟨c1400, c1401, c1402, rfl, N1403, k1404⟩
              · exact absurd c1388 ((by decide) : ¬ ((3 : Int32) = (0 : Int32)))
              · exact absurd c1392 ((by decide) : ¬ ((3 : Int32) = (1 : Int32)))
              · exact absurd c1397 ((by decide) : ¬ ((3 : Int32) = (2 : Int32)))
              · have N1405 := Fr.app N1386 N1403
                have S1406 : ∀ t, Steps p.tables e below (T1387.setTop (mkF m 47 #[.val (.int p1), .val (.int p2), .val (.int (p1 &&& (3 : Int32))), .val (.int (p2 &&& (3 : Int32))), .val (.ref w4), .val (.ref w3), .val (.ref w4)] [(.int (1 : Int32))])) t → Steps p.tables e below (s₁.setTop (mkF m 0 #[.val (.int p1), .val (.int p2), .unset, .unset, .unset, .unset, .unset] [])) t := by
                  intro t kt
                  refine S1141 t ?_
                  refine XS.iloadN X1122.here hx rfl (hb hby at_14) rfl ?_
                  show Steps p.tables e below (T1122.setTop (mkF m 15 #[.val (.int p1), .val (.int p2), .val (.int (p1 &&& (3 : Int32))), .val (.int (p2 &&& (3 : Int32))), .val (.ref w4), .unset, .unset] [(.int (p2 &&& (3 : Int32)))])) _
                  refine st1319 _ ?_
                  refine XS.astore X1319.here hx rfl (hb hby at_18) rfl rfl (l' := #[.val (.int p1), .val (.int p2), .val (.int (p1 &&& (3 : Int32))), .val (.int (p2 &&& (3 : Int32))), .val (.ref w4), .val (.ref w3), .unset]) rfl ?_
                  refine XS.aload X1319.here hx rfl (hb hby at_20) rfl rfl ?_
                  refine XS.aload X1319.here hx rfl (hb hby at_22) rfl rfl ?_
                  show Steps p.tables e below (T1319.setTop (mkF m 24 #[.val (.int p1), .val (.int p2), .val (.int (p1 &&& (3 : Int32))), .val (.int (p2 &&& (3 : Int32))), .val (.ref w4), .val (.ref w3), .unset] [(.ref w3), (.ref w4)])) _
                  refine st1338.trans ?_
                  refine XS.astore X1338.here hx rfl (hb hby at_27) rfl rfl (l' := #[.val (.int p1), .val (.int p2), .val (.int (p1 &&& (3 : Int32))), .val (.int (p2 &&& (3 : Int32))), .val (.ref w4), .val (.ref w3), .val (.ref w4)]) rfl ?_
                  refine XS.aload X1338.here hx rfl (hb hby at_29) rfl rfl ?_
                  refine XS.iloadN X1338.here hx rfl (hb hby at_31) rfl ?_
                  refine XS.iloadN X1338.here hx rfl (hb hby at_32) rfl ?_
                  show Steps p.tables e below (T1338.setTop (mkF m 33 #[.val (.int p1), .val (.int p2), .val (.int (p1 &&& (3 : Int32))), .val (.int (p2 &&& (3 : Int32))), .val (.ref w4), .val (.ref w3), .val (.ref w4)] [(.int (p2 &&& (3 : Int32))), (.int (p1 &&& (3 : Int32))), (.ref w4)])) _
                  refine st1368 _ ?_
                  show Steps p.tables e below (T1368.setTop (mkF m 36 #[.val (.int p1), .val (.int p2), .val (.int (p1 &&& (3 : Int32))), .val (.int (p2 &&& (3 : Int32))), .val (.ref w4), .val (.ref w3), .val (.ref w4)] [(.int (3 : Int32)), (.ref w4)])) _
                  refine st1387 _ ?_
                  show Steps p.tables e below (T1387.setTop (mkF m 39 #[.val (.int p1), .val (.int p2), .val (.int (p1 &&& (3 : Int32))), .val (.int (p2 &&& (3 : Int32))), .val (.ref w4), .val (.ref w3), .val (.ref w4)] [(.ref w4), (.ref w4)])) _
                  refine Jvm.RoadKit.acmp (g := (mkF m 39 #[.val (.int p1), .val (.int p2), .val (.int (p1 &&& (3 : Int32))), .val (.int (p2 &&& (3 : Int32))), .val (.ref w4), .val (.ref w3), .val (.ref w4)] [(.ref w4), (.ref w4)])) X1387 hx rfl rfl rfl (pc0 := 39) (pc' := 42) (same := true) rfl (hb hby at_39) rfl (decide_eq_true rfl) (by decide) (by decide) ?_
                  refine XS.iconst X1387.here hx rfl (hb hby at_42) ?_
                  refine XS.goto X1387.here hx rfl (pc0 := 43) (pc' := 47) rfl (hb hby at_43) (by decide) (by decide) ?_
                  exact kt
                obtain ⟨fs, hr, hrun, hended, hW, hsame⟩ := X1387.leave (v := some (.int (1 : Int32))) (fun h => by rw [Bd.returns] at h; cases h)
                refine ⟨_, _, pre0 _ (S1406 _ ?_), hrun, hended, _, _, rfl, ?_, ⟨_, rfl⟩, hW, hsame.mono (by decide) (by decide)⟩
                · exact retN X1387 hx (t := .boolean) Bd.returns (by simp) (hb hby at_47) hr
                · show Q_rm_law Z p1 p2 w1 w2 w3 w4 h0 n0 _ T1387.heap _
                  rw [k1404]
                  exact ⟨rfl, N1405⟩
          · exact absurd ((by decide) : ((0 : Int32) * (1 : Int32)) = (0 : Int32)) c1344
          · exact absurd c1347 ((by decide) : ¬ ((1 : Int32) = (0 : Int32)))
          · exact absurd c1352 ((by decide) : ¬ ((1 : Int32) = (0 : Int32)))
          · exact absurd c1357 ((by decide) : ¬ ((1 : Int32) = (0 : Int32)))
          · exact absurd c1362 ((by decide) : ¬ ((1 : Int32) = (0 : Int32)))
        · exact absurd (c1142 : (p2 &&& (3 : Int32)) = (2 : Int32)) c1334
      · obtain ⟨_, _, ⟨T1407, L1407, k1407, n1407⟩, -, X1407, ⟨Lc1407, hQ1407, l1407, y1407, z1407⟩, st1407⟩ := Jvm.LawKit.callS X1122 hx (y := (⟨"com/example/typecheck/typecheck/model/QuantifierTimesPinLaw", "pick", "(I)Lcom/example/typecheck/typecheck/model/Quantifier;"⟩ : MethodName)) hown (mvT hZ (own_w hw 0 rfl)) (mvT hZ (own_w hw 1 rfl)) (mvT hZ (own_w hw 2 rfl)) (mvT hZ (own_w hw 3 rfl)) (by decide) (backOf (W := 0) (rm_pick l Z a0 hw [] (p2 &&& (3 : Int32)) w1 w2 w3 w4 h0 n0 O0 S_ONE S_OPTIONAL S_ONE_OR_MORE S_ZERO_OR_MORE) hZ (own_w hw 3 rfl) (own_w hw 2 rfl) (by decide) (by decide)) (g := (mkF m 15 #[.val (.int p1), .val (.int p2), .val (.int (p1 &&& (3 : Int32))), .val (.int (p2 &&& (3 : Int32))), .val (.ref w4), .unset, .unset] [(.int (p2 &&& (3 : Int32)))])) rfl (by rw [hml]; rfl) (argsL := [(.int (p2 &&& (3 : Int32)))]) (rest := []) (lenOf pd_1 rfl) rfl (by show 2 * 0 + _ ≤ _; exact Nat.le_of_eq rfl) (hb hby at_15) (fun _ _ => ⟨rfl, k1139, (by decide : 0 + 0 ≤ _), (by decide : 0 + 0 ≤ _)⟩)
        dsimp only [Pt.U, Pt.locs, Pt.cells, Pt.slots] at X1407 l1407 y1407 z1407 st1407 hQ1407
        subst l1407 y1407 z1407
        rcases hQ1407 with ⟨c1408, rfl, N1409, k1410⟩ | ⟨c1411, c1412, rfl, N1413, k1414⟩ | ⟨c1415, c1416, c1417, rfl, N1418, k1419⟩ | ⟨c1420, c1421, c1422, rfl, N1423, k1424⟩
        · exact absurd c1408 ((by rw [c1142] <;> decide) : ¬ ((p2 &&& (3 : Int32)) = (0 : Int32)))
        · exact absurd c1412 ((by rw [c1142] <;> decide) : ¬ ((p2 &&& (3 : Int32)) = (1 : Int32)))
        · exact absurd c1417 ((by rw [c1142] <;> decide) : ¬ ((p2 &&& (3 : Int32)) = (2 : Int32)))
        · have N1425 := Fr.app N1140 N1423
          obtain ⟨cq1426, kq1426, q1426a, q1426b, q1426c⟩ := isOf hZ k1424 (E_w4.ext O0.2)
          obtain ⟨_, _, ⟨T1426, L1426, k1426, n1426⟩, -, X1426, ⟨Lc1426, hQ1426, l1426, y1426, z1426⟩, st1426⟩ := X1407.virtualBack hx (y := (⟨"com/example/typecheck/typecheck/model/Quantifier", "times", "(Lcom/example/typecheck/typecheck/model/Quantifier;)Lcom/example/typecheck/typecheck/model/Quantifier;"⟩ : MethodName)) (z := (⟨"com/example/typecheck/typecheck/model/Quantifier", "times", "(Lcom/example/typecheck/typecheck/model/Quantifier;)Lcom/example/typecheck/typecheck/model/Quantifier;"⟩ : MethodName)) hown (mvT hZ (own_w hw 9 rfl)) (mvT hZ (own_w hw 10 rfl)) (notFace_of_selects (args := #[]) (mvT hZ (own_w hw 12 rfl))) (mvT hZ (own_w hw 12 rfl)) (mvT hZ (own_w hw 11 rfl)) (by decide) (backOf (W := 0) (rm_times l Z a0 hw [] w4 w4 (0 : Int32) (1 : Int32) (0 : Int32) (1 : Int32) w1 w2 w3 w4 h0 n0 O0 Fm_w4 Fu_w4 Fm_w4 Fu_w4 S_ONE S_OPTIONAL S_ONE_OR_MORE S_ZERO_OR_MORE) hZ (own_w hw 13 rfl) (own_w hw 5 rfl) (by decide) (by decide)) q1426a q1426c (g := (mkF m 24 #[.val (.int p1), .val (.int p2), .val (.int (p1 &&& (3 : Int32))), .val (.int (p2 &&& (3 : Int32))), .val (.ref w4), .val (.ref w4), .unset] [(.ref w4), (.ref w4)])) rfl (by rw [hml]; rfl) (Steps.refl _) (argsL := [(.ref w4)]) (rest := []) (lenOf pd_2 rfl) rfl (by show 2 * 0 + _ ≤ _; exact Nat.le_of_eq rfl) (hb hby at_24) (fun _ _ => ⟨rfl, k1424, (by decide : 0 + 0 ≤ _), (by decide : 0 + 0 ≤ _)⟩)
          dsimp only [Pt.U, Pt.locs, Pt.cells, Pt.slots] at X1426 l1426 y1426 z1426 st1426 hQ1426
          subst l1426 y1426 z1426
          rcases hQ1426 with ⟨c1427, c1428, rfl, N1429, k1430⟩ | ⟨c1431, c1432, rfl, N1433, k1434⟩ | ⟨c1435, c1436, c1437, rfl, N1438, k1439⟩ | ⟨c1440, c1441, c1442, rfl, N1443, k1444⟩ | ⟨c1445, c1446, c1447, rfl, N1448, k1449⟩ | ⟨c1450, c1451, c1452, rfl, N1453, k1454⟩
          · have N1455 := Fr.app N1425 N1429
            obtain ⟨_, _, ⟨T1456, L1456, k1456, n1456⟩, -, X1456, ⟨Lc1456, hQ1456, l1456, y1456, z1456⟩, st1456⟩ := Jvm.LawKit.callS X1426 hx (y := (⟨"com/example/typecheck/typecheck/model/QuantifierTimesPinLaw", "expected", "(II)I"⟩ : MethodName)) hown (mvT hZ (own_w hw 22 rfl)) (mvT hZ (own_w hw 23 rfl)) (mvT hZ (own_w hw 2 rfl)) (mvT hZ (own_w hw 24 rfl)) (by decide) (backOf (W := 1) (rm_exp l Z a0 hw [] (p1 &&& (3 : Int32)) (p2 &&& (3 : Int32)) h0 n0 O0 ) hZ (own_w hw 24 rfl) (own_w hw 2 rfl) (by decide) (by decide)) (g := (mkF m 33 #[.val (.int p1), .val (.int p2), .val (.int (p1 &&& (3 : Int32))), .val (.int (p2 &&& (3 : Int32))), .val (.ref w4), .val (.ref w4), .val (.ref w4)] [(.int (p2 &&& (3 : Int32))), (.int (p1 &&& (3 : Int32))), (.ref w4)])) rfl (by rw [hml]; rfl) (argsL := [(.int (p1 &&& (3 : Int32))), (.int (p2 &&& (3 : Int32)))]) (rest := [(.ref w4)]) (lenOf pd_3 rfl) rfl (by show 2 * 0 + _ ≤ _; exact Nat.le_of_eq rfl) (hb hby at_33) (fun _ _ => ⟨rfl, k1430, (by decide : 0 + 0 ≤ _), (by decide : 0 + 0 ≤ _)⟩)
            dsimp only [Pt.U, Pt.locs, Pt.cells, Pt.slots] at X1456 l1456 y1456 z1456 st1456 hQ1456
            subst l1456 y1456 z1456
            rcases hQ1456 with ⟨c1457, rfl, N1458, k1459⟩ | ⟨c1460, c1461, rfl, N1462, k1463⟩ | ⟨c1464, c1465, c1466, rfl, N1467, k1468⟩ | ⟨c1469, c1470, c1471, rfl, N1472, k1473⟩
            · exact absurd c1457 (c1135 : ¬ ((p1 &&& (3 : Int32)) = (0 : Int32)))
            · exact absurd c1461 (c1420 : ¬ ((p2 &&& (3 : Int32)) = (0 : Int32)))
            · have N1474 := Fr.app N1455 N1467
              obtain ⟨_, _, ⟨T1475, L1475, k1475, n1475⟩, -, X1475, ⟨Lc1475, hQ1475, l1475, y1475, z1475⟩, st1475⟩ := Jvm.LawKit.callS X1456 hx (y := (⟨"com/example/typecheck/typecheck/model/QuantifierTimesPinLaw", "pick", "(I)Lcom/example/typecheck/typecheck/model/Quantifier;"⟩ : MethodName)) hown (mvT hZ (own_w hw 0 rfl)) (mvT hZ (own_w hw 1 rfl)) (mvT hZ (own_w hw 2 rfl)) (mvT hZ (own_w hw 3 rfl)) (by decide) (backOf (W := 1) (rm_pick l Z a0 hw [] (p1 &&& (3 : Int32)) w1 w2 w3 w4 h0 n0 O0 S_ONE S_OPTIONAL S_ONE_OR_MORE S_ZERO_OR_MORE) hZ (own_w hw 3 rfl) (own_w hw 2 rfl) (by decide) (by decide)) (g := (mkF m 36 #[.val (.int p1), .val (.int p2), .val (.int (p1 &&& (3 : Int32))), .val (.int (p2 &&& (3 : Int32))), .val (.ref w4), .val (.ref w4), .val (.ref w4)] [(.int (p1 &&& (3 : Int32))), (.ref w4)])) rfl (by rw [hml]; rfl) (argsL := [(.int (p1 &&& (3 : Int32)))]) (rest := [(.ref w4)]) (lenOf pd_1 rfl) rfl (by show 2 * 0 + _ ≤ _; exact Nat.le_of_eq rfl) (hb hby at_36) (fun _ _ => ⟨rfl, k1468, (by decide : 0 + 0 ≤ _), (by decide : 0 + 0 ≤ _)⟩)
              dsimp only [Pt.U, Pt.locs, Pt.cells, Pt.slots] at X1475 l1475 y1475 z1475 st1475 hQ1475
              subst l1475 y1475 z1475
              rcases hQ1475 with ⟨c1476, rfl, N1477, k1478⟩ | ⟨c1479, c1480, rfl, N1481, k1482⟩ | ⟨c1483, c1484, c1485, rfl, N1486, k1487⟩ | ⟨c1488, c1489, c1490, rfl, N1491, k1492⟩
              · exact absurd c1476 (c1464 : ¬ ((p1 &&& (3 : Int32)) = (0 : Int32)))
              · exact absurd c1480 (c1136 : ¬ ((p1 &&& (3 : Int32)) = (1 : Int32)))
              · exact absurd c1485 (c1137 : ¬ ((p1 &&& (3 : Int32)) = (2 : Int32)))
              · have N1493 := Fr.app N1474 N1491
                have S1494 : ∀ t, Steps p.tables e below (T1475.setTop (mkF m 47 #[.val (.int p1), .val (.int p2), .val (.int (p1 &&& (3 : Int32))), .val (.int (p2 &&& (3 : Int32))), .val (.ref w4), .val (.ref w4), .val (.ref w4)] [(.int (1 : Int32))])) t → Steps p.tables e below (s₁.setTop (mkF m 0 #[.val (.int p1), .val (.int p2), .unset, .unset, .unset, .unset, .unset] [])) t := by
                  intro t kt
                  refine S1141 t ?_
                  refine XS.iloadN X1122.here hx rfl (hb hby at_14) rfl ?_
                  show Steps p.tables e below (T1122.setTop (mkF m 15 #[.val (.int p1), .val (.int p2), .val (.int (p1 &&& (3 : Int32))), .val (.int (p2 &&& (3 : Int32))), .val (.ref w4), .unset, .unset] [(.int (p2 &&& (3 : Int32)))])) _
                  refine st1407 _ ?_
                  refine XS.astore X1407.here hx rfl (hb hby at_18) rfl rfl (l' := #[.val (.int p1), .val (.int p2), .val (.int (p1 &&& (3 : Int32))), .val (.int (p2 &&& (3 : Int32))), .val (.ref w4), .val (.ref w4), .unset]) rfl ?_
                  refine XS.aload X1407.here hx rfl (hb hby at_20) rfl rfl ?_
                  refine XS.aload X1407.here hx rfl (hb hby at_22) rfl rfl ?_
                  show Steps p.tables e below (T1407.setTop (mkF m 24 #[.val (.int p1), .val (.int p2), .val (.int (p1 &&& (3 : Int32))), .val (.int (p2 &&& (3 : Int32))), .val (.ref w4), .val (.ref w4), .unset] [(.ref w4), (.ref w4)])) _
                  refine st1426.trans ?_
                  refine XS.astore X1426.here hx rfl (hb hby at_27) rfl rfl (l' := #[.val (.int p1), .val (.int p2), .val (.int (p1 &&& (3 : Int32))), .val (.int (p2 &&& (3 : Int32))), .val (.ref w4), .val (.ref w4), .val (.ref w4)]) rfl ?_
                  refine XS.aload X1426.here hx rfl (hb hby at_29) rfl rfl ?_
                  refine XS.iloadN X1426.here hx rfl (hb hby at_31) rfl ?_
                  refine XS.iloadN X1426.here hx rfl (hb hby at_32) rfl ?_
                  show Steps p.tables e below (T1426.setTop (mkF m 33 #[.val (.int p1), .val (.int p2), .val (.int (p1 &&& (3 : Int32))), .val (.int (p2 &&& (3 : Int32))), .val (.ref w4), .val (.ref w4), .val (.ref w4)] [(.int (p2 &&& (3 : Int32))), (.int (p1 &&& (3 : Int32))), (.ref w4)])) _
                  refine st1456 _ ?_
                  show Steps p.tables e below (T1456.setTop (mkF m 36 #[.val (.int p1), .val (.int p2), .val (.int (p1 &&& (3 : Int32))), .val (.int (p2 &&& (3 : Int32))), .val (.ref w4), .val (.ref w4), .val (.ref w4)] [(.int (p1 &&& (3 : Int32))), (.ref w4)])) _
                  refine st1475 _ ?_
                  show Steps p.tables e below (T1475.setTop (mkF m 39 #[.val (.int p1), .val (.int p2), .val (.int (p1 &&& (3 : Int32))), .val (.int (p2 &&& (3 : Int32))), .val (.ref w4), .val (.ref w4), .val (.ref w4)] [(.ref w4), (.ref w4)])) _
                  refine Jvm.RoadKit.acmp (g := (mkF m 39 #[.val (.int p1), .val (.int p2), .val (.int (p1 &&& (3 : Int32))), .val (.int (p2 &&& (3 : Int32))), .val (.ref w4), .val (.ref w4), .val (.ref w4)] [(.ref w4), (.ref w4)])) X1475 hx rfl rfl rfl (pc0 := 39) (pc' := 42) (same := true) rfl (hb hby at_39) rfl (decide_eq_true rfl) (by decide) (by decide) ?_
                  refine XS.iconst X1475.here hx rfl (hb hby at_42) ?_
                  refine XS.goto X1475.here hx rfl (pc0 := 43) (pc' := 47) rfl (hb hby at_43) (by decide) (by decide) ?_
                  exact kt
                obtain ⟨fs, hr, hrun, hended, hW, hsame⟩ := X1475.leave (v := some (.int (1 : Int32))) (fun h => by rw [Bd.returns] at h; cases h)
                refine ⟨_, _, pre0 _ (S1494 _ ?_), hrun, hended, _, _, rfl, ?_, ⟨_, rfl⟩, hW, hsame.mono (by decide) (by decide)⟩
                · exact retN X1475 hx (t := .boolean) Bd.returns (by simp) (hb hby at_47) hr
                · show Q_rm_law Z p1 p2 w1 w2 w3 w4 h0 n0 _ T1475.heap _
                  rw [k1492]
                  exact ⟨rfl, N1493⟩
            · exact absurd ((by rw [c2, c1142] <;> decide) : (p1 &&& (3 : Int32)) = (p2 &&& (3 : Int32))) c1471
          · exact absurd ((by decide) : ((0 : Int32) * (0 : Int32)) = (0 : Int32)) c1432
          · exact absurd c1435 ((by decide) : ¬ ((1 : Int32) = (0 : Int32)))
          · exact absurd c1440 ((by decide) : ¬ ((1 : Int32) = (0 : Int32)))
          · exact absurd c1445 ((by decide) : ¬ ((1 : Int32) = (0 : Int32)))
          · exact absurd c1450 ((by decide) : ¬ ((1 : Int32) = (0 : Int32)))
set_option maxRecDepth 65536 in
set_option maxHeartbeats 40000000 in
theorem comes_1 {Post : Tables → Env → Array Value → State → Outcome → State → Prop} (hpost : ∀ tb e args s v u, (limb_1_1.after args s (.returned v) u = true ∧ limb_1_2.after args s (.returned v) u = true ∧ True) → FrameEnd s (.returned v) u (Jvm.fieldLocs frame_1_writes args s ++ Jvm.arrayLocs frame_1_arrays args s ++ Jvm.staticLocs frame_1_statics s) 0 0 → Post tb e args s (.returned v) u) :
    ArmFor flags0 classFile x code maxLocals ret World_1 tables_1 room_1 Calls_1 rest_1 Pre_1 Post := by
  intro l hfl _ _ p e ha hc hk s m args below hf hA hF happ hP
  obtain ⟨hcalls, hrest, hpre⟩ := hP
  obtain ⟨-, -, -, hnamed, -, -, -, hat⟩ := (Spec.applies_iff hf).mp happ
  obtain ⟨hg, hn⟩ := and_e (Cond.before_iff.mp (show (Jvm.Cond.and given_1 narrow_1).before args s = true from hpre))
  obtain ⟨g0, r0⟩ := and_e hg
  obtain ⟨g1, r1⟩ := and_e r0
  obtain ⟨w0, w1, rfl⟩ : ∃ w0 w1 : Value, args = #[w0, w1] := by
    have hs : args.size = 2 := by simpa [Cond.value, given_1] using g0
    obtain ⟨L⟩ := args
    match L, hs with
    | [w0, w1], _ => exact ⟨w0, w1, rfl⟩
  have hw := fun d (hd : d ∈ tables_1) => atoms_spec (ws := Jvm.Cond.code x code maxLocals ret :: tables_1) hat d (List.mem_cons_of_mem _ hd)
  have hfit : Fit s := fun {y c} hc i hi => by
    obtain ⟨ha, rfl⟩ := Array.getElem?_eq_some_iff.mp hc
    have q := List.all_eq_true.mp ((Array.all_eq_true_iff_forall_mem.mp hF) _ (Array.getElem_mem ha)) i (List.mem_range.mpr hi)
    simpa [Array.getElem?_eq_getElem hi] using q
  obtain ⟨i0, e0⟩ := is_v g1
  obtain rfl : w0 = (.int i0) := Option.some.inj e0
  obtain ⟨i1, e1⟩ := is_v r1
  obtain rfl : w1 = (.int i1) := Option.some.inj e1
  obtain ⟨n0, m0⟩ := and_e hn
  obtain ⟨n1, m1⟩ := and_e m0
  obtain ⟨n2, m2⟩ := and_e m1
  obtain ⟨n3, m3⟩ := and_e m2
  obtain ⟨n4, m4⟩ := and_e m3
  obtain ⟨n5, m5⟩ := and_e m4
  obtain ⟨n6, m6⟩ := and_e m5
  obtain ⟨n7, m7⟩ := and_e m6
  obtain ⟨n8, m8⟩ := and_e m7
  obtain ⟨n9, m9⟩ := and_e m8
  obtain ⟨n10, m10⟩ := and_e m9
  obtain ⟨w_Quantifier_ONE, ev_w_Quantifier_ONE⟩ := exa_v n0
  have E_w_Quantifier_ONE : Exa s s.heap w_Quantifier_ONE "com/example/typecheck/typecheck/model/Quantifier" := Exa.start ev_w_Quantifier_ONE n0
  have S_w_Quantifier_ONE : Sta s s.heap "com/example/typecheck/typecheck/model/Quantifier" "ONE" "Lcom/example/typecheck/typecheck/model/Quantifier;" (.ref w_Quantifier_ONE) := Sta.start ev_w_Quantifier_ONE (Or.inr ⟨(own_w hw 5 rfl), (own_w hw 6 rfl)⟩)
  obtain ⟨w_Quantifier_ZERO_OR_MORE, ev_w_Quantifier_ZERO_OR_MORE⟩ := exa_v n1
  have E_w_Quantifier_ZERO_OR_MORE : Exa s s.heap w_Quantifier_ZERO_OR_MORE "com/example/typecheck/typecheck/model/Quantifier" := Exa.start ev_w_Quantifier_ZERO_OR_MORE n1
  have S_w_Quantifier_ZERO_OR_MORE : Sta s s.heap "com/example/typecheck/typecheck/model/Quantifier" "ZERO_OR_MORE" "Lcom/example/typecheck/typecheck/model/Quantifier;" (.ref w_Quantifier_ZERO_OR_MORE) := Sta.start ev_w_Quantifier_ZERO_OR_MORE (Or.inr ⟨(own_w hw 5 rfl), (own_w hw 8 rfl)⟩)
  obtain ⟨w_Quantifier_ONE_OR_MORE, ev_w_Quantifier_ONE_OR_MORE⟩ := exa_v n6
  have E_w_Quantifier_ONE_OR_MORE : Exa s s.heap w_Quantifier_ONE_OR_MORE "com/example/typecheck/typecheck/model/Quantifier" := Exa.start ev_w_Quantifier_ONE_OR_MORE n6
  have S_w_Quantifier_ONE_OR_MORE : Sta s s.heap "com/example/typecheck/typecheck/model/Quantifier" "ONE_OR_MORE" "Lcom/example/typecheck/typecheck/model/Quantifier;" (.ref w_Quantifier_ONE_OR_MORE) := Sta.start ev_w_Quantifier_ONE_OR_MORE (Or.inr ⟨(own_w hw 5 rfl), (own_w hw 26 rfl)⟩)
  obtain ⟨w_Quantifier_OPTIONAL, ev_w_Quantifier_OPTIONAL⟩ := exa_v n7
  have E_w_Quantifier_OPTIONAL : Exa s s.heap w_Quantifier_OPTIONAL "com/example/typecheck/typecheck/model/Quantifier" := Exa.start ev_w_Quantifier_OPTIONAL n7
  have S_w_Quantifier_OPTIONAL : Sta s s.heap "com/example/typecheck/typecheck/model/Quantifier" "OPTIONAL" "Lcom/example/typecheck/typecheck/model/Quantifier;" (.ref w_Quantifier_OPTIONAL) := Sta.start ev_w_Quantifier_OPTIONAL (Or.inr ⟨(own_w hw 5 rfl), (own_w hw 28 rfl)⟩)
  have F_w_Quantifier_ONE_minimum : Fld s s.heap w_Quantifier_ONE "com/example/typecheck/typecheck/model/Quantifier" "minimum" "I" (.int (1 : Int32)) := Fld.start (own_fldI ev_w_Quantifier_ONE n2)
  have F_w_Quantifier_ZERO_OR_MORE_minimum : Fld s s.heap w_Quantifier_ZERO_OR_MORE "com/example/typecheck/typecheck/model/Quantifier" "minimum" "I" (.int (0 : Int32)) := Fld.start (own_fldI ev_w_Quantifier_ZERO_OR_MORE n3)
  have F_w_Quantifier_ONE_unbounded : Fld s s.heap w_Quantifier_ONE "com/example/typecheck/typecheck/model/Quantifier" "unbounded" "Z" (.int (0 : Int32)) := Fld.start (own_fldI ev_w_Quantifier_ONE n4)
  have F_w_Quantifier_ZERO_OR_MORE_unbounded : Fld s s.heap w_Quantifier_ZERO_OR_MORE "com/example/typecheck/typecheck/model/Quantifier" "unbounded" "Z" (.int (1 : Int32)) := Fld.start (own_fldI ev_w_Quantifier_ZERO_OR_MORE n5)
  have F_w_Quantifier_ONE_OR_MORE_minimum : Fld s s.heap w_Quantifier_ONE_OR_MORE "com/example/typecheck/typecheck/model/Quantifier" "minimum" "I" (.int (1 : Int32)) := Fld.start (own_fldI ev_w_Quantifier_ONE_OR_MORE n8)
  have F_w_Quantifier_OPTIONAL_minimum : Fld s s.heap w_Quantifier_OPTIONAL "com/example/typecheck/typecheck/model/Quantifier" "minimum" "I" (.int (0 : Int32)) := Fld.start (own_fldI ev_w_Quantifier_OPTIONAL n9)
  have F_w_Quantifier_ONE_OR_MORE_unbounded : Fld s s.heap w_Quantifier_ONE_OR_MORE "com/example/typecheck/typecheck/model/Quantifier" "unbounded" "Z" (.int (1 : Int32)) := Fld.start (own_fldI ev_w_Quantifier_ONE_OR_MORE n10)
  have F_w_Quantifier_OPTIONAL_unbounded : Fld s s.heap w_Quantifier_OPTIONAL "com/example/typecheck/typecheck/model/Quantifier" "unbounded" "Z" (.int (0 : Int32)) := Fld.start (own_fldI ev_w_Quantifier_OPTIONAL m10)
  obtain ⟨n, o, h1, h2, h3, _, L, rfl, ⟨rfl, N⟩, hq⟩ := rm_law l s _ hw tables_1 i0 i1 w_Quantifier_ONE w_Quantifier_OPTIONAL w_Quantifier_ONE_OR_MORE w_Quantifier_ZERO_OR_MORE s.heap s.heap.size (Old.start s) S_w_Quantifier_ONE S_w_Quantifier_OPTIONAL S_w_Quantifier_ONE_OR_MORE S_w_Quantifier_ZERO_OR_MORE E_w_Quantifier_ONE E_w_Quantifier_OPTIONAL E_w_Quantifier_ONE_OR_MORE E_w_Quantifier_ZERO_OR_MORE F_w_Quantifier_ONE_minimum F_w_Quantifier_ONE_unbounded F_w_Quantifier_OPTIONAL_minimum F_w_Quantifier_OPTIONAL_unbounded F_w_Quantifier_ONE_OR_MORE_minimum F_w_Quantifier_ONE_OR_MORE_unbounded F_w_Quantifier_ZERO_OR_MORE_minimum F_w_Quantifier_ZERO_OR_MORE_unbounded p e ha hc hk s m _ below hf ((Spec.applies_iff_loose hf).mp happ).1 ⟨rfl, State.Warmed39.refl s, rfl⟩ trivial
  refine ⟨n, _, h1, h2, h3, hpost _ _ _ _ _ _ ⟨Cond.after_iff.mpr rfl, Cond.after_iff.mpr (eq_i res_at (Term.int_eval (1)) rfl), trivial⟩ ⟨hq.1, hq.2.1, (hq.2.2.sift fun y hy => Or.inr (N y hy)).mono (by decide) (by decide)⟩⟩
theorem main_1_1 : Claimed_1_1 := comes_1 fun _ _ _ _ _ _ h hF => ⟨h.1, hF⟩
theorem main_1_2 : Claimed_1_2 := comes_1 fun _ _ _ _ _ _ h hF => ⟨h.2.1, hF⟩
end Jvm.Pilot.@@N@@
namespace Jvm.Pilot.@@N@@
open Jvm Jvm.ClassFile Sem Op Lib Jvm.Free Jvm.Stand Jvm.Pilot.@@N@@.Jvm.D
/-! MADE BY PROGRAM (witnessworld.py) out of the Statement's table words and the real class files: 12 classes; the members and pool entries that the words name. The judged class is class 1, her method 3. -/
namespace start1
open Jvm.ClassFile
def u (s : String) : CpInfo := .utf8 (stringToUtf16 s)
/-- a pool by its gaps: so many unusable entries, then the entry; so many at the end -/
def gap : Nat → List CpInfo → List CpInfo
  | 0, r => r
  | n + 1, r => .unusable :: gap n r
def poolList (es : List (Nat × CpInfo)) (last : Nat) : List CpInfo := es.foldr (fun e r => gap e.1 (e.2 :: r)) (gap last [])
def pool (es : List (Nat × CpInfo)) (last : Nat) : Array CpInfo := ⟨poolList es last⟩
def fileOf (pool : Array CpInfo) (this : Nat) (attrs : Array Attribute := #[]) (ms : Array MethodInfo := #[]) (fl : Nat := 33) (sup : Nat := 0) (ifs : Array Nat := #[]) (fds : Array FieldInfo := #[]) : ClassFile where
  minorVersion := 0
  majorVersion := 65
  constantPool := pool
  accessFlags := fl
  thisClass := this
  superClass := sup
  interfaces := ifs
  fields := fds
  methods := ms
  attributes := attrs
def plain (name : String) (sup : Option ClassId) : Class where
  name := name
  kind := .ordinary
  loader := none
  accessFlags := 33
  super := sup
  interfaces := #[]
  cf := none
  fields := #[]
  methods := #[]
  instanceTypes := #[]
  staticTypes := #[]
  resolved := #[]
  callSites := []
  init := .initialized
  statics := none
  mirror := none

def pool0 : Array CpInfo := pool [(5, u "<init>"), (0, u "()V"), (1, .class_ 10), (1, u "java/lang/Object")] 113

def k0m0 : Method := { name := "<init>", desc := "()V", sig := { parameters := [], returnType := none }, accessFlags := 1, code := none }
/-- java/lang/Object -/
def k0 : Class := { plain "java/lang/Object" none with
  accessFlags := 33
  interfaces := #[]
  cf := some (fileOf pool0 8 #[] #[{ accessFlags := 1, nameIndex := 5, descriptorIndex := 6, attributes := #[] }] 33 0 #[] #[])
  fields := #[]
  methods := #[k0m0]
  instanceTypes := #[]
  staticTypes := #[]
  resolved := Array.replicate 124 none
  statics := none }

def pool1 : Array CpInfo := pool [(2, .class_ 4), (1, u "java/lang/Object"), (0, u "<init>"), (0, u "()V"), (0, .fieldref 8 9), (0, .class_ 10), (0, .nameAndType 11 12), (0, u "com/example/typecheck/typecheck/model/Quantifier"), (0, u "ONE"), (0, u "Lcom/example/typecheck/typecheck/model/Quantifier;"), (0, .fieldref 8 14), (0, .nameAndType 15 12), (0, u "OPTIONAL"), (0, .fieldref 8 17), (0, .nameAndType 18 12), (0, u "ONE_OR_MORE"), (0, .fieldref 8 20), (0, .nameAndType 21 12), (0, u "ZERO_OR_MORE"), (0, .methodref 23 24), (0, .class_ 25), (0, .nameAndType 26 27), (0, u "com/example/typecheck/typecheck/model/QuantifierTimesPinLaw"), (0, u "pick"), (0, u "(I)Lcom/example/typecheck/typecheck/model/Quantifier;"), (0, .methodref 8 29), (0, .nameAndType 30 31), (0, u "times"), (0, u "(Lcom/example/typecheck/typecheck/model/Quantifier;)Lcom/example/typecheck/typecheck/model/Quantifier;"), (0, .methodref 23 33), (0, .nameAndType 34 35), (0, u "expected"), (0, u "(II)I"), (3, u "law"), (0, u "(II)Z")] 2

def k1m0 : Method := { name := "<init>", desc := "()V", sig := { parameters := [], returnType := none }, accessFlags := 2, code := none }
def k1c1 : Code := { maxStack := 2, maxLocals := 1, code := method_2_code, exceptionTable := #[], attributes := #[] }
def k1m1 : Method := { name := "pick", desc := "(I)Lcom/example/typecheck/typecheck/model/Quantifier;", sig := { parameters := [.int], returnType := some (.object "com/example/typecheck/typecheck/model/Quantifier") }, accessFlags := 10, code := some k1c1 }
def k1c2 : Code := { maxStack := 2, maxLocals := 2, code := method_3_code, exceptionTable := #[], attributes := #[] }
def k1m2 : Method := { name := "expected", desc := "(II)I", sig := { parameters := [.int, .int], returnType := some .int }, accessFlags := 10, code := some k1c2 }
def k1c3 : Code := { maxStack := 3, maxLocals := 7, code := code, exceptionTable := #[], attributes := #[] }
def k1m3 : Method := { name := "law", desc := "(II)Z", sig := { parameters := [.int, .int], returnType := some .boolean }, accessFlags := 9, code := some k1c3 }
/-- com/example/typecheck/typecheck/model/QuantifierTimesPinLaw -/
def k1 : Class := { plain "com/example/typecheck/typecheck/model/QuantifierTimesPinLaw" (some 0) with
  accessFlags := 49
  interfaces := #[]
  cf := some (fileOf pool1 23 #[] #[{ accessFlags := 2, nameIndex := 5, descriptorIndex := 6, attributes := #[] }, { accessFlags := 10, nameIndex := 26, descriptorIndex := 27, attributes := #[] }, { accessFlags := 10, nameIndex := 34, descriptorIndex := 35, attributes := #[] }, { accessFlags := 9, nameIndex := 39, descriptorIndex := 40, attributes := #[] }] 49 2 #[] #[])
  fields := #[]
  methods := #[k1m0, k1m1, k1m2, k1m3]
  instanceTypes := #[]
  staticTypes := #[]
  resolved := Array.replicate 43 none
  statics := none }

def pool2 : Array CpInfo := pool [(1, .class_ 2), (0, u "java/lang/constant/Constable"), (0, .class_ 4), (0, u "java/lang/Object")] 6

/-- java/lang/constant/Constable -/
def k2 : Class := { plain "java/lang/constant/Constable" (some 0) with
  accessFlags := 1537
  interfaces := #[]
  cf := some (fileOf pool2 1 #[] #[] 1537 3 #[] #[])
  fields := #[]
  methods := #[]
  instanceTypes := #[]
  staticTypes := #[]
  resolved := Array.replicate 11 none
  statics := none }

def pool3 : Array CpInfo := pool [(1, .class_ 2), (0, u "java/lang/Comparable"), (0, .class_ 4), (0, u "java/lang/Object")] 7

/-- java/lang/Comparable -/
def k3 : Class := { plain "java/lang/Comparable" (some 0) with
  accessFlags := 1537
  interfaces := #[]
  cf := some (fileOf pool3 1 #[] #[] 1537 3 #[] #[])
  fields := #[]
  methods := #[]
  instanceTypes := #[]
  staticTypes := #[]
  resolved := Array.replicate 12 none
  statics := none }

def pool4 : Array CpInfo := pool [(1, .class_ 2), (0, u "java/io/Serializable"), (0, .class_ 4), (0, u "java/lang/Object")] 2

/-- java/io/Serializable -/
def k4 : Class := { plain "java/io/Serializable" (some 0) with
  accessFlags := 1537
  interfaces := #[]
  cf := some (fileOf pool4 1 #[] #[] 1537 3 #[] #[])
  fields := #[]
  methods := #[]
  instanceTypes := #[]
  staticTypes := #[]
  resolved := Array.replicate 7 none
  statics := none }

def pool5 : Array CpInfo := pool [(2, .class_ 4), (1, u "java/lang/Enum"), (0, u "name"), (0, u "Ljava/lang/String;"), (2, u "ordinal"), (0, u "I"), (1, .class_ 14), (1, u "java/lang/Object"), (4, u "hash"), (86, .class_ 108), (1, u "java/lang/Enum$EnumDesc"), (2, .class_ 112), (0, u "java/lang/constant/Constable"), (0, .class_ 114), (0, u "java/lang/Comparable"), (0, .class_ 116), (0, u "java/io/Serializable")] 87

/-- java/lang/Enum -/
def k5 : Class := { plain "java/lang/Enum" (some 0) with
  accessFlags := 1057
  interfaces := #[2, 3, 4]
  cf := some (fileOf pool5 2 #[.nestMembers #[106]] #[] 1057 12 #[111, 113, 115] #[{ accessFlags := 18, nameIndex := 5, descriptorIndex := 6, attributes := #[] }, { accessFlags := 18, nameIndex := 9, descriptorIndex := 10, attributes := #[] }, { accessFlags := 2, nameIndex := 19, descriptorIndex := 10, attributes := #[] }])
  fields := #[{ name := "name", type := (.object "java/lang/String"), accessFlags := 18, slot := 0, constantValue := 0 }, { name := "ordinal", type := .int, accessFlags := 18, slot := 1, constantValue := 0 }, { name := "hash", type := .int, accessFlags := 2, slot := 2, constantValue := 0 }]
  methods := #[]
  instanceTypes := #[(.object "java/lang/String"), .int, .int]
  staticTypes := #[]
  resolved := Array.replicate 204 none
  statics := none }

def pool6 : Array CpInfo := pool [(1, .class_ 2), (0, u "com/example/typecheck/typecheck/model/Quantifier"), (0, .fieldref 1 4), (0, .nameAndType 5 6), (0, u "ONE"), (0, u "Lcom/example/typecheck/typecheck/model/Quantifier;"), (0, .fieldref 1 8), (0, .nameAndType 9 6), (0, u "OPTIONAL"), (0, .fieldref 1 11), (0, .nameAndType 12 6), (0, u "ONE_OR_MORE"), (0, .fieldref 1 14), (0, .nameAndType 15 6), (0, u "ZERO_OR_MORE"), (2, u "$VALUES"), (0, u "[Lcom/example/typecheck/typecheck/model/Quantifier;"), (6, .class_ 28), (1, u "java/lang/Enum"), (8, u "symbol"), (0, u "Ljava/lang/String;"), (0, .fieldref 1 40), (0, .nameAndType 41 42), (0, u "minimum"), (0, u "I"), (0, .fieldref 1 44), (0, .nameAndType 45 46), (0, u "unbounded"), (0, u "Z"), (6, .methodref 1 54), (0, .nameAndType 55 56), (0, u "of"), (0, u "(IZ)Lcom/example/typecheck/typecheck/model/Quantifier;"), (33, u "(Lcom/example/typecheck/typecheck/model/Quantifier;)Lcom/example/typecheck/typecheck/model/Quantifier;"), (2, u "times")] 5

def k6c0 : Code := { maxStack := 2, maxLocals := 2, code := prog_177_method_9_code, exceptionTable := #[], attributes := #[] }
def k6m0 : Method := { name := "times", desc := "(Lcom/example/typecheck/typecheck/model/Quantifier;)Lcom/example/typecheck/typecheck/model/Quantifier;", sig := { parameters := [(.object "com/example/typecheck/typecheck/model/Quantifier")], returnType := some (.object "com/example/typecheck/typecheck/model/Quantifier") }, accessFlags := 1, code := some k6c0 }
def k6c1 : Code := { maxStack := 1, maxLocals := 2, code := prog_177_method_10_code, exceptionTable := #[], attributes := #[] }
def k6m1 : Method := { name := "of", desc := "(IZ)Lcom/example/typecheck/typecheck/model/Quantifier;", sig := { parameters := [.int, .boolean], returnType := some (.object "com/example/typecheck/typecheck/model/Quantifier") }, accessFlags := 10, code := some k6c1 }
/-- com/example/typecheck/typecheck/model/Quantifier -/
def k6 : Class := { plain "com/example/typecheck/typecheck/model/Quantifier" (some 5) with
  accessFlags := 16433
  interfaces := #[]
  cf := some (fileOf pool6 1 #[] #[{ accessFlags := 1, nameIndex := 93, descriptorIndex := 90, attributes := #[] }, { accessFlags := 10, nameIndex := 55, descriptorIndex := 56, attributes := #[] }] 16433 26 #[] #[{ accessFlags := 16409, nameIndex := 5, descriptorIndex := 6, attributes := #[] }, { accessFlags := 16409, nameIndex := 9, descriptorIndex := 6, attributes := #[] }, { accessFlags := 16409, nameIndex := 12, descriptorIndex := 6, attributes := #[] }, { accessFlags := 16409, nameIndex := 15, descriptorIndex := 6, attributes := #[] }, { accessFlags := 18, nameIndex := 37, descriptorIndex := 38, attributes := #[] }, { accessFlags := 18, nameIndex := 41, descriptorIndex := 42, attributes := #[] }, { accessFlags := 18, nameIndex := 45, descriptorIndex := 46, attributes := #[] }, { accessFlags := 4122, nameIndex := 18, descriptorIndex := 19, attributes := #[] }])
  fields := #[{ name := "ONE", type := (.object "com/example/typecheck/typecheck/model/Quantifier"), accessFlags := 16409, slot := 0, constantValue := 0 }, { name := "OPTIONAL", type := (.object "com/example/typecheck/typecheck/model/Quantifier"), accessFlags := 16409, slot := 1, constantValue := 0 }, { name := "ONE_OR_MORE", type := (.object "com/example/typecheck/typecheck/model/Quantifier"), accessFlags := 16409, slot := 2, constantValue := 0 }, { name := "ZERO_OR_MORE", type := (.object "com/example/typecheck/typecheck/model/Quantifier"), accessFlags := 16409, slot := 3, constantValue := 0 }, { name := "symbol", type := (.object "java/lang/String"), accessFlags := 18, slot := 3, constantValue := 0 }, { name := "minimum", type := .int, accessFlags := 18, slot := 4, constantValue := 0 }, { name := "unbounded", type := .boolean, accessFlags := 18, slot := 5, constantValue := 0 }, { name := "$VALUES", type := (.array (.object "com/example/typecheck/typecheck/model/Quantifier")), accessFlags := 4122, slot := 4, constantValue := 0 }]
  methods := #[k6m0, k6m1]
  instanceTypes := #[(.object "java/lang/String"), .int, .int, (.object "java/lang/String"), .int, .boolean]
  staticTypes := #[(.object "com/example/typecheck/typecheck/model/Quantifier"), (.object "com/example/typecheck/typecheck/model/Quantifier"), (.object "com/example/typecheck/typecheck/model/Quantifier"), (.object "com/example/typecheck/typecheck/model/Quantifier"), (.array (.object "com/example/typecheck/typecheck/model/Quantifier"))]
  resolved := Array.replicate 99 none
  statics := some 0 }

def pool7 : Array CpInfo := pool [(1, u "java/lang/Cloneable"), (0, .class_ 1), (0, u "java/lang/Object"), (0, .class_ 3)] 3

/-- java/lang/Cloneable -/
def k7 : Class := { plain "java/lang/Cloneable" (some 0) with
  accessFlags := 1537
  interfaces := #[]
  cf := some (fileOf pool7 2 #[] #[] 1537 4 #[] #[])
  fields := #[]
  methods := #[]
  instanceTypes := #[]
  staticTypes := #[]
  resolved := Array.replicate 8 none
  statics := none }

/-- the primitive byte -/
def k8 : Class := { plain "byte" none with kind := .primitive 'B', accessFlags := 0x411 }
/-- [B -/
def k9 : Class := { plain "[B" (some 0) with kind := .array 8 .byte, interfaces := #[7, 4], accessFlags := 1041 }

/-- the primitive int -/
def k10 : Class := { plain "int" none with kind := .primitive 'I', accessFlags := 0x411 }
/-- [I -/
def k11 : Class := { plain "[I" (some 0) with kind := .array 10 .int, interfaces := #[7, 4], accessFlags := 1041 }

def heap : Heap := #[{ cls := 6, slots := #[.ref 1, .ref 4, .ref 3, .ref 2, .null], vm := .statics 6 },
  { cls := 6, slots := #[.null, .int 0, .int 0, .null, .int 1, .int 0], vm := .none },
  { cls := 6, slots := #[.null, .int 0, .int 0, .null, .int 0, .int 1], vm := .none },
  { cls := 6, slots := #[.null, .int 0, .int 0, .null, .int 1, .int 1], vm := .none },
  { cls := 6, slots := #[.null, .int 0, .int 0, .null, .int 0, .int 0], vm := .none }]
def classes : Array Class := #[k0, k1, k2, k3, k4, k5, k6, k7, k8, k9, k10, k11]
def interned : List (Array UInt16 × Addr) := []
def slotsUsed : Nat := 29
def theMethod : MethodId := ⟨1, 3⟩
def args0 : Array Value := #[.int 5, .int 5]
def aboutOver (below : List Frame) : State where
  vm := { classes := classes, interned := interned.toArray }
  heap := heap
  slotsUsed := slotsUsed
  threads := #[{ frames := .invoking theMethod args0 :: below }]
def below0 : List Frame := [.native { method := ⟨0, 0⟩, args := #[] }]
def about1 : State := aboutOver below0
def p0 : Program := .bare "" "" ""
def e0 : Env := launch0.env 0 0 0
theorem w_frames : about1.frames = Frame.invoking theMethod args0 :: below0 := rfl
set_option maxRecDepth 65536 in
theorem w_args : argsFit about1.vm theMethod args0 = true := by decide +kernel
set_option maxRecDepth 65536 in
theorem w_heap : heapFits about1 = true := by decide +kernel
set_option maxRecDepth 65536 in
theorem w_runnable : about1.curStatus? = some .runnable := by decide +kernel
set_option maxRecDepth 65536 in
theorem w_alone : about1.alone = true := by decide +kernel
set_option maxRecDepth 65536 in
theorem w_named : about1.methodNamed? x = some theMethod := by decide +kernel
set_option maxRecDepth 65536 in
theorem w_hears : about1.hears theMethod below0 = true := by decide +kernel
set_option maxRecDepth 65536 in
theorem w_ripe : about1.ripe theMethod args0 below0 = true := by decide +kernel
theorem w_running : about1.status = .running := rfl
set_option maxRecDepth 65536 in
theorem w_room : about1.hasRoom e0.platform room_1 = true :=
  launch0.hasRoom_least _ room_1 (by decide +kernel) (by decide +kernel) (by decide +kernel) (by decide +kernel) (by decide +kernel) (by decide +kernel)
theorem allAtoms_all (ts : List Jvm.Cond) (a : Array Jvm.Value) (st : Jvm.State) : (allAtoms ts).before a st = ts.all (fun c => c.before a st) := by
  induction ts with
  | nil => rfl
  | cons c t ih =>
    show (Jvm.Cond.and c (allAtoms t)).before a st = _
    rw [Jvm.Cond.before_and, ih, List.all_cons]
def words1 : List Jvm.Cond := Jvm.Cond.code x code maxLocals ret :: tables_1
/-- a 'code' word, met by the world's own term for the bytes: nothing is compared byte by byte -/
theorem code_word {y : MethodName} {bytes : ByteArray} {mx : Nat} {rt : Option FieldType} {a : Array Value} {s : State} {m : MethodId} {meth : Method} {c : Code} (h1 : s.methodNamed? y = some m) (h2 : s.vm.method? m = some meth) (h3 : meth.code = some c) (h4 : c.code = bytes)
    (h5 : (c.maxLocals == mx && c.exceptionTable.isEmpty && decide (c.maxStack ≤ mostOperands) && decide (meth.sig.returnType = rt) && !meth.locks && decide (parseMethodDescriptor y.desc = some meth.sig)) = true) : (Jvm.Cond.code y bytes mx rt).before a s = true := by
  simp only [Bool.and_eq_true, beq_iff_eq, Bool.not_eq_true', decide_eq_true_eq] at h5
  obtain ⟨⟨⟨⟨⟨g1, g2⟩, g3⟩, g4⟩, g5⟩, g6⟩ := h5
  simp [Cond.before, Cond.holds, Cond.value, h1, h2, h3, h4, g1, g2, g3, g4, g5, g6]
def isCode : Jvm.Cond → Bool
  | .code _ _ _ _ => true
  | _ => false
theorem all_split {L : List Jvm.Cond} {P : Jvm.Cond → Bool} (h1 : L.all (fun c => isCode c || P c) = true) (h2 : ∀ c ∈ L.filter isCode, P c = true) : L.all P = true := by
  refine List.all_eq_true.mpr fun c hc => ?_
  have h := List.all_eq_true.mp h1 c hc
  rcases Bool.eq_false_or_eq_true (isCode c) with hi | hi
  · exact h2 c (List.mem_filter.mpr ⟨hc, hi⟩)
  · simpa [hi] using h
set_option maxRecDepth 65536 in
theorem w_c0 : (Jvm.Cond.code x code maxLocals ret).before args0 about1 = true := code_word (m := ⟨1, 3⟩) (meth := k1m3) (c := k1c3) (by decide +kernel) rfl rfl rfl (by decide +kernel)
set_option maxRecDepth 65536 in
theorem w_c1 : (Jvm.Cond.code ({ cls := "com/example/typecheck/typecheck/model/QuantifierTimesPinLaw", name := "pick", desc := "(I)Lcom/example/typecheck/typecheck/model/Quantifier;" } : Jvm.MethodName) method_2_code (1 : Nat) (Option.some (Jvm.ClassFile.FieldType.object "com/example/typecheck/typecheck/model/Quantifier"))).before args0 about1 = true := code_word (m := ⟨1, 1⟩) (meth := k1m1) (c := k1c1) (by decide +kernel) rfl rfl rfl (by decide +kernel)
set_option maxRecDepth 65536 in
theorem w_c2 : (Jvm.Cond.code ({ cls := "com/example/typecheck/typecheck/model/Quantifier", name := "times", desc := "(Lcom/example/typecheck/typecheck/model/Quantifier;)Lcom/example/typecheck/typecheck/model/Quantifier;" } : Jvm.MethodName) prog_177_method_9_code (2 : Nat) (Option.some (Jvm.ClassFile.FieldType.object "com/example/typecheck/typecheck/model/Quantifier"))).before args0 about1 = true := code_word (m := ⟨6, 0⟩) (meth := k6m0) (c := k6c0) (by decide +kernel) rfl rfl rfl (by decide +kernel)
set_option maxRecDepth 65536 in
theorem w_c3 : (Jvm.Cond.code ({ cls := "com/example/typecheck/typecheck/model/Quantifier", name := "of", desc := "(IZ)Lcom/example/typecheck/typecheck/model/Quantifier;" } : Jvm.MethodName) prog_177_method_10_code (2 : Nat) (Option.some (Jvm.ClassFile.FieldType.object "com/example/typecheck/typecheck/model/Quantifier"))).before args0 about1 = true := code_word (m := ⟨6, 1⟩) (meth := k6m1) (c := k6c1) (by decide +kernel) rfl rfl rfl (by decide +kernel)
set_option maxRecDepth 65536 in
theorem w_c4 : (Jvm.Cond.code ({ cls := "com/example/typecheck/typecheck/model/QuantifierTimesPinLaw", name := "expected", desc := "(II)I" } : Jvm.MethodName) method_3_code (2 : Nat) (Option.some Jvm.ClassFile.FieldType.int)).before args0 about1 = true := code_word (m := ⟨1, 2⟩) (meth := k1m2) (c := k1c2) (by decide +kernel) rfl rfl rfl (by decide +kernel)
def codes1 : List Jvm.Cond := [Jvm.Cond.code x code maxLocals ret, Jvm.Cond.code ({ cls := "com/example/typecheck/typecheck/model/QuantifierTimesPinLaw", name := "pick", desc := "(I)Lcom/example/typecheck/typecheck/model/Quantifier;" } : Jvm.MethodName) method_2_code (1 : Nat) (Option.some (Jvm.ClassFile.FieldType.object "com/example/typecheck/typecheck/model/Quantifier")), Jvm.Cond.code ({ cls := "com/example/typecheck/typecheck/model/Quantifier", name := "times", desc := "(Lcom/example/typecheck/typecheck/model/Quantifier;)Lcom/example/typecheck/typecheck/model/Quantifier;" } : Jvm.MethodName) prog_177_method_9_code (2 : Nat) (Option.some (Jvm.ClassFile.FieldType.object "com/example/typecheck/typecheck/model/Quantifier")), Jvm.Cond.code ({ cls := "com/example/typecheck/typecheck/model/Quantifier", name := "of", desc := "(IZ)Lcom/example/typecheck/typecheck/model/Quantifier;" } : Jvm.MethodName) prog_177_method_10_code (2 : Nat) (Option.some (Jvm.ClassFile.FieldType.object "com/example/typecheck/typecheck/model/Quantifier")), Jvm.Cond.code ({ cls := "com/example/typecheck/typecheck/model/QuantifierTimesPinLaw", name := "expected", desc := "(II)I" } : Jvm.MethodName) method_3_code (2 : Nat) (Option.some Jvm.ClassFile.FieldType.int)]
set_option maxRecDepth 65536 in
theorem codes_eq : words1.filter isCode = codes1 := rfl
theorem w_codes : ∀ c ∈ words1.filter isCode, c.before args0 about1 = true := by
  rw [codes_eq]
  intro c hc
  simp only [codes1, List.mem_cons, List.not_mem_nil, or_false] at hc
  rcases hc with rfl | rfl | rfl | rfl | rfl
  · exact w_c0
  · exact w_c1
  · exact w_c2
  · exact w_c3
  · exact w_c4
set_option maxRecDepth 65536 in
theorem w_t1 : (words1.take 24).all (fun c => isCode c || c.before args0 about1) = true := by decide +kernel
set_option maxRecDepth 65536 in
theorem w_t2 : (words1.drop 24).all (fun c => isCode c || c.before args0 about1) = true := by decide +kernel
theorem w_tables : (allAtoms (Jvm.Cond.code x code maxLocals ret :: tables_1)).before args0 about1 = true := by
  rw [allAtoms_all]
  show words1.all (fun c => c.before args0 about1) = true
  refine all_split ?_ w_codes
  rw [← List.take_append_drop 24 words1, List.all_append, w_t1, w_t2]
  rfl
set_option maxRecDepth 65536 in
theorem w_case : (Jvm.Cond.and given_1 narrow_1).before args0 about1 = true := by decide +kernel
theorem w_applies : (headSpec (Jvm.Cond.code x code maxLocals ret :: tables_1) room_1).applies x e0.platform about1 = true :=
  (Spec.applies_iff w_frames).mpr ⟨w_running, w_runnable, w_alone, w_named, w_hears, w_ripe, w_room, w_tables⟩
theorem atStart : AtStart classFile x code maxLocals ret World_1 tables_1 room_1 Calls_1 rest_1 Pre_1 launch0 p0 e0 about1 theMethod args0 below0 :=
  ⟨lists_1, trivial, launch0.admits_env _ _ _, launch0.least_env, fairChoices_fair.cas, fairChoices_fair.clock, w_frames, w_args, w_heap, w_applies, trivial, trivial, w_case⟩
end start1
theorem witness_1 : WitnessClaimed_1 := ⟨start1.p0, start1.e0, start1.about1, start1.theMethod, start1.args0, start1.below0, start1.atStart⟩
end Jvm.Pilot.@@N@@
