import JvmDerived
import JvmDerived.Pilot.@@N@@Statement
import JvmDerived.Pilot.@@N@@Code
set_option linter.unusedVariables false
set_option linter.unusedSimpArgs false
namespace Jvm.Pilot.@@N@@
open Jvm Jvm.ClassFile Sem Op Lib Jvm.Free Jvm.Stand Jvm.LawKit Jvm.RoadKit Bundle Jvm.Pilot.@@N@@.Jvm.D
theorem own_b1 {v A K : Int32} (h : v < A) (d : ¬ (K < A)) : v < K := by rw [Int32.lt_iff_toInt_lt] at *; omega
theorem own_b2 {v A K : Int32} (h : v < A) (d : A.toInt ≤ K.toInt + 1) : ¬ (K < v) := by rw [Int32.lt_iff_toInt_lt] at *; omega
theorem own_b3 {v A K : Int32} (h : ¬ (v < A)) (d : ¬ (A < K)) : ¬ (v < K) := by rw [Int32.lt_iff_toInt_lt] at *; omega
theorem own_b4 {v A K : Int32} (h : ¬ (v < A)) (d : K < A) : K < v := by rw [Int32.lt_iff_toInt_lt] at *; omega
theorem own_b5 {v A K : Int32} (h : A < v) (d : K.toInt ≤ A.toInt + 1) : ¬ (v < K) := by rw [Int32.lt_iff_toInt_lt] at *; omega
theorem own_b6 {v A K : Int32} (h : A < v) (d : ¬ (A < K)) : K < v := by rw [Int32.lt_iff_toInt_lt] at *; omega
theorem own_b7 {v A K : Int32} (h : ¬ (A < v)) (d : A < K) : v < K := by rw [Int32.lt_iff_toInt_lt] at *; omega
theorem own_b8 {v A K : Int32} (h : ¬ (A < v)) (d : ¬ (K < A)) : ¬ (K < v) := by rw [Int32.lt_iff_toInt_lt] at *; omega
theorem own_w {Z : State} {a0 : Array Value} (hw : ∀ d ∈ tables_1, d.before a0 Z = true) (i : Nat) {d : Jvm.Cond} (h : tables_1[i]? = some d) : d.before a0 Z = true := hw d (List.mem_of_getElem? h)
theorem own_fldI {args : Array Value} {s : State} {t : Term} {x : Addr} {C n d : String} {k : Int32} (ht : t.eval args s none [] s = some (.ref x)) (h : (Jvm.Cond.eq (.field t C n d) (.int k)).value args s none s [] = some true) : s.fieldOf? x C n d = some (.int k) := by
  obtain ⟨u, v, e1, e2, -, -⟩ := cmp_v (Or.inl h)
  have e3 : (Term.field t C n d).eval args s none [] s = s.fieldOf? x C n d := fld_at ht
  cases (show some (Value.int k) = some v from e2)
  rw [e3] at e1
  cases u <;> simp [Jvm.Cond.value, Term.eval, ht, e1] at h
  rw [e1, h]
theorem own_fldR {args : Array Value} {s : State} {t u : Term} {x y : Addr} {C n d : String} (ht : t.eval args s none [] s = some (.ref x)) (hu : u.eval args s none [] s = some (.ref y)) (h : (Jvm.Cond.eq (.field t C n d) u).value args s none s [] = some true) : s.fieldOf? x C n d = some (.ref y) := by
  obtain ⟨v, w, e1, e2, -, -⟩ := cmp_v (Or.inl h)
  have e3 : (Term.field t C n d).eval args s none [] s = s.fieldOf? x C n d := fld_at ht
  rw [e3] at e1
  cases v <;> simp [Jvm.Cond.value, Term.eval, ht, hu, e1] at h
  rw [e1, h]
def own_fd (a b : Int64) : Int64 := if (a ^^^ b) < 0 then (if ((a / b) * b) = a then a / b else (a / b) - 1) else a / b
theorem d0_0 : decode jdk_29_method_66_code 0 = .ok (.lload_n 0, 1) := by decide +kernel
theorem d0_1 : decode jdk_29_method_66_code 1 = .ok (.lload_n 2, 1) := by decide +kernel
theorem d0_2 : decode jdk_29_method_66_code 2 = .ok (.lcmp, 1) := by decide +kernel
theorem d0_3 : decode jdk_29_method_66_code 3 = .ok (.ifCond .lt 7, 3) := by decide +kernel
theorem d0_10 : decode jdk_29_method_66_code 10 = .ok (.lload_n 2, 1) := by decide +kernel
theorem d0_11 : decode jdk_29_method_66_code 11 = .ok (.lreturn, 1) := by decide +kernel
theorem d0_6 : decode jdk_29_method_66_code 6 = .ok (.lload_n 0, 1) := by decide +kernel
theorem d0_7 : decode jdk_29_method_66_code 7 = .ok (.goto 4, 3) := by decide +kernel
theorem ef_rm_max (m : MethodId) (x0 : Int64) (x1 : Int64) : entryFrame m #[(.long x0), (.long x1)] 4 = mkF m 0 #[.val (.long x0), .second, .val (.long x1), .second] [] := by first | (simp [entryFrame, mkF, argsToLocals, Value.category]; done) | rfl
def Q_rm_max (Z : State) (aa : Int64) (b : Int64) (h0 : Heap) (n0 : Nat) (v : Option Value) (h : Heap) (L : List Loc) : Prop := (∃ (r : Int64), (¬ (r < aa)) ∧ (v = some (.long r)) ∧ (Fr n0 L) ∧ (h = h0))
set_option maxRecDepth 65536 in
set_option maxHeartbeats 40000000 in
theorem rm_max (l : Launch) (Z : State) (a0 : Array Value) (hw : ∀ d ∈ tables_1, d.before a0 Z = true) (ws : List Jvm.Cond) (aa : Int64) (b : Int64) (h0 : Heap) (n0 : Nat) (O0 : Old Z n0 h0) :
    MetFree l (⟨"java/lang/Math", "max", "(JJ)J"⟩ : MethodName) (head1 (Jvm.Cond.code (⟨"java/lang/Math", "max", "(JJ)J"⟩ : MethodName) jdk_29_method_66_code 4 (some .long) :: ws) ({ frames := 0, cells := 0, slots := 0, locals := 0 } : Room)) (fun a U => a = #[(.long aa), (.long b)] ∧ Z.Warmed39 U.vm ∧ U.heap = h0) (fun _ _ _ _ _ => True) (fun _ U o U' => ∃ v L, o = .returned v ∧ Q_rm_max Z aa b h0 n0 v U'.heap L ∧ FrameEnd U o U' L ({ frames := 0, cells := 0, slots := 0, locals := 0 } : Room).cells ({ frames := 0, cells := 0, slots := 0, locals := 0 } : Room).slots) := by
  refine MetFree.of_bodySF (Jvm.Free.JP.mathPlain rfl (by decide +kernel)) hisR ?_
  intro p e s m args below meth c s₁ Bd hml0 hP hK
  obtain ⟨rfl, hZ, hh⟩ := hP
  have hx := Bd.exec
  have hby := Bd.bytes
  have hml : c.maxLocals = 4 := hml0
  have hown : s.vm.findClass "java/lang/Math" = some m.cls := findClass_of_methodNamed Bd.named
  have hnm := (name_of_methodNamed Bd.named Bd.method).1
  have X0 : Stand p l e ({ frames := 0, cells := 0, slots := 0, locals := 0 } : Room) s m #[(.long aa), (.long b)] below meth c s₁ [] 0 0 := Stand.of_body Bd
  have e0 : s₁.heap = h0 := by rw [← hh, Bd.state]; rfl
  have N0 := Fr.nil n0
  have pre0 : ∀ t, Steps p.tables e below (s₁.setTop (mkF m 0 #[.val (.long aa), .second, .val (.long b), .second] [])) t → Steps p.tables e below (s₁.setTop (entryFrame m #[(.long aa), (.long b)] 4)) t := fun t k => castTop (ef_rm_max m aa b) k
  have S1 : ∀ t, Steps p.tables e below (s₁.setTop (mkF m 3 #[.val (.long aa), .second, .val (.long b), .second] [(.int (lcmpW aa b))])) t → Steps p.tables e below (s₁.setTop (mkF m 0 #[.val (.long aa), .second, .val (.long b), .second] [])) t := by
    intro t kt
    refine XS.lloadN X0.here hx rfl (hb hby d0_0) rfl ?_
    refine XS.lloadN X0.here hx rfl (hb hby d0_1) rfl ?_
    refine XS.lcmp X0.here hx rfl (hb hby d0_2) rfl ?_
    exact kt
  rcases Decidable.em (aa < b) with c2 | c2
  · have S3 : ∀ t, Steps p.tables e below (s₁.setTop (mkF m 11 #[.val (.long aa), .second, .val (.long b), .second] [(.long b)])) t → Steps p.tables e below (s₁.setTop (mkF m 0 #[.val (.long aa), .second, .val (.long b), .second] [])) t := by
      intro t kt
      refine S1 t ?_
      refine XS.ifYes X0.here hx rfl (pc0 := 3) (pc' := 10) rfl (hb hby d0_3) rfl ((if0 _ _).trans (tlt ((lw_lt aa b).mpr (c2 : aa < b) : (lcmpW aa b) < (0 : Int32))).1) (by decide) (by decide) ?_
      refine XS.lloadN X0.here hx rfl (hb hby d0_10) rfl ?_
      exact kt
    obtain ⟨fs, hr, hrun, hended, hW, hsame⟩ := X0.leave (v := some (.long b)) (fun h => by rw [Bd.returns] at h; cases h)
    refine ⟨_, _, pre0 _ (S3 _ ?_), hrun, hended, _, _, rfl, ?_, ⟨_, rfl⟩, hW, hsame.mono (by decide) (by decide)⟩
    · exact retOut X0 hx Bd.returns rfl (Or.inr (Or.inl ⟨rfl, rfl, _, rfl⟩)) (hb hby d0_11) hr
    · show Q_rm_max Z aa b h0 n0 _ s₁.heap _
      rw [e0]
      exact ⟨b, (Int64.not_lt.mpr (Int64.le_of_lt c2)), rfl, N0, rfl⟩
  · have S4 : ∀ t, Steps p.tables e below (s₁.setTop (mkF m 11 #[.val (.long aa), .second, .val (.long b), .second] [(.long aa)])) t → Steps p.tables e below (s₁.setTop (mkF m 0 #[.val (.long aa), .second, .val (.long b), .second] [])) t := by
      intro t kt
      refine S1 t ?_
      refine XS.ifNo X0.here hx rfl (hb hby d0_3) rfl ((if0 _ _).trans (flt (fun q => (c2 : ¬ (aa < b)) ((lw_lt aa b).mp q) : ¬ ((lcmpW aa b) < (0 : Int32)))).1) ?_
      refine XS.lloadN X0.here hx rfl (hb hby d0_6) rfl ?_
      refine XS.goto X0.here hx rfl (pc0 := 7) (pc' := 11) rfl (hb hby d0_7) (by decide) (by decide) ?_
      exact kt
    obtain ⟨fs, hr, hrun, hended, hW, hsame⟩ := X0.leave (v := some (.long aa)) (fun h => by rw [Bd.returns] at h; cases h)
    refine ⟨_, _, pre0 _ (S4 _ ?_), hrun, hended, _, _, rfl, ?_, ⟨_, rfl⟩, hW, hsame.mono (by decide) (by decide)⟩
    · exact retOut X0 hx Bd.returns rfl (Or.inr (Or.inl ⟨rfl, rfl, _, rfl⟩)) (hb hby d0_11) hr
    · show Q_rm_max Z aa b h0 n0 _ s₁.heap _
      rw [e0]
      exact ⟨aa, Int64.lt_irrefl, rfl, N0, rfl⟩
theorem d1_0 : decode jdk_29_method_49_code 0 = .ok (.lload_n 0, 1) := by decide +kernel
theorem d1_1 : decode jdk_29_method_49_code 1 = .ok (.lload_n 2, 1) := by decide +kernel
theorem d1_2 : decode jdk_29_method_49_code 2 = .ok (.ldiv, 1) := by decide +kernel
theorem d1_3 : decode jdk_29_method_49_code 3 = .ok (.lstore 4, 2) := by decide +kernel
theorem d1_5 : decode jdk_29_method_49_code 5 = .ok (.lload_n 0, 1) := by decide +kernel
theorem d1_6 : decode jdk_29_method_49_code 6 = .ok (.lload_n 2, 1) := by decide +kernel
theorem d1_7 : decode jdk_29_method_49_code 7 = .ok (.lxor, 1) := by decide +kernel
theorem d1_8 : decode jdk_29_method_49_code 8 = .ok (.lconst 0, 1) := by decide +kernel
theorem d1_9 : decode jdk_29_method_49_code 9 = .ok (.lcmp, 1) := by decide +kernel
theorem d1_10 : decode jdk_29_method_49_code 10 = .ok (.ifCond .ge 17, 3) := by decide +kernel
theorem d1_13 : decode jdk_29_method_49_code 13 = .ok (.lload 4, 2) := by decide +kernel
theorem d1_15 : decode jdk_29_method_49_code 15 = .ok (.lload_n 2, 1) := by decide +kernel
theorem d1_16 : decode jdk_29_method_49_code 16 = .ok (.lmul, 1) := by decide +kernel
theorem d1_17 : decode jdk_29_method_49_code 17 = .ok (.lload_n 0, 1) := by decide +kernel
theorem d1_18 : decode jdk_29_method_49_code 18 = .ok (.lcmp, 1) := by decide +kernel
theorem d1_19 : decode jdk_29_method_49_code 19 = .ok (.ifCond .eq 8, 3) := by decide +kernel
theorem d1_27 : decode jdk_29_method_49_code 27 = .ok (.lload 4, 2) := by decide +kernel
theorem d1_29 : decode jdk_29_method_49_code 29 = .ok (.lreturn, 1) := by decide +kernel
theorem d1_22 : decode jdk_29_method_49_code 22 = .ok (.lload 4, 2) := by decide +kernel
theorem d1_24 : decode jdk_29_method_49_code 24 = .ok (.lconst 1, 1) := by decide +kernel
theorem d1_25 : decode jdk_29_method_49_code 25 = .ok (.lsub, 1) := by decide +kernel
theorem d1_26 : decode jdk_29_method_49_code 26 = .ok (.lreturn, 1) := by decide +kernel
theorem ef_rm_fd (m : MethodId) (x0 : Int64) (x1 : Int64) : entryFrame m #[(.long x0), (.long x1)] 6 = mkF m 0 #[.val (.long x0), .second, .val (.long x1), .second, .unset, .unset] [] := by first | (simp [entryFrame, mkF, argsToLocals, Value.category]; done) | rfl
def Q_rm_fd (Z : State) (aa : Int64) (b : Int64) (h0 : Heap) (n0 : Nat) (v : Option Value) (h : Heap) (L : List Loc) : Prop := ((v = some (.long (own_fd aa b))) ∧ (Fr n0 L) ∧ (h = h0))
set_option maxRecDepth 65536 in
set_option maxHeartbeats 40000000 in
theorem rm_fd (l : Launch) (Z : State) (a0 : Array Value) (hw : ∀ d ∈ tables_1, d.before a0 Z = true) (ws : List Jvm.Cond) (aa : Int64) (b : Int64) (h0 : Heap) (n0 : Nat) (O0 : Old Z n0 h0) (hb0 : ¬ (b = (0 : Int64))) :
    MetFree l (⟨"java/lang/Math", "floorDiv", "(JJ)J"⟩ : MethodName) (head1 (Jvm.Cond.code (⟨"java/lang/Math", "floorDiv", "(JJ)J"⟩ : MethodName) jdk_29_method_49_code 6 (some .long) :: ws) ({ frames := 0, cells := 0, slots := 0, locals := 0 } : Room)) (fun a U => a = #[(.long aa), (.long b)] ∧ Z.Warmed39 U.vm ∧ U.heap = h0) (fun _ _ _ _ _ => True) (fun _ U o U' => ∃ v L, o = .returned v ∧ Q_rm_fd Z aa b h0 n0 v U'.heap L ∧ FrameEnd U o U' L ({ frames := 0, cells := 0, slots := 0, locals := 0 } : Room).cells ({ frames := 0, cells := 0, slots := 0, locals := 0 } : Room).slots) := by
  refine MetFree.of_bodySF (Jvm.Free.JP.mathPlain rfl (by decide +kernel)) hisR ?_
  intro p e s m args below meth c s₁ Bd hml0 hP hK
  obtain ⟨rfl, hZ, hh⟩ := hP
  have hx := Bd.exec
  have hby := Bd.bytes
  have hml : c.maxLocals = 6 := hml0
  have hown : s.vm.findClass "java/lang/Math" = some m.cls := findClass_of_methodNamed Bd.named
  have hnm := (name_of_methodNamed Bd.named Bd.method).1
  have X0 : Stand p l e ({ frames := 0, cells := 0, slots := 0, locals := 0 } : Room) s m #[(.long aa), (.long b)] below meth c s₁ [] 0 0 := Stand.of_body Bd
  have e0 : s₁.heap = h0 := by rw [← hh, Bd.state]; rfl
  have N0 := Fr.nil n0
  have pre0 : ∀ t, Steps p.tables e below (s₁.setTop (mkF m 0 #[.val (.long aa), .second, .val (.long b), .second, .unset, .unset] [])) t → Steps p.tables e below (s₁.setTop (entryFrame m #[(.long aa), (.long b)] 6)) t := fun t k => castTop (ef_rm_fd m aa b) k
  have S1 : ∀ t, Steps p.tables e below (s₁.setTop (mkF m 10 #[.val (.long aa), .second, .val (.long b), .second, .val (.long (aa / b)), .second] [(.int (lcmpW (aa ^^^ b) (0 : Int64)))])) t → Steps p.tables e below (s₁.setTop (mkF m 0 #[.val (.long aa), .second, .val (.long b), .second, .unset, .unset] [])) t := by
    intro t kt
    refine XS.lloadN X0.here hx rfl (hb hby d1_0) rfl ?_
    refine XS.lloadN X0.here hx rfl (hb hby d1_1) rfl ?_
    refine XS.ldiv X0.here hx rfl (hb hby d1_2) rfl hb0 ?_
    refine XS.lstore X0.here hx rfl (hb hby d1_3) rfl (l' := #[.val (.long aa), .second, .val (.long b), .second, .val (.long (aa / b)), .second]) rfl ?_
    refine XS.lloadN X0.here hx rfl (hb hby d1_5) rfl ?_
    refine XS.lloadN X0.here hx rfl (hb hby d1_6) rfl ?_
    show Steps p.tables e below (s₁.setTop (mkF m 7 #[.val (.long aa), .second, .val (.long b), .second, .val (.long (aa / b)), .second] [(.long b), (.long aa)])) _
    refine XS.lxor X0.here hx rfl (hb hby d1_7) rfl ?_
    refine XS.lconst X0.here hx rfl (hb hby d1_8) ?_
    refine XS.lcmp X0.here hx rfl (hb hby d1_9) rfl ?_
    exact kt
  rcases Decidable.em ((aa ^^^ b) < (0 : Int64)) with c2 | c2
  · have S3 : ∀ t, Steps p.tables e below (s₁.setTop (mkF m 19 #[.val (.long aa), .second, .val (.long b), .second, .val (.long (aa / b)), .second] [(.int (lcmpW ((aa / b) * b) aa))])) t → Steps p.tables e below (s₁.setTop (mkF m 0 #[.val (.long aa), .second, .val (.long b), .second, .unset, .unset] [])) t := by
      intro t kt
      refine S1 t ?_
      refine XS.ifNo X0.here hx rfl (hb hby d1_10) rfl ((if0 _ _).trans (tlt ((lw_lt (aa ^^^ b) (0 : Int64)).mpr (c2 : (aa ^^^ b) < (0 : Int64)) : (lcmpW (aa ^^^ b) (0 : Int64)) < (0 : Int32))).2.1) ?_
      refine XS.lload X0.here hx rfl (hb hby d1_13) rfl ?_
      refine XS.lloadN X0.here hx rfl (hb hby d1_15) rfl ?_
      refine XS.lmul X0.here hx rfl (hb hby d1_16) rfl ?_
      refine XS.lloadN X0.here hx rfl (hb hby d1_17) rfl ?_
      refine XS.lcmp X0.here hx rfl (hb hby d1_18) rfl ?_
      exact kt
    rcases Decidable.em (((aa / b) * b) = aa) with c4 | c4
    · have S5 : ∀ t, Steps p.tables e below (s₁.setTop (mkF m 29 #[.val (.long aa), .second, .val (.long b), .second, .val (.long (aa / b)), .second] [(.long (aa / b))])) t → Steps p.tables e below (s₁.setTop (mkF m 0 #[.val (.long aa), .second, .val (.long b), .second, .unset, .unset] [])) t := by
        intro t kt
        refine S3 t ?_
        refine XS.ifYes X0.here hx rfl (pc0 := 19) (pc' := 27) rfl (hb hby d1_19) rfl ((if0 _ _).trans (teq ((lw_eq ((aa / b) * b) aa).mpr (c4 : ((aa / b) * b) = aa) : (lcmpW ((aa / b) * b) aa) = (0 : Int32))).1) (by decide) (by decide) ?_
        refine XS.lload X0.here hx rfl (hb hby d1_27) rfl ?_
        exact kt
      obtain ⟨fs, hr, hrun, hended, hW, hsame⟩ := X0.leave (v := some (.long (aa / b))) (fun h => by rw [Bd.returns] at h; cases h)
      refine ⟨_, _, pre0 _ (S5 _ ?_), hrun, hended, _, _, rfl, ?_, ⟨_, rfl⟩, hW, hsame.mono (by decide) (by decide)⟩
      · exact retOut X0 hx Bd.returns rfl (Or.inr (Or.inl ⟨rfl, rfl, _, rfl⟩)) (hb hby d1_29) hr
      · show Q_rm_fd Z aa b h0 n0 _ s₁.heap _
        rw [e0]
        exact ⟨(by simp only [own_fd]; simp [c2, c4]), N0, rfl⟩
    · have S6 : ∀ t, Steps p.tables e below (s₁.setTop (mkF m 26 #[.val (.long aa), .second, .val (.long b), .second, .val (.long (aa / b)), .second] [(.long ((aa / b) - (1 : Int64)))])) t → Steps p.tables e below (s₁.setTop (mkF m 0 #[.val (.long aa), .second, .val (.long b), .second, .unset, .unset] [])) t := by
        intro t kt
        refine S3 t ?_
        refine XS.ifNo X0.here hx rfl (hb hby d1_19) rfl ((if0 _ _).trans (feq (fun q => (c4 : ¬ (((aa / b) * b) = aa)) ((lw_eq ((aa / b) * b) aa).mp q) : ¬ ((lcmpW ((aa / b) * b) aa) = (0 : Int32)))).1) ?_
        refine XS.lload X0.here hx rfl (hb hby d1_22) rfl ?_
        refine XS.lconst X0.here hx rfl (hb hby d1_24) ?_
        refine XS.lsub X0.here hx rfl (hb hby d1_25) rfl ?_
        exact kt
      obtain ⟨fs, hr, hrun, hended, hW, hsame⟩ := X0.leave (v := some (.long ((aa / b) - (1 : Int64)))) (fun h => by rw [Bd.returns] at h; cases h)
      refine ⟨_, _, pre0 _ (S6 _ ?_), hrun, hended, _, _, rfl, ?_, ⟨_, rfl⟩, hW, hsame.mono (by decide) (by decide)⟩
      · exact retOut X0 hx Bd.returns rfl (Or.inr (Or.inl ⟨rfl, rfl, _, rfl⟩)) (hb hby d1_26) hr
      · show Q_rm_fd Z aa b h0 n0 _ s₁.heap _
        rw [e0]
        exact ⟨(by simp only [own_fd]; simp [c2, c4]), N0, rfl⟩
  · have S7 : ∀ t, Steps p.tables e below (s₁.setTop (mkF m 29 #[.val (.long aa), .second, .val (.long b), .second, .val (.long (aa / b)), .second] [(.long (aa / b))])) t → Steps p.tables e below (s₁.setTop (mkF m 0 #[.val (.long aa), .second, .val (.long b), .second, .unset, .unset] [])) t := by
      intro t kt
      refine S1 t ?_
      refine XS.ifYes X0.here hx rfl (pc0 := 10) (pc' := 27) rfl (hb hby d1_10) rfl ((if0 _ _).trans (flt (fun q => (c2 : ¬ ((aa ^^^ b) < (0 : Int64))) ((lw_lt (aa ^^^ b) (0 : Int64)).mp q) : ¬ ((lcmpW (aa ^^^ b) (0 : Int64)) < (0 : Int32)))).2.1) (by decide) (by decide) ?_
      refine XS.lload X0.here hx rfl (hb hby d1_27) rfl ?_
      exact kt
    obtain ⟨fs, hr, hrun, hended, hW, hsame⟩ := X0.leave (v := some (.long (aa / b))) (fun h => by rw [Bd.returns] at h; cases h)
    refine ⟨_, _, pre0 _ (S7 _ ?_), hrun, hended, _, _, rfl, ?_, ⟨_, rfl⟩, hW, hsame.mono (by decide) (by decide)⟩
    · exact retOut X0 hx Bd.returns rfl (Or.inr (Or.inl ⟨rfl, rfl, _, rfl⟩)) (hb hby d1_29) hr
    · show Q_rm_fd Z aa b h0 n0 _ s₁.heap _
      rw [e0]
      exact ⟨(by simp only [own_fd]; simp [c2]), N0, rfl⟩
theorem d2_0 : decode prog_15_method_1_code 0 = .ok (.getstatic 25, 3) := by decide +kernel
theorem d2_3 : decode prog_15_method_1_code 3 = .ok (.invokevirtual 29, 3) := by decide +kernel
theorem d2_6 : decode prog_15_method_1_code 6 = .ok (.checkcast 30, 3) := by decide +kernel
theorem d2_9 : decode prog_15_method_1_code 9 = .ok (.areturn, 1) := by decide +kernel
theorem pn_0 : plainName "com/example/sluice/sluice/RefusalReason" = true := by first | (simp [plainName, overriddenIn]; done) | decide +kernel
theorem ef_rm_values (m : MethodId)  : entryFrame m #[] 0 = mkF m 0 #[] [] := by first | (simp [entryFrame, mkF, argsToLocals, Value.category]; done) | rfl
def Q_rm_values (Z : State) (wV : Addr) (kV : ClassId) (vV : List Value) (h0 : Heap) (n0 : Nat) (v : Option Value) (h : Heap) (L : List Loc) : Prop := (∃ (r : Addr), (v = some (.ref r)) ∧ (Fr n0 L) ∧ (Keep h0 h []) ∧ (h0.size ≤ r) ∧ (Exa Z h r "[Lcom/example/sluice/sluice/RefusalReason;") ∧ (Arv Z h r kV (.object "com/example/sluice/sluice/RefusalReason") (7 : Int32) vV .null))
set_option maxRecDepth 65536 in
set_option maxHeartbeats 40000000 in
theorem rm_values (l : Launch) (Z : State) (a0 : Array Value) (hw : ∀ d ∈ tables_1, d.before a0 Z = true) (ws : List Jvm.Cond) (wV : Addr) (kV : ClassId) (vV : List Value) (h0 : Heap) (n0 : Nat) (O0 : Old Z n0 h0) (S_V : Sta Z Z.heap "com/example/sluice/sluice/RefusalReason" "$VALUES" "[Lcom/example/sluice/sluice/RefusalReason;" (.ref wV)) (E_V : Exa Z Z.heap wV "[Lcom/example/sluice/sluice/RefusalReason;") (A_V : Arv Z Z.heap wV kV (.object "com/example/sluice/sluice/RefusalReason") (7 : Int32) vV .null) :
    MetFree l (⟨"com/example/sluice/sluice/RefusalReason", "values", "()[Lcom/example/sluice/sluice/RefusalReason;"⟩ : MethodName) (head1 (Jvm.Cond.code (⟨"com/example/sluice/sluice/RefusalReason", "values", "()[Lcom/example/sluice/sluice/RefusalReason;"⟩ : MethodName) prog_15_method_1_code 0 (some (.array (.object "com/example/sluice/sluice/RefusalReason"))) :: ws) ({ frames := 1, cells := 1, slots := 7, locals := 14 } : Room)) (fun a U => a = #[] ∧ Z.Warmed39 U.vm ∧ U.heap = h0) (fun _ _ _ _ _ => True) (fun _ U o U' => ∃ v L, o = .returned v ∧ Q_rm_values Z wV kV vV h0 n0 v U'.heap L ∧ FrameEnd U o U' L ({ frames := 1, cells := 1, slots := 7, locals := 14 } : Room).cells ({ frames := 1, cells := 1, slots := 7, locals := 14 } : Room).slots) := by
  refine MetFree.of_bodySF (plainFor_of_name pn_0) hisR ?_
  intro p e s m args below meth c s₁ Bd hml0 hP hK
  obtain ⟨rfl, hZ, hh⟩ := hP
  have hx := Bd.exec
  have hby := Bd.bytes
  have hml : c.maxLocals = 0 := hml0
  have hown : s.vm.findClass "com/example/sluice/sluice/RefusalReason" = some m.cls := findClass_of_methodNamed Bd.named
  have hnm := (name_of_methodNamed Bd.named Bd.method).1
  have X0 : Stand p l e ({ frames := 1, cells := 1, slots := 7, locals := 14 } : Room) s m #[] below meth c s₁ [] 0 0 := Stand.of_body Bd
  have e0 : s₁.heap = h0 := by rw [← hh, Bd.state]; rfl
  have N0 := Fr.nil n0
  have K0 : Keep h0 h0 [] := Keep.refl _ _
  have pre0 : ∀ t, Steps p.tables e below (s₁.setTop (mkF m 0 #[] [])) t → Steps p.tables e below (s₁.setTop (entryFrame m #[] 0)) t := fun t k => castTop (ef_rm_values m ) k
  obtain ⟨T1, X1, e1, st1⟩ := getS2 X0 hx hZ hown (host := "") (Or.inl (own_w hw 38 rfl)) Via.refl e0 (S_V.ext O0.2) (g := (mkF m 0 #[] [])) rfl (hb hby d2_0)
  obtain ⟨T2, h2, X2, e2, E2, A2, B2, st2⟩ := cloneH X1 hx hZ hown (own_w hw 40 rfl) (own_w hw 41 rfl) (own_w hw 45 rfl) (own_w hw 43 rfl) (own_w hw 44 rfl) (own_w hw 46 rfl) e1 (Arv.arh (A_V.ext O0.2)) (E_V.ext O0.2) (g := (mkF m 3 #[] [(.ref wV)])) rfl (by rw [hml]; rfl) rfl (hb hby d2_3) (by decide) (W := 0) (cap := 7) (by show 2 * 0 + _ ≤ _; exact Nat.le_of_eq rfl) (by decide) (by decide) (by decide) (by decide)
  obtain ⟨b2, g2⟩ : ∃ z, z = h0.size := ⟨_, rfl⟩
  have ge_b2 : n0 ≤ b2 := by rw [g2, ← O0.1]; exact O0.2.1
  have sz_b2 : h0.size ≤ b2 := by rw [g2]; exact K0.1
  rw [← g2] at A2 B2 st2
  have O3 := O0.ext E2
  have K4 : Keep h0 h2 [] := K0.ext E2
  have F2 : Arv Z h2 b2 kV (.object "com/example/sluice/sluice/RefusalReason") (7 : Int32) vV .null := A2
  obtain ⟨T5, X5, e5, st5⟩ := castY X2 hx hZ hown (own_w hw 55 rfl) e2 (Ins.self B2) (g := (mkF m 6 #[] [(.ref b2)])) rfl rfl (hb hby d2_6)
  have S6 : ∀ t, Steps p.tables e below (T5.setTop (mkF m 9 #[] [(.ref b2)])) t → Steps p.tables e below (s₁.setTop (mkF m 0 #[] [])) t := by
    intro t kt
    refine st1 _ ?_
    show Steps p.tables e below (T1.setTop (mkF m 3 #[] [(.ref wV)])) _
    refine st2 _ ?_
    show Steps p.tables e below (T2.setTop (mkF m 6 #[] [(.ref b2)])) _
    refine st5 _ ?_
    exact kt
  obtain ⟨fs, hr, hrun, hended, hW, hsame⟩ := X5.leave (v := some (.ref b2)) (fun h => by rw [Bd.returns] at h; cases h)
  refine ⟨_, _, pre0 _ (S6 _ ?_), hrun, hended, _, _, rfl, ?_, ⟨_, rfl⟩, hW, hsame.mono (by decide) (by decide)⟩
  · exact retOut X5 hx Bd.returns rfl (Or.inr (Or.inr (Or.inr (Or.inr ⟨rfl, rfl, rfl⟩)))) (hb hby d2_9) hr
  · show Q_rm_values Z wV kV vV h0 n0 _ T5.heap _
    rw [e5]
    exact ⟨b2, rfl, N0, K4, sz_b2, B2, F2⟩
theorem d3_0 : decode prog_39_method_1_code 0 = .ok (.aload_n 0, 1) := by decide +kernel
theorem d3_1 : decode prog_39_method_1_code 1 = .ok (.invokespecial 1, 3) := by decide +kernel
theorem d3_4 : decode prog_39_method_1_code 4 = .ok (.aload_n 0, 1) := by decide +kernel
theorem d3_5 : decode prog_39_method_1_code 5 = .ok (.ldc2_w 9, 3) := by decide +kernel
theorem d3_8 : decode prog_39_method_1_code 8 = .ok (.putfield 11, 3) := by decide +kernel
theorem d3_11 : decode prog_39_method_1_code 11 = .ok (.aload_n 0, 1) := by decide +kernel
theorem d3_12 : decode prog_39_method_1_code 12 = .ok (.ldc2_w 17, 3) := by decide +kernel
theorem d3_15 : decode prog_39_method_1_code 15 = .ok (.putfield 19, 3) := by decide +kernel
theorem d3_18 : decode prog_39_method_1_code 18 = .ok (.aload_n 0, 1) := by decide +kernel
theorem d3_19 : decode prog_39_method_1_code 19 = .ok (.invokestatic 22, 3) := by decide +kernel
theorem pd_0 : parseMethodDescriptor "()[Lcom/example/sluice/sluice/RefusalReason;" = some ⟨[], some (.array (.object "com/example/sluice/sluice/RefusalReason"))⟩ := by decide +kernel
theorem d3_22 : decode prog_39_method_1_code 22 = .ok (.arraylength, 1) := by decide +kernel
theorem d3_23 : decode prog_39_method_1_code 23 = .ok (.newarray .long, 2) := by decide +kernel
theorem d3_25 : decode prog_39_method_1_code 25 = .ok (.putfield 28, 3) := by decide +kernel
theorem d3_28 : decode prog_39_method_1_code 28 = .ok (.aload_n 0, 1) := by decide +kernel
theorem d3_29 : decode prog_39_method_1_code 29 = .ok (.lload_n 1, 1) := by decide +kernel
theorem d3_30 : decode prog_39_method_1_code 30 = .ok (.putfield 32, 3) := by decide +kernel
theorem d3_33 : decode prog_39_method_1_code 33 = .ok (.return_, 1) := by decide +kernel
theorem pn_1 : plainName "com/example/sluice/sluice/WaitRecorder$Tally" = true := by first | (simp [plainName, overriddenIn]; done) | decide +kernel
theorem ef_rm_tinit (m : MethodId) (x0 : Addr) (x1 : Int64) : entryFrame m #[(.ref x0), (.long x1)] 3 = mkF m 0 #[.val (.ref x0), .val (.long x1), .second] [] := by first | (simp [entryFrame, mkF, argsToLocals, Value.category]; done) | rfl
def Q_rm_tinit (Z : State) (aa : Addr) (fm : Int64) (wV : Addr) (kV : ClassId) (vV : List Value) (h0 : Heap) (n0 : Nat) (v : Option Value) (h : Heap) (L : List Loc) : Prop := (∃ (r : Addr) (k : ClassId), (v = none) ∧ (Fr n0 L) ∧ (Keep h0 h [aa]) ∧ (h0.size ≤ r) ∧ (Exa Z h aa "com/example/sluice/sluice/WaitRecorder$Tally") ∧ (Fld Z h aa "com/example/sluice/sluice/WaitRecorder$Tally" "fromMillis" "J" (.long fm)) ∧ (Fld Z h aa "com/example/sluice/sluice/WaitRecorder$Tally" "startedAfterWaiting" "J" (.long (0 : Int64))) ∧ (Fld Z h aa "com/example/sluice/sluice/WaitRecorder$Tally" "totalWaitMillis" "J" (.long (0 : Int64))) ∧ (Fld Z h aa "com/example/sluice/sluice/WaitRecorder$Tally" "minimumWaitMillis" "J" (.long (9223372036854775807 : Int64))) ∧ (Fld Z h aa "com/example/sluice/sluice/WaitRecorder$Tally" "maximumWaitMillis" "J" (.long (-9223372036854775808 : Int64))) ∧ (Fld Z h aa "com/example/sluice/sluice/WaitRecorder$Tally" "startedAtOnce" "J" (.long (0 : Int64))) ∧ (Fld Z h aa "com/example/sluice/sluice/WaitRecorder$Tally" "refused" "[J" (.ref r)) ∧ (Exa Z h r "[J") ∧ (Arv Z h r k .long (7 : Int32) [(.long (0 : Int64)), (.long (0 : Int64)), (.long (0 : Int64)), (.long (0 : Int64)), (.long (0 : Int64)), (.long (0 : Int64)), (.long (0 : Int64))] (.long (0 : Int64))))
set_option maxRecDepth 65536 in
set_option maxHeartbeats 40000000 in
theorem rm_tinit (l : Launch) (Z : State) (a0 : Array Value) (hw : ∀ d ∈ tables_1, d.before a0 Z = true) (ws : List Jvm.Cond) (aa : Addr) (fm : Int64) (wV : Addr) (kV : ClassId) (vV : List Value) (h0 : Heap) (n0 : Nat) (O0 : Old Z n0 h0) (E_a : Exa Z h0 aa "com/example/sluice/sluice/WaitRecorder$Tally") (g_a : n0 ≤ aa) (F_aa_fromMillis : Fld Z h0 aa "com/example/sluice/sluice/WaitRecorder$Tally" "fromMillis" "J" (.long (0 : Int64))) (F_aa_startedAfterWaiting : Fld Z h0 aa "com/example/sluice/sluice/WaitRecorder$Tally" "startedAfterWaiting" "J" (.long (0 : Int64))) (F_aa_totalWaitMillis : Fld Z h0 aa "com/example/sluice/sluice/WaitRecorder$Tally" "totalWaitMillis" "J" (.long (0 : Int64))) (F_aa_minimumWaitMillis : Fld Z h0 aa "com/example/sluice/sluice/WaitRecorder$Tally" "minimumWaitMillis" "J" (.long (0 : Int64))) (F_aa_maximumWaitMillis : Fld Z h0 aa "com/example/sluice/sluice/WaitRecorder$Tally" "maximumWaitMillis" "J" (.long (0 : Int64))) (F_aa_startedAtOnce : Fld Z h0 aa "com/example/sluice/sluice/WaitRecorder$Tally" "startedAtOnce" "J" (.long (0 : Int64))) (F_aa_refused : Fld Z h0 aa "com/example/sluice/sluice/WaitRecorder$Tally" "refused" "[J" .null) (S_V : Sta Z Z.heap "com/example/sluice/sluice/RefusalReason" "$VALUES" "[Lcom/example/sluice/sluice/RefusalReason;" (.ref wV)) (E_V : Exa Z Z.heap wV "[Lcom/example/sluice/sluice/RefusalReason;") (A_V : Arv Z Z.heap wV kV (.object "com/example/sluice/sluice/RefusalReason") (7 : Int32) vV .null) :
    MetFree l (⟨"com/example/sluice/sluice/WaitRecorder$Tally", "<init>", "(J)V"⟩ : MethodName) (head1 (Jvm.Cond.code (⟨"com/example/sluice/sluice/WaitRecorder$Tally", "<init>", "(J)V"⟩ : MethodName) prog_39_method_1_code 3 none :: ws) ({ frames := 2, cells := 2, slots := 14, locals := 26 } : Room)) (fun a U => a = #[(.ref aa), (.long fm)] ∧ Z.Warmed39 U.vm ∧ U.heap = h0) (fun _ _ _ _ _ => True) (fun _ U o U' => ∃ v L, o = .returned v ∧ Q_rm_tinit Z aa fm wV kV vV h0 n0 v U'.heap L ∧ FrameEnd U o U' L ({ frames := 2, cells := 2, slots := 14, locals := 26 } : Room).cells ({ frames := 2, cells := 2, slots := 14, locals := 26 } : Room).slots) := by
  refine MetFree.of_bodySF (plainFor_of_name pn_1) hisR ?_
  intro p e s m args below meth c s₁ Bd hml0 hP hK
  obtain ⟨rfl, hZ, hh⟩ := hP
  have hx := Bd.exec
  have hby := Bd.bytes
  have hml : c.maxLocals = 3 := hml0
  have hown : s.vm.findClass "com/example/sluice/sluice/WaitRecorder$Tally" = some m.cls := findClass_of_methodNamed Bd.named
  have hnm := (name_of_methodNamed Bd.named Bd.method).1
  have X0 : Stand p l e ({ frames := 2, cells := 2, slots := 14, locals := 26 } : Room) s m #[(.ref aa), (.long fm)] below meth c s₁ [] 0 0 := Stand.of_body Bd
  have e0 : s₁.heap = h0 := by rw [← hh, Bd.state]; rfl
  have N0 := Fr.nil n0
  have K0 : Keep h0 h0 [aa] := Keep.refl _ _
  have pre0 : ∀ t, Steps p.tables e below (s₁.setTop (mkF m 0 #[.val (.ref aa), .val (.long fm), .second] [])) t → Steps p.tables e below (s₁.setTop (entryFrame m #[(.ref aa), (.long fm)] 3)) t := fun t k => castTop (ef_rm_tinit m aa fm) k
  obtain ⟨T1, X1, e1, st1⟩ := initO X0 hx hZ hown (own_w hw 27 rfl) (own_w hw 12 rfl) (own_w hw 13 rfl) e0 (g := (mkF m 1 #[.val (.ref aa), .val (.long fm), .second] [(.ref aa)])) rfl (by rw [hml]; rfl) rfl (hb hby d3_1) (by decide) (W := 0) (by show 2 * 0 + _ ≤ _; exact Nat.le_of_eq rfl) (by decide)
  obtain ⟨T2, h2, X2, e2, W2, st2⟩ := putF X1 hx hZ hown (host := "") (Or.inl (own_w hw 29 rfl)) Via.refl e1 F_aa_minimumWaitMillis E_a (Or.inl (own_w hw 30 rfl)) (own_w hw 22 rfl) (ty := .long) (by decide) rfl rfl (g := (mkF m 8 #[.val (.ref aa), .val (.long fm), .second] [(.long (9223372036854775807 : Int64)), (.ref aa)])) rfl rfl (hb hby d3_8)
  have O3 := O0.wr W2 g_a
  have K4 : Keep h0 h2 [aa] := K0.wr W2 (Or.inl (List.mem_of_getElem? (i := 0) rfl))
  have N5 := Fr.snoc X2 N0 g_a
  have F2 : Fld Z h2 aa "com/example/sluice/sluice/WaitRecorder$Tally" "minimumWaitMillis" "J" (.long (9223372036854775807 : Int64)) := Fld.same W2 F_aa_minimumWaitMillis
  have f6 := (Fld.other W2 F_aa_maximumWaitMillis (Or.inr (slot_ne (Or.inl (own_w hw 33 rfl)) (Or.inl (own_w hw 30 rfl)) (by decide) (t := .long) (t' := .long) (by decide) (by decide))))
  have f7 := (Exa.wr W2 E_a)
  obtain ⟨T8, h8, X8, e8, W8, st8⟩ := putF X2 hx hZ hown (host := "") (Or.inl (own_w hw 32 rfl)) Via.refl e2 f6 f7 (Or.inl (own_w hw 33 rfl)) (own_w hw 22 rfl) (ty := .long) (by decide) rfl rfl (g := (mkF m 15 #[.val (.ref aa), .val (.long fm), .second] [(.long (-9223372036854775808 : Int64)), (.ref aa)])) rfl rfl (hb hby d3_15)
  have O9 := O3.wr W8 g_a
  have K10 : Keep h0 h8 [aa] := K4.wr W8 (Or.inl (List.mem_of_getElem? (i := 0) rfl))
  have N11 := Fr.snoc X8 N5 g_a
  have F8 : Fld Z h8 aa "com/example/sluice/sluice/WaitRecorder$Tally" "maximumWaitMillis" "J" (.long (-9223372036854775808 : Int64)) := Fld.same W8 f6
  obtain ⟨_, _, ⟨T12, L12, k12, n12⟩, -, X12, ⟨Lc12, hQ12, l12, y12, z12⟩, st12⟩ := Jvm.LawKit.callS X8 hx (y := (⟨"com/example/sluice/sluice/RefusalReason", "values", "()[Lcom/example/sluice/sluice/RefusalReason;"⟩ : MethodName)) hown (mvT hZ (own_w hw 34 rfl)) (mvT hZ (own_w hw 35 rfl)) (mvT hZ (own_w hw 36 rfl)) (mvT hZ (own_w hw 37 rfl)) (by decide) (backOf (W := 1) (rm_values l Z a0 hw [] wV kV vV h8 n0 O9 S_V E_V A_V) hZ (own_w hw 37 rfl) (own_w hw 36 rfl) (by decide) (by decide)) (g := (mkF m 19 #[.val (.ref aa), .val (.long fm), .second] [(.ref aa)])) rfl (by rw [hml]; rfl) (argsL := []) (rest := [(.ref aa)]) (lenOf pd_0 rfl) rfl (by show 2 * 0 + _ ≤ _; exact Nat.le_of_eq rfl) (hb hby d3_19) (fun _ _ => ⟨rfl, e8, (by decide : 0 + 1 ≤ _), (by decide : 0 + 7 ≤ _)⟩)
  dsimp only [Pt.U, Pt.locs, Pt.cells, Pt.slots] at X12 l12 y12 z12 st12 hQ12
  subst l12 y12 z12
  obtain ⟨x13, rfl, N14, k15, f16, f17, f18⟩ := hQ12
  have N19 := Fr.app N11 N14
  have ge20 : n0 ≤ x13 := by rw [← O9.1]; exact Nat.le_trans O9.2.1 f16
  have sz20 : h0.size ≤ x13 := Nat.le_trans K10.1 f16
  have f21 := (Exa.wr W8 f7)
  have ne22 : aa ≠ x13 := Nat.ne_of_lt (Nat.lt_of_lt_of_le (Exa.lt f21) f16)
  have O23 := O9.keep k15 all0
  have K24 : Keep h0 T12.heap [aa] := K10.trans k15 all0
  obtain ⟨cl25, Ar25, -, Sz25, Nn25, -, -⟩ := id f18
  obtain ⟨T26, h26, k26, X26, e26, E26, A26, B26, st26⟩ := newPE X12 hx hZ (own_w hw 57 rfl) rfl (g := (mkF m 23 #[.val (.ref aa), .val (.long fm), .second] [(.int (7 : Int32)), (.ref aa)])) rfl (hb hby d3_23) rfl (by decide) (cap := 7) (by decide) (by decide) (by decide) (by decide) (ad := "[J") (by first | rfl | decide)
  obtain ⟨b26, g26⟩ : ∃ z, z = T12.heap.size := ⟨_, rfl⟩
  have ge_b26 : n0 ≤ b26 := by rw [g26, ← O23.1]; exact O23.2.1
  have sz_b26 : h0.size ≤ b26 := by rw [g26]; exact K24.1
  have f27 := (Exa.keep f21 k15)
  have ne28 : aa ≠ b26 := Nat.ne_of_lt (Nat.lt_of_lt_of_le (Exa.lt f27) (Nat.le_of_eq g26.symm))
  have ne29 : x13 ≠ b26 := Nat.ne_of_lt (Nat.lt_of_lt_of_le (Exa.lt f17) (Nat.le_of_eq g26.symm))
  rw [← g26] at A26 B26 st26
  have O30 := O23.ext E26
  have K31 : Keep h0 h26 [aa] := K24.ext E26
  have F26 : Arv Z h26 b26 k26 .long (7 : Int32) [(.long (0 : Int64)), (.long (0 : Int64)), (.long (0 : Int64)), (.long (0 : Int64)), (.long (0 : Int64)), (.long (0 : Int64)), (.long (0 : Int64))] (.long (0 : Int64)) := (Arv.new A26 (by decide)).pad (pad_rep [] (.long (0 : Int64)) 7)
  have f32 := (Fld.ext E26 (Fld.keep (Fld.other W8 (Fld.other W2 F_aa_refused (Or.inr (slot_ne (Or.inr (own_w hw 59 rfl)) (Or.inl (own_w hw 30 rfl)) (by decide) (t := (.array .long)) (t' := .long) (by decide) (by decide)))) (Or.inr (slot_ne (Or.inr (own_w hw 59 rfl)) (Or.inl (own_w hw 33 rfl)) (by decide) (t := (.array .long)) (t' := .long) (by decide) (by decide)))) k15 nin0))
  have f33 := (Exa.ext E26 f27)
  obtain ⟨T34, h34, X34, e34, W34, st34⟩ := putF X26 hx hZ hown (host := "") (Or.inl (own_w hw 58 rfl)) Via.refl e26 f32 f33 (Or.inr ⟨(own_w hw 59 rfl), rfl, hnm⟩) (own_w hw 22 rfl) (ty := (.array .long)) (by decide) rfl rfl (g := (mkF m 25 #[.val (.ref aa), .val (.long fm), .second] [(.ref b26), (.ref aa)])) rfl rfl (hb hby d3_25)
  have O35 := O30.wr W34 g_a
  have K36 : Keep h0 h34 [aa] := K31.wr W34 (Or.inl (List.mem_of_getElem? (i := 0) rfl))
  have N37 := Fr.snoc X34 N19 g_a
  have F34 : Fld Z h34 aa "com/example/sluice/sluice/WaitRecorder$Tally" "refused" "[J" (.ref b26) := Fld.same W34 f32
  have f38 := (Fld.other W34 (Fld.ext E26 (Fld.keep (Fld.other W8 (Fld.other W2 F_aa_fromMillis (Or.inr (slot_ne (Or.inr (own_w hw 61 rfl)) (Or.inl (own_w hw 30 rfl)) (by decide) (t := .long) (t' := .long) (by decide) (by decide)))) (Or.inr (slot_ne (Or.inr (own_w hw 61 rfl)) (Or.inl (own_w hw 33 rfl)) (by decide) (t := .long) (t' := .long) (by decide) (by decide)))) k15 nin0)) (Or.inr (slot_ne (Or.inr (own_w hw 61 rfl)) (Or.inr (own_w hw 59 rfl)) (by decide) (t := .long) (t' := (.array .long)) (by decide) (by decide))))
  have f39 := (Exa.wr W34 f33)
  obtain ⟨T40, h40, X40, e40, W40, st40⟩ := putF X34 hx hZ hown (host := "") (Or.inl (own_w hw 60 rfl)) Via.refl e34 f38 f39 (Or.inr ⟨(own_w hw 61 rfl), rfl, hnm⟩) (own_w hw 22 rfl) (ty := .long) (by decide) rfl rfl (g := (mkF m 30 #[.val (.ref aa), .val (.long fm), .second] [(.long fm), (.ref aa)])) rfl rfl (hb hby d3_30)
  have O41 := O35.wr W40 g_a
  have K42 : Keep h0 h40 [aa] := K36.wr W40 (Or.inl (List.mem_of_getElem? (i := 0) rfl))
  have N43 := Fr.snoc X40 N37 g_a
  have F40 : Fld Z h40 aa "com/example/sluice/sluice/WaitRecorder$Tally" "fromMillis" "J" (.long fm) := Fld.same W40 f38
  have S44 : ∀ t, Steps p.tables e below (T40.setTop (mkF m 33 #[.val (.ref aa), .val (.long fm), .second] [])) t → Steps p.tables e below (s₁.setTop (mkF m 0 #[.val (.ref aa), .val (.long fm), .second] [])) t := by
    intro t kt
    refine XS.aloadN X0.here hx rfl (hb hby d3_0) rfl rfl ?_
    show Steps p.tables e below (s₁.setTop (mkF m 1 #[.val (.ref aa), .val (.long fm), .second] [(.ref aa)])) _
    refine st1 _ ?_
    refine XS.aloadN X1.here hx rfl (hb hby d3_4) rfl rfl ?_
    show Steps p.tables e below (T1.setTop (mkF m 5 #[.val (.ref aa), .val (.long fm), .second] [(.ref aa)])) _
    refine X1.ldc2Long hx hown (mvT hZ (own_w hw 28 rfl)) (g := (mkF m 5 #[.val (.ref aa), .val (.long fm), .second] [(.ref aa)])) rfl (hb hby d3_5) _ ?_
    show Steps p.tables e below (T1.setTop (mkF m 8 #[.val (.ref aa), .val (.long fm), .second] [(.long (9223372036854775807 : Int64)), (.ref aa)])) _
    refine st2 _ ?_
    refine XS.aloadN X2.here hx rfl (hb hby d3_11) rfl rfl ?_
    show Steps p.tables e below (T2.setTop (mkF m 12 #[.val (.ref aa), .val (.long fm), .second] [(.ref aa)])) _
    refine X2.ldc2Long hx hown (mvT hZ (own_w hw 31 rfl)) (g := (mkF m 12 #[.val (.ref aa), .val (.long fm), .second] [(.ref aa)])) rfl (hb hby d3_12) _ ?_
    show Steps p.tables e below (T2.setTop (mkF m 15 #[.val (.ref aa), .val (.long fm), .second] [(.long (-9223372036854775808 : Int64)), (.ref aa)])) _
    refine st8 _ ?_
    refine XS.aloadN X8.here hx rfl (hb hby d3_18) rfl rfl ?_
    show Steps p.tables e below (T8.setTop (mkF m 19 #[.val (.ref aa), .val (.long fm), .second] [(.ref aa)])) _
    refine st12 _ ?_
    show Steps p.tables e below (T12.setTop (mkF m 22 #[.val (.ref aa), .val (.long fm), .second] [(.ref x13), (.ref aa)])) _
    refine X12.arraylength hx (by exact Ar25.1) (State.isArrayOf_alike hZ.alike Ar25.2.1) (g := (mkF m 22 #[.val (.ref aa), .val (.long fm), .second] [(.ref x13), (.ref aa)])) rfl rfl (hb hby d3_22) _ ?_
    rw [len_of Sz25 Nn25]
    show Steps p.tables e below (T12.setTop (mkF m 23 #[.val (.ref aa), .val (.long fm), .second] [(.int (7 : Int32)), (.ref aa)])) _
    refine st26 _ ?_
    show Steps p.tables e below (T26.setTop (mkF m 25 #[.val (.ref aa), .val (.long fm), .second] [(.ref b26), (.ref aa)])) _
    refine st34 _ ?_
    refine XS.aloadN X34.here hx rfl (hb hby d3_28) rfl rfl ?_
    refine XS.lloadN X34.here hx rfl (hb hby d3_29) rfl ?_
    show Steps p.tables e below (T34.setTop (mkF m 30 #[.val (.ref aa), .val (.long fm), .second] [(.long fm), (.ref aa)])) _
    refine st40 _ ?_
    exact kt
  obtain ⟨fs, hr, hrun, hended, hW, hsame⟩ := X40.leave (v := none) (fun _ => rfl)
  have f45 := (Exa.wr W40 f39)
  have f46 := (Fld.other W40 (Fld.other W34 (Fld.ext E26 (Fld.keep (Fld.other W8 (Fld.other W2 F_aa_startedAfterWaiting (Or.inr (slot_ne (Or.inl (own_w hw 96 rfl)) (Or.inl (own_w hw 30 rfl)) (by decide) (t := .long) (t' := .long) (by decide) (by decide)))) (Or.inr (slot_ne (Or.inl (own_w hw 96 rfl)) (Or.inl (own_w hw 33 rfl)) (by decide) (t := .long) (t' := .long) (by decide) (by decide)))) k15 nin0)) (Or.inr (slot_ne (Or.inl (own_w hw 96 rfl)) (Or.inr (own_w hw 59 rfl)) (by decide) (t := .long) (t' := (.array .long)) (by decide) (by decide)))) (Or.inr (slot_ne (Or.inl (own_w hw 96 rfl)) (Or.inr (own_w hw 61 rfl)) (by decide) (t := .long) (t' := .long) (by decide) (by decide))))
  have f47 := (Fld.other W40 (Fld.other W34 (Fld.ext E26 (Fld.keep (Fld.other W8 (Fld.other W2 F_aa_totalWaitMillis (Or.inr (slot_ne (Or.inl (own_w hw 98 rfl)) (Or.inl (own_w hw 30 rfl)) (by decide) (t := .long) (t' := .long) (by decide) (by decide)))) (Or.inr (slot_ne (Or.inl (own_w hw 98 rfl)) (Or.inl (own_w hw 33 rfl)) (by decide) (t := .long) (t' := .long) (by decide) (by decide)))) k15 nin0)) (Or.inr (slot_ne (Or.inl (own_w hw 98 rfl)) (Or.inr (own_w hw 59 rfl)) (by decide) (t := .long) (t' := (.array .long)) (by decide) (by decide)))) (Or.inr (slot_ne (Or.inl (own_w hw 98 rfl)) (Or.inr (own_w hw 61 rfl)) (by decide) (t := .long) (t' := .long) (by decide) (by decide))))
  have f48 := (Fld.other W40 (Fld.other W34 (Fld.ext E26 (Fld.keep (Fld.other W8 F2 (Or.inr (slot_ne (Or.inl (own_w hw 30 rfl)) (Or.inl (own_w hw 33 rfl)) (by decide) (t := .long) (t' := .long) (by decide) (by decide)))) k15 nin0)) (Or.inr (slot_ne (Or.inl (own_w hw 30 rfl)) (Or.inr (own_w hw 59 rfl)) (by decide) (t := .long) (t' := (.array .long)) (by decide) (by decide)))) (Or.inr (slot_ne (Or.inl (own_w hw 30 rfl)) (Or.inr (own_w hw 61 rfl)) (by decide) (t := .long) (t' := .long) (by decide) (by decide))))
  have f49 := (Fld.other W40 (Fld.other W34 (Fld.ext E26 (Fld.keep F8 k15 nin0)) (Or.inr (slot_ne (Or.inl (own_w hw 33 rfl)) (Or.inr (own_w hw 59 rfl)) (by decide) (t := .long) (t' := (.array .long)) (by decide) (by decide)))) (Or.inr (slot_ne (Or.inl (own_w hw 33 rfl)) (Or.inr (own_w hw 61 rfl)) (by decide) (t := .long) (t' := .long) (by decide) (by decide))))
  have f50 := (Fld.other W40 (Fld.other W34 (Fld.ext E26 (Fld.keep (Fld.other W8 (Fld.other W2 F_aa_startedAtOnce (Or.inr (slot_ne (Or.inl (own_w hw 76 rfl)) (Or.inl (own_w hw 30 rfl)) (by decide) (t := .long) (t' := .long) (by decide) (by decide)))) (Or.inr (slot_ne (Or.inl (own_w hw 76 rfl)) (Or.inl (own_w hw 33 rfl)) (by decide) (t := .long) (t' := .long) (by decide) (by decide)))) k15 nin0)) (Or.inr (slot_ne (Or.inl (own_w hw 76 rfl)) (Or.inr (own_w hw 59 rfl)) (by decide) (t := .long) (t' := (.array .long)) (by decide) (by decide)))) (Or.inr (slot_ne (Or.inl (own_w hw 76 rfl)) (Or.inr (own_w hw 61 rfl)) (by decide) (t := .long) (t' := .long) (by decide) (by decide))))
  have f51 := (Fld.other W40 F34 (Or.inr (slot_ne (Or.inr (own_w hw 59 rfl)) (Or.inr (own_w hw 61 rfl)) (by decide) (t := (.array .long)) (t' := .long) (by decide) (by decide))))
  have f52 := (Exa.wr W40 (Exa.wr W34 B26))
  have f53 := (Arv.other (Arv.other F26 W34 (Ne.symm ne28)) W40 (Ne.symm ne28))
  refine ⟨_, _, pre0 _ (S44 _ ?_), hrun, hended, _, _, rfl, ?_, ⟨_, rfl⟩, hW, hsame.mono (by decide) (by decide)⟩
  · exact X40.returnOut hx Bd.returns (hb hby d3_33) hr
  · show Q_rm_tinit Z aa fm wV kV vV h0 n0 _ T40.heap _
    rw [e40]
    exact ⟨b26, k26, rfl, N43, K42, sz_b26, f45, F40, f46, f47, f48, f49, f50, f51, f52, f53⟩
theorem d4_0 : decode prog_38_method_1_code 0 = .ok (.aload_n 0, 1) := by decide +kernel
theorem d4_1 : decode prog_38_method_1_code 1 = .ok (.invokespecial 1, 3) := by decide +kernel
theorem d4_4 : decode prog_38_method_1_code 4 = .ok (.aload_n 0, 1) := by decide +kernel
theorem d4_5 : decode prog_38_method_1_code 5 = .ok (.lload_n 1, 1) := by decide +kernel
theorem d4_6 : decode prog_38_method_1_code 6 = .ok (.putfield 7, 3) := by decide +kernel
theorem d4_9 : decode prog_38_method_1_code 9 = .ok (.aload_n 0, 1) := by decide +kernel
theorem d4_10 : decode prog_38_method_1_code 10 = .ok (.lload_n 3, 1) := by decide +kernel
theorem d4_11 : decode prog_38_method_1_code 11 = .ok (.lload_n 1, 1) := by decide +kernel
theorem d4_12 : decode prog_38_method_1_code 12 = .ok (.invokestatic 13, 3) := by decide +kernel
theorem pd_1 : parseMethodDescriptor "(JJ)J" = some ⟨[.long, .long], some .long⟩ := by decide +kernel
theorem d4_15 : decode prog_38_method_1_code 15 = .ok (.putfield 19, 3) := by decide +kernel
theorem d4_18 : decode prog_38_method_1_code 18 = .ok (.aload_n 0, 1) := by decide +kernel
theorem d4_19 : decode prog_38_method_1_code 19 = .ok (.new 22, 3) := by decide +kernel
theorem d4_22 : decode prog_38_method_1_code 22 = .ok (.dup, 1) := by decide +kernel
theorem d4_23 : decode prog_38_method_1_code 23 = .ok (.aload_n 0, 1) := by decide +kernel
theorem d4_24 : decode prog_38_method_1_code 24 = .ok (.getfield 19, 3) := by decide +kernel
theorem d4_27 : decode prog_38_method_1_code 27 = .ok (.lload_n 1, 1) := by decide +kernel
theorem d4_28 : decode prog_38_method_1_code 28 = .ok (.lmul, 1) := by decide +kernel
theorem d4_29 : decode prog_38_method_1_code 29 = .ok (.invokespecial 24, 3) := by decide +kernel
theorem pd_2 : parseMethodDescriptor "(J)V" = some ⟨[.long], none⟩ := by decide +kernel
theorem d4_32 : decode prog_38_method_1_code 32 = .ok (.putfield 27, 3) := by decide +kernel
theorem d4_35 : decode prog_38_method_1_code 35 = .ok (.aload_n 0, 1) := by decide +kernel
theorem d4_36 : decode prog_38_method_1_code 36 = .ok (.new 22, 3) := by decide +kernel
theorem d4_39 : decode prog_38_method_1_code 39 = .ok (.dup, 1) := by decide +kernel
theorem d4_40 : decode prog_38_method_1_code 40 = .ok (.lload_n 3, 1) := by decide +kernel
theorem d4_41 : decode prog_38_method_1_code 41 = .ok (.invokespecial 24, 3) := by decide +kernel
theorem d4_44 : decode prog_38_method_1_code 44 = .ok (.putfield 31, 3) := by decide +kernel
theorem d4_47 : decode prog_38_method_1_code 47 = .ok (.return_, 1) := by decide +kernel
theorem pn_2 : plainName "com/example/sluice/sluice/WaitRecorder" = true := by first | (simp [plainName, overriddenIn]; done) | decide +kernel
theorem ef_rm_rinit (m : MethodId) (x0 : Addr) (x1 : Int64) (x2 : Int64) : entryFrame m #[(.ref x0), (.long x1), (.long x2)] 5 = mkF m 0 #[.val (.ref x0), .val (.long x1), .second, .val (.long x2), .second] [] := by first | (simp [entryFrame, mkF, argsToLocals, Value.category]; done) | rfl
def Q_rm_rinit (Z : State) (aa : Addr) (ln : Int64) (nw : Int64) (wV : Addr) (kV : ClassId) (vV : List Value) (h0 : Heap) (n0 : Nat) (v : Option Value) (h : Heap) (L : List Loc) : Prop := (∃ (t : Addr) (r : Addr) (k : ClassId) (s : Addr) (q : Addr) (j : ClassId), (v = none) ∧ (Fr n0 L) ∧ (Keep h0 h [aa]) ∧ (h0.size ≤ t) ∧ (h0.size ≤ r) ∧ (h0.size ≤ s) ∧ (h0.size ≤ q) ∧ (t ≠ r) ∧ (t ≠ s) ∧ (t ≠ q) ∧ (r ≠ s) ∧ (r ≠ q) ∧ (s ≠ q) ∧ (Exa Z h aa "com/example/sluice/sluice/WaitRecorder") ∧ (Fld Z h aa "com/example/sluice/sluice/WaitRecorder" "intervalMillis" "J" (.long ln)) ∧ (Fld Z h aa "com/example/sluice/sluice/WaitRecorder" "intervalIndex" "J" (.long (own_fd nw ln))) ∧ (Fld Z h aa "com/example/sluice/sluice/WaitRecorder" "interval" "Lcom/example/sluice/sluice/WaitRecorder$Tally;" (.ref t)) ∧ (Fld Z h aa "com/example/sluice/sluice/WaitRecorder" "sinceReset" "Lcom/example/sluice/sluice/WaitRecorder$Tally;" (.ref s)) ∧ (Exa Z h t "com/example/sluice/sluice/WaitRecorder$Tally") ∧ (Fld Z h t "com/example/sluice/sluice/WaitRecorder$Tally" "fromMillis" "J" (.long ((own_fd nw ln) * ln))) ∧ (Fld Z h t "com/example/sluice/sluice/WaitRecorder$Tally" "startedAfterWaiting" "J" (.long (0 : Int64))) ∧ (Fld Z h t "com/example/sluice/sluice/WaitRecorder$Tally" "totalWaitMillis" "J" (.long (0 : Int64))) ∧ (Fld Z h t "com/example/sluice/sluice/WaitRecorder$Tally" "minimumWaitMillis" "J" (.long (9223372036854775807 : Int64))) ∧ (Fld Z h t "com/example/sluice/sluice/WaitRecorder$Tally" "maximumWaitMillis" "J" (.long (-9223372036854775808 : Int64))) ∧ (Fld Z h t "com/example/sluice/sluice/WaitRecorder$Tally" "startedAtOnce" "J" (.long (0 : Int64))) ∧ (Fld Z h t "com/example/sluice/sluice/WaitRecorder$Tally" "refused" "[J" (.ref r)) ∧ (Exa Z h r "[J") ∧ (Arv Z h r k .long (7 : Int32) [(.long (0 : Int64)), (.long (0 : Int64)), (.long (0 : Int64)), (.long (0 : Int64)), (.long (0 : Int64)), (.long (0 : Int64)), (.long (0 : Int64))] (.long (0 : Int64))) ∧ (Exa Z h s "com/example/sluice/sluice/WaitRecorder$Tally") ∧ (Fld Z h s "com/example/sluice/sluice/WaitRecorder$Tally" "fromMillis" "J" (.long nw)) ∧ (Fld Z h s "com/example/sluice/sluice/WaitRecorder$Tally" "startedAfterWaiting" "J" (.long (0 : Int64))) ∧ (Fld Z h s "com/example/sluice/sluice/WaitRecorder$Tally" "totalWaitMillis" "J" (.long (0 : Int64))) ∧ (Fld Z h s "com/example/sluice/sluice/WaitRecorder$Tally" "minimumWaitMillis" "J" (.long (9223372036854775807 : Int64))) ∧ (Fld Z h s "com/example/sluice/sluice/WaitRecorder$Tally" "maximumWaitMillis" "J" (.long (-9223372036854775808 : Int64))) ∧ (Fld Z h s "com/example/sluice/sluice/WaitRecorder$Tally" "startedAtOnce" "J" (.long (0 : Int64))) ∧ (Fld Z h s "com/example/sluice/sluice/WaitRecorder$Tally" "refused" "[J" (.ref q)) ∧ (Exa Z h q "[J") ∧ (Arv Z h q j .long (7 : Int32) [(.long (0 : Int64)), (.long (0 : Int64)), (.long (0 : Int64)), (.long (0 : Int64)), (.long (0 : Int64)), (.long (0 : Int64)), (.long (0 : Int64))] (.long (0 : Int64))))
set_option maxRecDepth 65536 in
set_option maxHeartbeats 40000000 in
theorem rm_rinit (l : Launch) (Z : State) (a0 : Array Value) (hw : ∀ d ∈ tables_1, d.before a0 Z = true) (ws : List Jvm.Cond) (aa : Addr) (ln : Int64) (nw : Int64) (wV : Addr) (kV : ClassId) (vV : List Value) (h0 : Heap) (n0 : Nat) (O0 : Old Z n0 h0) (E_a : Exa Z h0 aa "com/example/sluice/sluice/WaitRecorder") (g_a : n0 ≤ aa) (F_aa_intervalMillis : Fld Z h0 aa "com/example/sluice/sluice/WaitRecorder" "intervalMillis" "J" (.long (0 : Int64))) (F_aa_intervalIndex : Fld Z h0 aa "com/example/sluice/sluice/WaitRecorder" "intervalIndex" "J" (.long (0 : Int64))) (F_aa_interval : Fld Z h0 aa "com/example/sluice/sluice/WaitRecorder" "interval" "Lcom/example/sluice/sluice/WaitRecorder$Tally;" .null) (F_aa_sinceReset : Fld Z h0 aa "com/example/sluice/sluice/WaitRecorder" "sinceReset" "Lcom/example/sluice/sluice/WaitRecorder$Tally;" .null) (S_V : Sta Z Z.heap "com/example/sluice/sluice/RefusalReason" "$VALUES" "[Lcom/example/sluice/sluice/RefusalReason;" (.ref wV)) (E_V : Exa Z Z.heap wV "[Lcom/example/sluice/sluice/RefusalReason;") (A_V : Arv Z Z.heap wV kV (.object "com/example/sluice/sluice/RefusalReason") (7 : Int32) vV .null) (hl : ¬ (ln = (0 : Int64))) :
    MetFree l (⟨"com/example/sluice/sluice/WaitRecorder", "<init>", "(JJ)V"⟩ : MethodName) (head1 (Jvm.Cond.code (⟨"com/example/sluice/sluice/WaitRecorder", "<init>", "(JJ)V"⟩ : MethodName) prog_38_method_1_code 5 none :: ws) ({ frames := 3, cells := 6, slots := 42, locals := 42 } : Room)) (fun a U => a = #[(.ref aa), (.long ln), (.long nw)] ∧ Z.Warmed39 U.vm ∧ U.heap = h0) (fun _ _ _ _ _ => True) (fun _ U o U' => ∃ v L, o = .returned v ∧ Q_rm_rinit Z aa ln nw wV kV vV h0 n0 v U'.heap L ∧ FrameEnd U o U' L ({ frames := 3, cells := 6, slots := 42, locals := 42 } : Room).cells ({ frames := 3, cells := 6, slots := 42, locals := 42 } : Room).slots) := by
  refine MetFree.of_bodySF (plainFor_of_name pn_2) hisR ?_
  intro p e s m args below meth c s₁ Bd hml0 hP hK
  obtain ⟨rfl, hZ, hh⟩ := hP
  have hx := Bd.exec
  have hby := Bd.bytes
  have hml : c.maxLocals = 5 := hml0
  have hown : s.vm.findClass "com/example/sluice/sluice/WaitRecorder" = some m.cls := findClass_of_methodNamed Bd.named
  have hnm := (name_of_methodNamed Bd.named Bd.method).1
  have X0 : Stand p l e ({ frames := 3, cells := 6, slots := 42, locals := 42 } : Room) s m #[(.ref aa), (.long ln), (.long nw)] below meth c s₁ [] 0 0 := Stand.of_body Bd
  have e0 : s₁.heap = h0 := by rw [← hh, Bd.state]; rfl
  have N0 := Fr.nil n0
  have K0 : Keep h0 h0 [aa] := Keep.refl _ _
  have pre0 : ∀ t, Steps p.tables e below (s₁.setTop (mkF m 0 #[.val (.ref aa), .val (.long ln), .second, .val (.long nw), .second] [])) t → Steps p.tables e below (s₁.setTop (entryFrame m #[(.ref aa), (.long ln), (.long nw)] 5)) t := fun t k => castTop (ef_rm_rinit m aa ln nw) k
  obtain ⟨T1, X1, e1, st1⟩ := initO X0 hx hZ hown (own_w hw 11 rfl) (own_w hw 12 rfl) (own_w hw 13 rfl) e0 (g := (mkF m 1 #[.val (.ref aa), .val (.long ln), .second, .val (.long nw), .second] [(.ref aa)])) rfl (by rw [hml]; rfl) rfl (hb hby d4_1) (by decide) (W := 0) (by show 2 * 0 + _ ≤ _; exact Nat.le_of_eq rfl) (by decide)
  obtain ⟨T2, h2, X2, e2, W2, st2⟩ := putF X1 hx hZ hown (host := "") (Or.inl (own_w hw 14 rfl)) Via.refl e1 F_aa_intervalMillis E_a (Or.inr ⟨(own_w hw 15 rfl), rfl, hnm⟩) (own_w hw 6 rfl) (ty := .long) (by decide) rfl rfl (g := (mkF m 6 #[.val (.ref aa), .val (.long ln), .second, .val (.long nw), .second] [(.long ln), (.ref aa)])) rfl rfl (hb hby d4_6)
  have O3 := O0.wr W2 g_a
  have K4 : Keep h0 h2 [aa] := K0.wr W2 (Or.inl (List.mem_of_getElem? (i := 0) rfl))
  have N5 := Fr.snoc X2 N0 g_a
  have F2 : Fld Z h2 aa "com/example/sluice/sluice/WaitRecorder" "intervalMillis" "J" (.long ln) := Fld.same W2 F_aa_intervalMillis
  obtain ⟨_, _, ⟨T6, L6, k6, n6⟩, -, X6, ⟨Lc6, hQ6, l6, y6, z6⟩, st6⟩ := Jvm.LawKit.callS X2 hx (y := (⟨"java/lang/Math", "floorDiv", "(JJ)J"⟩ : MethodName)) hown (mvT hZ (own_w hw 16 rfl)) (mvT hZ (own_w hw 17 rfl)) (mvT hZ (own_w hw 3 rfl)) (mvT hZ (own_w hw 18 rfl)) (by decide) (backOf (W := 1) (rm_fd l Z a0 hw [] nw ln h2 n0 O3 hl) hZ (own_w hw 18 rfl) (own_w hw 3 rfl) (by decide) (by decide)) (g := (mkF m 12 #[.val (.ref aa), .val (.long ln), .second, .val (.long nw), .second] [(.long ln), (.long nw), (.ref aa)])) rfl (by rw [hml]; rfl) (argsL := [(.long nw), (.long ln)]) (rest := [(.ref aa)]) (lenOf pd_1 rfl) rfl (by show 2 * 0 + _ ≤ _; exact Nat.le_of_eq rfl) (hb hby d4_12) (fun _ _ => ⟨rfl, e2, (by decide : 0 + 0 ≤ _), (by decide : 0 + 0 ≤ _)⟩)
  dsimp only [Pt.U, Pt.locs, Pt.cells, Pt.slots] at X6 l6 y6 z6 st6 hQ6
  subst l6 y6 z6
  obtain ⟨rfl, N7, k8⟩ := hQ6
  have N9 := Fr.app N5 N7
  have f10 := (Fld.other W2 F_aa_intervalIndex (Or.inr (slot_ne (Or.inl (own_w hw 20 rfl)) (Or.inr (own_w hw 15 rfl)) (by decide) (t := .long) (t' := .long) (by decide) (by decide))))
  have f11 := (Exa.wr W2 E_a)
  obtain ⟨T12, h12, X12, e12, W12, st12⟩ := putF X6 hx hZ hown (host := "") (Or.inl (own_w hw 19 rfl)) Via.refl k8 f10 f11 (Or.inl (own_w hw 20 rfl)) (own_w hw 6 rfl) (ty := .long) (by decide) rfl rfl (g := (mkF m 15 #[.val (.ref aa), .val (.long ln), .second, .val (.long nw), .second] [(.long (own_fd nw ln)), (.ref aa)])) rfl rfl (hb hby d4_15)
  have O13 := O3.wr W12 g_a
  have K14 : Keep h0 h12 [aa] := K4.wr W12 (Or.inl (List.mem_of_getElem? (i := 0) rfl))
  have N15 := Fr.snoc X12 N9 g_a
  have F12 : Fld Z h12 aa "com/example/sluice/sluice/WaitRecorder" "intervalIndex" "J" (.long (own_fd nw ln)) := Fld.same W12 f10
  obtain ⟨T16, h16, X16, e16, E16, A16, D16, -, st16⟩ := newO X12 hx hZ hown (own_w hw 21 rfl) (own_w hw 22 rfl) (own_w hw 23 rfl) e12 (g := (mkF m 19 #[.val (.ref aa), .val (.long ln), .second, .val (.long nw), .second] [(.ref aa)])) rfl (hb hby d4_19) (by decide) (by decide)
  obtain ⟨b16, g16⟩ : ∃ z, z = h12.size := ⟨_, rfl⟩
  have ge_b16 : n0 ≤ b16 := by rw [g16, ← O13.1]; exact O13.2.1
  have sz_b16 : h0.size ≤ b16 := by rw [g16]; exact K14.1
  have f17 := (Exa.wr W12 f11)
  have ne18 : aa ≠ b16 := Nat.ne_of_lt (Nat.lt_of_lt_of_le (Exa.lt f17) (Nat.le_of_eq g16.symm))
  rw [← g16] at A16 D16 st16
  have O19 := O13.ext E16
  have K20 : Keep h0 h16 [aa] := K14.ext E16
  have F21 : Fld Z h16 b16 "com/example/sluice/sluice/WaitRecorder$Tally" "minimumWaitMillis" "J" (.long (0 : Int64)) := D16 (Or.inl (own_w hw 30 rfl)) (ty := .long) (by decide)
  have F22 : Fld Z h16 b16 "com/example/sluice/sluice/WaitRecorder$Tally" "maximumWaitMillis" "J" (.long (0 : Int64)) := D16 (Or.inl (own_w hw 33 rfl)) (ty := .long) (by decide)
  have F23 : Fld Z h16 b16 "com/example/sluice/sluice/WaitRecorder$Tally" "refused" "[J" .null := D16 (Or.inr (own_w hw 59 rfl)) (ty := (.array .long)) (by decide)
  have F24 : Fld Z h16 b16 "com/example/sluice/sluice/WaitRecorder$Tally" "fromMillis" "J" (.long (0 : Int64)) := D16 (Or.inr (own_w hw 61 rfl)) (ty := .long) (by decide)
  have F25 : Fld Z h16 b16 "com/example/sluice/sluice/WaitRecorder$Tally" "startedAtOnce" "J" (.long (0 : Int64)) := D16 (Or.inl (own_w hw 76 rfl)) (ty := .long) (by decide)
  have F26 : Fld Z h16 b16 "com/example/sluice/sluice/WaitRecorder$Tally" "startedAfterWaiting" "J" (.long (0 : Int64)) := D16 (Or.inl (own_w hw 96 rfl)) (ty := .long) (by decide)
  have F27 : Fld Z h16 b16 "com/example/sluice/sluice/WaitRecorder$Tally" "totalWaitMillis" "J" (.long (0 : Int64)) := D16 (Or.inl (own_w hw 98 rfl)) (ty := .long) (by decide)
  have f28 := (Fld.ext E16 F12)
  obtain ⟨T29, X29, e29, st29⟩ := getF X16 hx hZ hown (host := "") (Or.inl (own_w hw 19 rfl)) Via.refl e16 f28 (g := (mkF m 24 #[.val (.ref aa), .val (.long ln), .second, .val (.long nw), .second] [(.ref aa), (.ref b16), (.ref b16), (.ref aa)])) rfl rfl (hb hby d4_24)
  obtain ⟨_, _, ⟨T30, L30, k30, n30⟩, -, X30, ⟨Lc30, hQ30, l30, y30, z30⟩, st30⟩ := X29.specialBack hx (y := (⟨"com/example/sluice/sluice/WaitRecorder$Tally", "<init>", "(J)V"⟩ : MethodName)) rfl hown (mvT hZ (own_w hw 24 rfl)) (mvT hZ (own_w hw 25 rfl)) (mvT hZ (own_w hw 26 rfl)) (by decide) (backOf (W := 2) (rm_tinit l Z a0 hw [] b16 ((own_fd nw ln) * ln) wV kV vV h16 n0 O19 A16 ge_b16 F24 F26 F27 F21 F22 F25 F23 S_V E_V A_V) hZ (own_w hw 26 rfl) (own_w hw 23 rfl) (by decide) (by decide)) (g := (mkF m 29 #[.val (.ref aa), .val (.long ln), .second, .val (.long nw), .second] [(.long ((own_fd nw ln) * ln)), (.ref b16), (.ref b16), (.ref aa)])) rfl (by rw [hml]; rfl) (Steps.refl _) (a := b16) (argsL := [(.long ((own_fd nw ln) * ln))]) (rest := [(.ref b16), (.ref aa)]) (lenOf pd_2 rfl) rfl (by show 2 * 0 + _ ≤ _; exact Nat.le_of_eq rfl) (hb hby d4_29) (fun _ _ => ⟨rfl, e29, (by decide : 1 + 2 ≤ _), (by decide : 7 + 14 ≤ _)⟩)
  dsimp only [Pt.U, Pt.locs, Pt.cells, Pt.slots] at X30 l30 y30 z30 st30 hQ30
  subst l30 y30 z30
  obtain ⟨x31, x32, rfl, N33, k34, f35, f36, f37, f38, f39, f40, f41, f42, f43, f44, f45⟩ := hQ30
  have N46 := Fr.app N15 N33
  have ge47 : n0 ≤ x31 := by rw [← O19.1]; exact Nat.le_trans O19.2.1 f35
  have sz47 : h0.size ≤ x31 := Nat.le_trans K20.1 f35
  have f48 := (Exa.ext E16 f17)
  have ne49 : aa ≠ x31 := Nat.ne_of_lt (Nat.lt_of_lt_of_le (Exa.lt f48) f35)
  have ne50 : b16 ≠ x31 := Nat.ne_of_lt (Nat.lt_of_lt_of_le (Exa.lt A16) f35)
  have O51 := O19.keep k34 (allS ge_b16 all0)
  have K52 : Keep h0 T30.heap [aa] := K20.trans k34 (allS (Or.inr sz_b16) all0)
  have f53 := (Fld.keep (Fld.ext E16 (Fld.other W12 (Fld.other W2 F_aa_interval (Or.inr (slot_ne (Or.inl (own_w hw 63 rfl)) (Or.inr (own_w hw 15 rfl)) (by decide) (t := (.object "com/example/sluice/sluice/WaitRecorder$Tally")) (t' := .long) (by decide) (by decide)))) (Or.inr (slot_ne (Or.inl (own_w hw 63 rfl)) (Or.inl (own_w hw 20 rfl)) (by decide) (t := (.object "com/example/sluice/sluice/WaitRecorder$Tally")) (t' := .long) (by decide) (by decide))))) k34 (ninS ne18 nin0))
  have f54 := (Exa.keep f48 k34)
  obtain ⟨T55, h55, X55, e55, W55, st55⟩ := putF X30 hx hZ hown (host := "") (Or.inl (own_w hw 62 rfl)) Via.refl rfl f53 f54 (Or.inl (own_w hw 63 rfl)) (own_w hw 6 rfl) (ty := (.object "com/example/sluice/sluice/WaitRecorder$Tally")) (by decide) rfl rfl (g := (mkF m 32 #[.val (.ref aa), .val (.long ln), .second, .val (.long nw), .second] [(.ref b16), (.ref aa)])) rfl rfl (hb hby d4_32)
  have O56 := O51.wr W55 g_a
  have K57 : Keep h0 h55 [aa] := K52.wr W55 (Or.inl (List.mem_of_getElem? (i := 0) rfl))
  have N58 := Fr.snoc X55 N46 g_a
  have F55 : Fld Z h55 aa "com/example/sluice/sluice/WaitRecorder" "interval" "Lcom/example/sluice/sluice/WaitRecorder$Tally;" (.ref b16) := Fld.same W55 f53
  obtain ⟨T59, h59, X59, e59, E59, A59, D59, -, st59⟩ := newO X55 hx hZ hown (own_w hw 21 rfl) (own_w hw 22 rfl) (own_w hw 23 rfl) e55 (g := (mkF m 36 #[.val (.ref aa), .val (.long ln), .second, .val (.long nw), .second] [(.ref aa)])) rfl (hb hby d4_36) (by decide) (by decide)
  obtain ⟨b59, g59⟩ : ∃ z, z = h55.size := ⟨_, rfl⟩
  have ge_b59 : n0 ≤ b59 := by rw [g59, ← O56.1]; exact O56.2.1
  have sz_b59 : h0.size ≤ b59 := by rw [g59]; exact K57.1
  have f60 := (Exa.wr W55 f54)
  have ne61 : aa ≠ b59 := Nat.ne_of_lt (Nat.lt_of_lt_of_le (Exa.lt f60) (Nat.le_of_eq g59.symm))
  have f62 := (Exa.wr W55 f36)
  have ne63 : b16 ≠ b59 := Nat.ne_of_lt (Nat.lt_of_lt_of_le (Exa.lt f62) (Nat.le_of_eq g59.symm))
  have f64 := (Exa.wr W55 f44)
  have ne65 : x31 ≠ b59 := Nat.ne_of_lt (Nat.lt_of_lt_of_le (Exa.lt f64) (Nat.le_of_eq g59.symm))
  rw [← g59] at A59 D59 st59
  have O66 := O56.ext E59
  have K67 : Keep h0 h59 [aa] := K57.ext E59
  have F68 : Fld Z h59 b59 "com/example/sluice/sluice/WaitRecorder$Tally" "minimumWaitMillis" "J" (.long (0 : Int64)) := D59 (Or.inl (own_w hw 30 rfl)) (ty := .long) (by decide)
  have F69 : Fld Z h59 b59 "com/example/sluice/sluice/WaitRecorder$Tally" "maximumWaitMillis" "J" (.long (0 : Int64)) := D59 (Or.inl (own_w hw 33 rfl)) (ty := .long) (by decide)
  have F70 : Fld Z h59 b59 "com/example/sluice/sluice/WaitRecorder$Tally" "refused" "[J" .null := D59 (Or.inr (own_w hw 59 rfl)) (ty := (.array .long)) (by decide)
  have F71 : Fld Z h59 b59 "com/example/sluice/sluice/WaitRecorder$Tally" "fromMillis" "J" (.long (0 : Int64)) := D59 (Or.inr (own_w hw 61 rfl)) (ty := .long) (by decide)
  have F72 : Fld Z h59 b59 "com/example/sluice/sluice/WaitRecorder$Tally" "startedAtOnce" "J" (.long (0 : Int64)) := D59 (Or.inl (own_w hw 76 rfl)) (ty := .long) (by decide)
  have F73 : Fld Z h59 b59 "com/example/sluice/sluice/WaitRecorder$Tally" "startedAfterWaiting" "J" (.long (0 : Int64)) := D59 (Or.inl (own_w hw 96 rfl)) (ty := .long) (by decide)
  have F74 : Fld Z h59 b59 "com/example/sluice/sluice/WaitRecorder$Tally" "totalWaitMillis" "J" (.long (0 : Int64)) := D59 (Or.inl (own_w hw 98 rfl)) (ty := .long) (by decide)
  obtain ⟨_, _, ⟨T75, L75, k75, n75⟩, -, X75, ⟨Lc75, hQ75, l75, y75, z75⟩, st75⟩ := X59.specialBack hx (y := (⟨"com/example/sluice/sluice/WaitRecorder$Tally", "<init>", "(J)V"⟩ : MethodName)) rfl hown (mvT hZ (own_w hw 24 rfl)) (mvT hZ (own_w hw 25 rfl)) (mvT hZ (own_w hw 26 rfl)) (by decide) (backOf (W := 2) (rm_tinit l Z a0 hw [] b59 nw wV kV vV h59 n0 O66 A59 ge_b59 F71 F73 F74 F68 F69 F72 F70 S_V E_V A_V) hZ (own_w hw 26 rfl) (own_w hw 23 rfl) (by decide) (by decide)) (g := (mkF m 41 #[.val (.ref aa), .val (.long ln), .second, .val (.long nw), .second] [(.long nw), (.ref b59), (.ref b59), (.ref aa)])) rfl (by rw [hml]; rfl) (Steps.refl _) (a := b59) (argsL := [(.long nw)]) (rest := [(.ref b59), (.ref aa)]) (lenOf pd_2 rfl) rfl (by show 2 * 0 + _ ≤ _; exact Nat.le_of_eq rfl) (hb hby d4_41) (fun _ _ => ⟨rfl, e59, (by decide : 4 + 2 ≤ _), (by decide : 28 + 14 ≤ _)⟩)
  dsimp only [Pt.U, Pt.locs, Pt.cells, Pt.slots] at X75 l75 y75 z75 st75 hQ75
  subst l75 y75 z75
  obtain ⟨x76, x77, rfl, N78, k79, f80, f81, f82, f83, f84, f85, f86, f87, f88, f89, f90⟩ := hQ75
  have N91 := Fr.app N58 N78
  have ge92 : n0 ≤ x76 := by rw [← O66.1]; exact Nat.le_trans O66.2.1 f80
  have sz92 : h0.size ≤ x76 := Nat.le_trans K67.1 f80
  have f93 := (Exa.ext E59 f60)
  have ne94 : aa ≠ x76 := Nat.ne_of_lt (Nat.lt_of_lt_of_le (Exa.lt f93) f80)
  have f95 := (Exa.ext E59 f62)
  have ne96 : b16 ≠ x76 := Nat.ne_of_lt (Nat.lt_of_lt_of_le (Exa.lt f95) f80)
  have f97 := (Exa.ext E59 f64)
  have ne98 : x31 ≠ x76 := Nat.ne_of_lt (Nat.lt_of_lt_of_le (Exa.lt f97) f80)
  have ne99 : b59 ≠ x76 := Nat.ne_of_lt (Nat.lt_of_lt_of_le (Exa.lt A59) f80)
  have O100 := O66.keep k79 (allS ge_b59 all0)
  have K101 : Keep h0 T75.heap [aa] := K67.trans k79 (allS (Or.inr sz_b59) all0)
  have f102 := (Fld.keep (Fld.ext E59 (Fld.other W55 (Fld.keep (Fld.ext E16 (Fld.other W12 (Fld.other W2 F_aa_sinceReset (Or.inr (slot_ne (Or.inl (own_w hw 65 rfl)) (Or.inr (own_w hw 15 rfl)) (by decide) (t := (.object "com/example/sluice/sluice/WaitRecorder$Tally")) (t' := .long) (by decide) (by decide)))) (Or.inr (slot_ne (Or.inl (own_w hw 65 rfl)) (Or.inl (own_w hw 20 rfl)) (by decide) (t := (.object "com/example/sluice/sluice/WaitRecorder$Tally")) (t' := .long) (by decide) (by decide))))) k34 (ninS ne18 nin0)) (Or.inr (slot_ne (Or.inl (own_w hw 65 rfl)) (Or.inl (own_w hw 63 rfl)) (by decide) (t := (.object "com/example/sluice/sluice/WaitRecorder$Tally")) (t' := (.object "com/example/sluice/sluice/WaitRecorder$Tally")) (by decide) (by decide))))) k79 (ninS ne61 nin0))
  have f103 := (Exa.keep f93 k79)
  obtain ⟨T104, h104, X104, e104, W104, st104⟩ := putF X75 hx hZ hown (host := "") (Or.inl (own_w hw 64 rfl)) Via.refl rfl f102 f103 (Or.inl (own_w hw 65 rfl)) (own_w hw 6 rfl) (ty := (.object "com/example/sluice/sluice/WaitRecorder$Tally")) (by decide) rfl rfl (g := (mkF m 44 #[.val (.ref aa), .val (.long ln), .second, .val (.long nw), .second] [(.ref b59), (.ref aa)])) rfl rfl (hb hby d4_44)
  have O105 := O100.wr W104 g_a
  have K106 : Keep h0 h104 [aa] := K101.wr W104 (Or.inl (List.mem_of_getElem? (i := 0) rfl))
  have N107 := Fr.snoc X104 N91 g_a
  have F104 : Fld Z h104 aa "com/example/sluice/sluice/WaitRecorder" "sinceReset" "Lcom/example/sluice/sluice/WaitRecorder$Tally;" (.ref b59) := Fld.same W104 f102
  have S108 : ∀ t, Steps p.tables e below (T104.setTop (mkF m 47 #[.val (.ref aa), .val (.long ln), .second, .val (.long nw), .second] [])) t → Steps p.tables e below (s₁.setTop (mkF m 0 #[.val (.ref aa), .val (.long ln), .second, .val (.long nw), .second] [])) t := by
    intro t kt
    refine XS.aloadN X0.here hx rfl (hb hby d4_0) rfl rfl ?_
    show Steps p.tables e below (s₁.setTop (mkF m 1 #[.val (.ref aa), .val (.long ln), .second, .val (.long nw), .second] [(.ref aa)])) _
    refine st1 _ ?_
    refine XS.aloadN X1.here hx rfl (hb hby d4_4) rfl rfl ?_
    refine XS.lloadN X1.here hx rfl (hb hby d4_5) rfl ?_
    show Steps p.tables e below (T1.setTop (mkF m 6 #[.val (.ref aa), .val (.long ln), .second, .val (.long nw), .second] [(.long ln), (.ref aa)])) _
    refine st2 _ ?_
    refine XS.aloadN X2.here hx rfl (hb hby d4_9) rfl rfl ?_
    refine XS.lloadN X2.here hx rfl (hb hby d4_10) rfl ?_
    refine XS.lloadN X2.here hx rfl (hb hby d4_11) rfl ?_
    show Steps p.tables e below (T2.setTop (mkF m 12 #[.val (.ref aa), .val (.long ln), .second, .val (.long nw), .second] [(.long ln), (.long nw), (.ref aa)])) _
    refine st6 _ ?_
    show Steps p.tables e below (T6.setTop (mkF m 15 #[.val (.ref aa), .val (.long ln), .second, .val (.long nw), .second] [(.long (own_fd nw ln)), (.ref aa)])) _
    refine st12 _ ?_
    refine XS.aloadN X12.here hx rfl (hb hby d4_18) rfl rfl ?_
    show Steps p.tables e below (T12.setTop (mkF m 19 #[.val (.ref aa), .val (.long ln), .second, .val (.long nw), .second] [(.ref aa)])) _
    refine st16 _ ?_
    refine XS.dup X16.here hx rfl (hb hby d4_22) rfl rfl ?_
    refine XS.aloadN X16.here hx rfl (hb hby d4_23) rfl rfl ?_
    show Steps p.tables e below (T16.setTop (mkF m 24 #[.val (.ref aa), .val (.long ln), .second, .val (.long nw), .second] [(.ref aa), (.ref b16), (.ref b16), (.ref aa)])) _
    refine st29 _ ?_
    refine XS.lloadN X29.here hx rfl (hb hby d4_27) rfl ?_
    refine XS.lmul X29.here hx rfl (hb hby d4_28) rfl ?_
    show Steps p.tables e below (T29.setTop (mkF m 29 #[.val (.ref aa), .val (.long ln), .second, .val (.long nw), .second] [(.long ((own_fd nw ln) * ln)), (.ref b16), (.ref b16), (.ref aa)])) _
    refine st30.trans ?_
    show Steps p.tables e below (T30.setTop (mkF m 32 #[.val (.ref aa), .val (.long ln), .second, .val (.long nw), .second] [(.ref b16), (.ref aa)])) _
    refine st55 _ ?_
    refine XS.aloadN X55.here hx rfl (hb hby d4_35) rfl rfl ?_
    show Steps p.tables e below (T55.setTop (mkF m 36 #[.val (.ref aa), .val (.long ln), .second, .val (.long nw), .second] [(.ref aa)])) _
    refine st59 _ ?_
    refine XS.dup X59.here hx rfl (hb hby d4_39) rfl rfl ?_
    refine XS.lloadN X59.here hx rfl (hb hby d4_40) rfl ?_
    show Steps p.tables e below (T59.setTop (mkF m 41 #[.val (.ref aa), .val (.long ln), .second, .val (.long nw), .second] [(.long nw), (.ref b59), (.ref b59), (.ref aa)])) _
    refine st75.trans ?_
    show Steps p.tables e below (T75.setTop (mkF m 44 #[.val (.ref aa), .val (.long ln), .second, .val (.long nw), .second] [(.ref b59), (.ref aa)])) _
    refine st104 _ ?_
    exact kt
  obtain ⟨fs, hr, hrun, hended, hW, hsame⟩ := X104.leave (v := none) (fun _ => rfl)
  have f109 := (Exa.wr W104 f103)
  have f110 := (Fld.other W104 (Fld.keep (Fld.ext E59 (Fld.other W55 (Fld.keep (Fld.ext E16 (Fld.other W12 F2 (Or.inr (slot_ne (Or.inr (own_w hw 15 rfl)) (Or.inl (own_w hw 20 rfl)) (by decide) (t := .long) (t' := .long) (by decide) (by decide))))) k34 (ninS ne18 nin0)) (Or.inr (slot_ne (Or.inr (own_w hw 15 rfl)) (Or.inl (own_w hw 63 rfl)) (by decide) (t := .long) (t' := (.object "com/example/sluice/sluice/WaitRecorder$Tally")) (by decide) (by decide))))) k79 (ninS ne61 nin0)) (Or.inr (slot_ne (Or.inr (own_w hw 15 rfl)) (Or.inl (own_w hw 65 rfl)) (by decide) (t := .long) (t' := (.object "com/example/sluice/sluice/WaitRecorder$Tally")) (by decide) (by decide))))
  have f111 := (Fld.other W104 (Fld.keep (Fld.ext E59 (Fld.other W55 (Fld.keep f28 k34 (ninS ne18 nin0)) (Or.inr (slot_ne (Or.inl (own_w hw 20 rfl)) (Or.inl (own_w hw 63 rfl)) (by decide) (t := .long) (t' := (.object "com/example/sluice/sluice/WaitRecorder$Tally")) (by decide) (by decide))))) k79 (ninS ne61 nin0)) (Or.inr (slot_ne (Or.inl (own_w hw 20 rfl)) (Or.inl (own_w hw 65 rfl)) (by decide) (t := .long) (t' := (.object "com/example/sluice/sluice/WaitRecorder$Tally")) (by decide) (by decide))))
  have f112 := (Fld.other W104 (Fld.keep (Fld.ext E59 F55) k79 (ninS ne61 nin0)) (Or.inr (slot_ne (Or.inl (own_w hw 63 rfl)) (Or.inl (own_w hw 65 rfl)) (by decide) (t := (.object "com/example/sluice/sluice/WaitRecorder$Tally")) (t' := (.object "com/example/sluice/sluice/WaitRecorder$Tally")) (by decide) (by decide))))
  have f113 := (Exa.wr W104 (Exa.keep f95 k79))
  have f114 := (Fld.other W104 (Fld.keep (Fld.ext E59 (Fld.other W55 f37 (Or.inl (Ne.symm ne18)))) k79 (ninS ne63 nin0)) (Or.inl (Ne.symm ne18)))
  have f115 := (Fld.other W104 (Fld.keep (Fld.ext E59 (Fld.other W55 f38 (Or.inl (Ne.symm ne18)))) k79 (ninS ne63 nin0)) (Or.inl (Ne.symm ne18)))
  have f116 := (Fld.other W104 (Fld.keep (Fld.ext E59 (Fld.other W55 f39 (Or.inl (Ne.symm ne18)))) k79 (ninS ne63 nin0)) (Or.inl (Ne.symm ne18)))
  have f117 := (Fld.other W104 (Fld.keep (Fld.ext E59 (Fld.other W55 f40 (Or.inl (Ne.symm ne18)))) k79 (ninS ne63 nin0)) (Or.inl (Ne.symm ne18)))
  have f118 := (Fld.other W104 (Fld.keep (Fld.ext E59 (Fld.other W55 f41 (Or.inl (Ne.symm ne18)))) k79 (ninS ne63 nin0)) (Or.inl (Ne.symm ne18)))
  have f119 := (Fld.other W104 (Fld.keep (Fld.ext E59 (Fld.other W55 f42 (Or.inl (Ne.symm ne18)))) k79 (ninS ne63 nin0)) (Or.inl (Ne.symm ne18)))
  have f120 := (Fld.other W104 (Fld.keep (Fld.ext E59 (Fld.other W55 f43 (Or.inl (Ne.symm ne18)))) k79 (ninS ne63 nin0)) (Or.inl (Ne.symm ne18)))
  have f121 := (Exa.wr W104 (Exa.keep f97 k79))
  have f122 := (Arv.other (Arv.keep (Arv.ext (Arv.other f45 W55 (Ne.symm ne49)) E59) k79 (ninS ne65 nin0)) W104 (Ne.symm ne49))
  have f123 := (Exa.wr W104 f81)
  have f124 := (Fld.other W104 f82 (Or.inl (Ne.symm ne61)))
  have f125 := (Fld.other W104 f83 (Or.inl (Ne.symm ne61)))
  have f126 := (Fld.other W104 f84 (Or.inl (Ne.symm ne61)))
  have f127 := (Fld.other W104 f85 (Or.inl (Ne.symm ne61)))
  have f128 := (Fld.other W104 f86 (Or.inl (Ne.symm ne61)))
  have f129 := (Fld.other W104 f87 (Or.inl (Ne.symm ne61)))
  have f130 := (Fld.other W104 f88 (Or.inl (Ne.symm ne61)))
  have f131 := (Exa.wr W104 f89)
  have f132 := (Arv.other f90 W104 (Ne.symm ne94))
  refine ⟨_, _, pre0 _ (S108 _ ?_), hrun, hended, _, _, rfl, ?_, ⟨_, rfl⟩, hW, hsame.mono (by decide) (by decide)⟩
  · exact X104.returnOut hx Bd.returns (hb hby d4_47) hr
  · show Q_rm_rinit Z aa ln nw wV kV vV h0 n0 _ T104.heap _
    rw [e104]
    exact ⟨b16, x31, x32, b59, x76, x77, rfl, N107, K106, sz_b16, sz47, sz_b59, sz92, ne50, ne63, ne96, ne65, ne98, ne99, f109, f110, f111, f112, F104, f113, f114, f115, f116, f117, f118, f119, f120, f121, f122, f123, f124, f125, f126, f127, f128, f129, f130, f131, f132⟩
theorem d5_0 : decode prog_38_method_10_code 0 = .ok (.lload_n 1, 1) := by decide +kernel
theorem d5_1 : decode prog_38_method_10_code 1 = .ok (.aload_n 0, 1) := by decide +kernel
theorem d5_2 : decode prog_38_method_10_code 2 = .ok (.getfield 7, 3) := by decide +kernel
theorem d5_5 : decode prog_38_method_10_code 5 = .ok (.invokestatic 13, 3) := by decide +kernel
theorem d5_8 : decode prog_38_method_10_code 8 = .ok (.lstore_n 3, 1) := by decide +kernel
theorem d5_9 : decode prog_38_method_10_code 9 = .ok (.lload_n 3, 1) := by decide +kernel
theorem d5_10 : decode prog_38_method_10_code 10 = .ok (.aload_n 0, 1) := by decide +kernel
theorem d5_11 : decode prog_38_method_10_code 11 = .ok (.getfield 19, 3) := by decide +kernel
theorem d5_14 : decode prog_38_method_10_code 14 = .ok (.lcmp, 1) := by decide +kernel
theorem d5_15 : decode prog_38_method_10_code 15 = .ok (.ifCond .eq 25, 3) := by decide +kernel
theorem d5_40 : decode prog_38_method_10_code 40 = .ok (.aload_n 0, 1) := by decide +kernel
theorem d5_41 : decode prog_38_method_10_code 41 = .ok (.getfield 27, 3) := by decide +kernel
theorem d5_44 : decode prog_38_method_10_code 44 = .ok (.areturn, 1) := by decide +kernel
theorem d5_18 : decode prog_38_method_10_code 18 = .ok (.aload_n 0, 1) := by decide +kernel
theorem d5_19 : decode prog_38_method_10_code 19 = .ok (.lload_n 3, 1) := by decide +kernel
theorem d5_20 : decode prog_38_method_10_code 20 = .ok (.putfield 19, 3) := by decide +kernel
theorem d5_23 : decode prog_38_method_10_code 23 = .ok (.aload_n 0, 1) := by decide +kernel
theorem d5_24 : decode prog_38_method_10_code 24 = .ok (.new 22, 3) := by decide +kernel
theorem d5_27 : decode prog_38_method_10_code 27 = .ok (.dup, 1) := by decide +kernel
theorem d5_28 : decode prog_38_method_10_code 28 = .ok (.lload_n 3, 1) := by decide +kernel
theorem d5_29 : decode prog_38_method_10_code 29 = .ok (.aload_n 0, 1) := by decide +kernel
theorem d5_30 : decode prog_38_method_10_code 30 = .ok (.getfield 7, 3) := by decide +kernel
theorem d5_33 : decode prog_38_method_10_code 33 = .ok (.lmul, 1) := by decide +kernel
theorem d5_34 : decode prog_38_method_10_code 34 = .ok (.invokespecial 24, 3) := by decide +kernel
theorem d5_37 : decode prog_38_method_10_code 37 = .ok (.putfield 27, 3) := by decide +kernel
theorem ef_rm_cur (m : MethodId) (x0 : Addr) (x1 : Int64) : entryFrame m #[(.ref x0), (.long x1)] 5 = mkF m 0 #[.val (.ref x0), .val (.long x1), .second, .unset, .unset] [] := by first | (simp [entryFrame, mkF, argsToLocals, Value.category]; done) | rfl
def Q_rm_cur (Z : State) (aa : Addr) (nw : Int64) (ln : Int64) (ix : Int64) (t' : Addr) (r : Addr) (k' : ClassId) (s' : Addr) (q : Addr) (j : ClassId) (ft_ : Int64) (ct : Int64) (fs_ : Int64) (cs : Int64) (wV : Addr) (kV : ClassId) (vV : List Value) (h0 : Heap) (n0 : Nat) (v : Option Value) (h : Heap) (L : List Loc) : Prop := (((own_fd nw ln) = ix) ∧ (v = some (.ref t')) ∧ (Fr n0 L) ∧ (h = h0)) ∨ (∃ (t2 : Addr) (r2 : Addr) (k2 : ClassId), (¬ ((own_fd nw ln) = ix)) ∧ (v = some (.ref t2)) ∧ (Fr n0 L) ∧ (Keep h0 h [aa]) ∧ (h0.size ≤ t2) ∧ (h0.size ≤ r2) ∧ (t2 ≠ r2) ∧ (Exa Z h aa "com/example/sluice/sluice/WaitRecorder") ∧ (Fld Z h aa "com/example/sluice/sluice/WaitRecorder" "intervalMillis" "J" (.long ln)) ∧ (Fld Z h aa "com/example/sluice/sluice/WaitRecorder" "intervalIndex" "J" (.long (own_fd nw ln))) ∧ (Fld Z h aa "com/example/sluice/sluice/WaitRecorder" "interval" "Lcom/example/sluice/sluice/WaitRecorder$Tally;" (.ref t2)) ∧ (Fld Z h aa "com/example/sluice/sluice/WaitRecorder" "sinceReset" "Lcom/example/sluice/sluice/WaitRecorder$Tally;" (.ref s')) ∧ (Exa Z h t2 "com/example/sluice/sluice/WaitRecorder$Tally") ∧ (Fld Z h t2 "com/example/sluice/sluice/WaitRecorder$Tally" "fromMillis" "J" (.long ((own_fd nw ln) * ln))) ∧ (Fld Z h t2 "com/example/sluice/sluice/WaitRecorder$Tally" "startedAfterWaiting" "J" (.long (0 : Int64))) ∧ (Fld Z h t2 "com/example/sluice/sluice/WaitRecorder$Tally" "totalWaitMillis" "J" (.long (0 : Int64))) ∧ (Fld Z h t2 "com/example/sluice/sluice/WaitRecorder$Tally" "minimumWaitMillis" "J" (.long (9223372036854775807 : Int64))) ∧ (Fld Z h t2 "com/example/sluice/sluice/WaitRecorder$Tally" "maximumWaitMillis" "J" (.long (-9223372036854775808 : Int64))) ∧ (Fld Z h t2 "com/example/sluice/sluice/WaitRecorder$Tally" "startedAtOnce" "J" (.long (0 : Int64))) ∧ (Fld Z h t2 "com/example/sluice/sluice/WaitRecorder$Tally" "refused" "[J" (.ref r2)) ∧ (Exa Z h r2 "[J") ∧ (Arv Z h r2 k2 .long (7 : Int32) [(.long (0 : Int64)), (.long (0 : Int64)), (.long (0 : Int64)), (.long (0 : Int64)), (.long (0 : Int64)), (.long (0 : Int64)), (.long (0 : Int64))] (.long (0 : Int64))))
set_option maxRecDepth 65536 in
set_option maxHeartbeats 40000000 in
theorem rm_cur (l : Launch) (Z : State) (a0 : Array Value) (hw : ∀ d ∈ tables_1, d.before a0 Z = true) (ws : List Jvm.Cond) (aa : Addr) (nw : Int64) (ln : Int64) (ix : Int64) (t' : Addr) (r : Addr) (k' : ClassId) (s' : Addr) (q : Addr) (j : ClassId) (ft_ : Int64) (ct : Int64) (fs_ : Int64) (cs : Int64) (wV : Addr) (kV : ClassId) (vV : List Value) (h0 : Heap) (n0 : Nat) (O0 : Old Z n0 h0) (p0 : Exa Z h0 aa "com/example/sluice/sluice/WaitRecorder") (p1 : Fld Z h0 aa "com/example/sluice/sluice/WaitRecorder" "intervalMillis" "J" (.long ln)) (p2 : Fld Z h0 aa "com/example/sluice/sluice/WaitRecorder" "intervalIndex" "J" (.long ix)) (p3 : Fld Z h0 aa "com/example/sluice/sluice/WaitRecorder" "interval" "Lcom/example/sluice/sluice/WaitRecorder$Tally;" (.ref t')) (p4 : Fld Z h0 aa "com/example/sluice/sluice/WaitRecorder" "sinceReset" "Lcom/example/sluice/sluice/WaitRecorder$Tally;" (.ref s')) (p5 : Exa Z h0 t' "com/example/sluice/sluice/WaitRecorder$Tally") (p6 : Fld Z h0 t' "com/example/sluice/sluice/WaitRecorder$Tally" "fromMillis" "J" (.long ft_)) (p7 : Fld Z h0 t' "com/example/sluice/sluice/WaitRecorder$Tally" "startedAfterWaiting" "J" (.long (0 : Int64))) (p8 : Fld Z h0 t' "com/example/sluice/sluice/WaitRecorder$Tally" "totalWaitMillis" "J" (.long (0 : Int64))) (p9 : Fld Z h0 t' "com/example/sluice/sluice/WaitRecorder$Tally" "minimumWaitMillis" "J" (.long (9223372036854775807 : Int64))) (p10 : Fld Z h0 t' "com/example/sluice/sluice/WaitRecorder$Tally" "maximumWaitMillis" "J" (.long (-9223372036854775808 : Int64))) (p11 : Fld Z h0 t' "com/example/sluice/sluice/WaitRecorder$Tally" "startedAtOnce" "J" (.long ct)) (p12 : Fld Z h0 t' "com/example/sluice/sluice/WaitRecorder$Tally" "refused" "[J" (.ref r)) (p13 : Exa Z h0 r "[J") (p14 : Arv Z h0 r k' .long (7 : Int32) [(.long (0 : Int64)), (.long (0 : Int64)), (.long (0 : Int64)), (.long (0 : Int64)), (.long (0 : Int64)), (.long (0 : Int64)), (.long (0 : Int64))] (.long (0 : Int64))) (p15 : Exa Z h0 s' "com/example/sluice/sluice/WaitRecorder$Tally") (p16 : Fld Z h0 s' "com/example/sluice/sluice/WaitRecorder$Tally" "fromMillis" "J" (.long fs_)) (p17 : Fld Z h0 s' "com/example/sluice/sluice/WaitRecorder$Tally" "startedAfterWaiting" "J" (.long (0 : Int64))) (p18 : Fld Z h0 s' "com/example/sluice/sluice/WaitRecorder$Tally" "totalWaitMillis" "J" (.long (0 : Int64))) (p19 : Fld Z h0 s' "com/example/sluice/sluice/WaitRecorder$Tally" "minimumWaitMillis" "J" (.long (9223372036854775807 : Int64))) (p20 : Fld Z h0 s' "com/example/sluice/sluice/WaitRecorder$Tally" "maximumWaitMillis" "J" (.long (-9223372036854775808 : Int64))) (p21 : Fld Z h0 s' "com/example/sluice/sluice/WaitRecorder$Tally" "startedAtOnce" "J" (.long cs)) (p22 : Fld Z h0 s' "com/example/sluice/sluice/WaitRecorder$Tally" "refused" "[J" (.ref q)) (p23 : Exa Z h0 q "[J") (p24 : Arv Z h0 q j .long (7 : Int32) [(.long (0 : Int64)), (.long (0 : Int64)), (.long (0 : Int64)), (.long (0 : Int64)), (.long (0 : Int64)), (.long (0 : Int64)), (.long (0 : Int64))] (.long (0 : Int64))) (p25 : n0 ≤ aa) (p26 : n0 ≤ t') (p27 : n0 ≤ s') (p28 : aa ≠ t') (p29 : aa ≠ r) (p30 : aa ≠ s') (p31 : aa ≠ q) (p32 : t' ≠ r) (p33 : t' ≠ s') (p34 : t' ≠ q) (p35 : r ≠ s') (p36 : r ≠ q) (p37 : s' ≠ q) (S_V : Sta Z Z.heap "com/example/sluice/sluice/RefusalReason" "$VALUES" "[Lcom/example/sluice/sluice/RefusalReason;" (.ref wV)) (E_V : Exa Z Z.heap wV "[Lcom/example/sluice/sluice/RefusalReason;") (A_V : Arv Z Z.heap wV kV (.object "com/example/sluice/sluice/RefusalReason") (7 : Int32) vV .null) (hl : ¬ (ln = (0 : Int64))) :
    MetFree l (⟨"com/example/sluice/sluice/WaitRecorder", "currentInterval", "(J)Lcom/example/sluice/sluice/WaitRecorder$Tally;"⟩ : MethodName) (head1 (Jvm.Cond.code (⟨"com/example/sluice/sluice/WaitRecorder", "currentInterval", "(J)Lcom/example/sluice/sluice/WaitRecorder$Tally;"⟩ : MethodName) prog_38_method_10_code 5 (some (.object "com/example/sluice/sluice/WaitRecorder$Tally")) :: ws) ({ frames := 3, cells := 3, slots := 21, locals := 42 } : Room)) (fun a U => a = #[(.ref aa), (.long nw)] ∧ Z.Warmed39 U.vm ∧ U.heap = h0) (fun _ _ _ _ _ => True) (fun _ U o U' => ∃ v L, o = .returned v ∧ Q_rm_cur Z aa nw ln ix t' r k' s' q j ft_ ct fs_ cs wV kV vV h0 n0 v U'.heap L ∧ FrameEnd U o U' L ({ frames := 3, cells := 3, slots := 21, locals := 42 } : Room).cells ({ frames := 3, cells := 3, slots := 21, locals := 42 } : Room).slots) := by
  refine MetFree.of_bodySF (plainFor_of_name pn_2) hisR ?_
  intro p e s m args below meth c s₁ Bd hml0 hP hK
  obtain ⟨rfl, hZ, hh⟩ := hP
  have hx := Bd.exec
  have hby := Bd.bytes
  have hml : c.maxLocals = 5 := hml0
  have hown : s.vm.findClass "com/example/sluice/sluice/WaitRecorder" = some m.cls := findClass_of_methodNamed Bd.named
  have hnm := (name_of_methodNamed Bd.named Bd.method).1
  have X0 : Stand p l e ({ frames := 3, cells := 3, slots := 21, locals := 42 } : Room) s m #[(.ref aa), (.long nw)] below meth c s₁ [] 0 0 := Stand.of_body Bd
  have e0 : s₁.heap = h0 := by rw [← hh, Bd.state]; rfl
  have N0 := Fr.nil n0
  have K0 : Keep h0 h0 [aa] := Keep.refl _ _
  have pre0 : ∀ t, Steps p.tables e below (s₁.setTop (mkF m 0 #[.val (.ref aa), .val (.long nw), .second, .unset, .unset] [])) t → Steps p.tables e below (s₁.setTop (entryFrame m #[(.ref aa), (.long nw)] 5)) t := fun t k => castTop (ef_rm_cur m aa nw) k
  obtain ⟨T1, X1, e1, st1⟩ := getF X0 hx hZ hown (host := "") (Or.inl (own_w hw 14 rfl)) Via.refl e0 p1 (g := (mkF m 2 #[.val (.ref aa), .val (.long nw), .second, .unset, .unset] [(.ref aa), (.long nw)])) rfl rfl (hb hby d5_2)
  obtain ⟨_, _, ⟨T2, L2, k2, n2⟩, -, X2, ⟨Lc2, hQ2, l2, y2, z2⟩, st2⟩ := Jvm.LawKit.callS X1 hx (y := (⟨"java/lang/Math", "floorDiv", "(JJ)J"⟩ : MethodName)) hown (mvT hZ (own_w hw 16 rfl)) (mvT hZ (own_w hw 17 rfl)) (mvT hZ (own_w hw 3 rfl)) (mvT hZ (own_w hw 18 rfl)) (by decide) (backOf (W := 0) (rm_fd l Z a0 hw [] nw ln h0 n0 O0 hl) hZ (own_w hw 18 rfl) (own_w hw 3 rfl) (by decide) (by decide)) (g := (mkF m 5 #[.val (.ref aa), .val (.long nw), .second, .unset, .unset] [(.long ln), (.long nw)])) rfl (by rw [hml]; rfl) (argsL := [(.long nw), (.long ln)]) (rest := []) (lenOf pd_1 rfl) rfl (by show 2 * 0 + _ ≤ _; exact Nat.le_of_eq rfl) (hb hby d5_5) (fun _ _ => ⟨rfl, e1, (by decide : 0 + 0 ≤ _), (by decide : 0 + 0 ≤ _)⟩)
  dsimp only [Pt.U, Pt.locs, Pt.cells, Pt.slots] at X2 l2 y2 z2 st2 hQ2
  subst l2 y2 z2
  obtain ⟨rfl, N3, k4⟩ := hQ2
  have N5 := Fr.app N0 N3
  obtain ⟨T6, X6, e6, st6⟩ := getF X2 hx hZ hown (host := "") (Or.inl (own_w hw 19 rfl)) Via.refl k4 p2 (g := (mkF m 11 #[.val (.ref aa), .val (.long nw), .second, .val (.long (own_fd nw ln)), .second] [(.ref aa), (.long (own_fd nw ln))])) rfl rfl (hb hby d5_11)
  have S7 : ∀ t, Steps p.tables e below (T6.setTop (mkF m 15 #[.val (.ref aa), .val (.long nw), .second, .val (.long (own_fd nw ln)), .second] [(.int (lcmpW (own_fd nw ln) ix))])) t → Steps p.tables e below (s₁.setTop (mkF m 0 #[.val (.ref aa), .val (.long nw), .second, .unset, .unset] [])) t := by
    intro t kt
    refine XS.lloadN X0.here hx rfl (hb hby d5_0) rfl ?_
    refine XS.aloadN X0.here hx rfl (hb hby d5_1) rfl rfl ?_
    show Steps p.tables e below (s₁.setTop (mkF m 2 #[.val (.ref aa), .val (.long nw), .second, .unset, .unset] [(.ref aa), (.long nw)])) _
    refine st1 _ ?_
    show Steps p.tables e below (T1.setTop (mkF m 5 #[.val (.ref aa), .val (.long nw), .second, .unset, .unset] [(.long ln), (.long nw)])) _
    refine st2 _ ?_
    refine XS.lstoreN X2.here hx rfl (hb hby d5_8) rfl (l' := #[.val (.ref aa), .val (.long nw), .second, .val (.long (own_fd nw ln)), .second]) rfl ?_
    refine XS.lloadN X2.here hx rfl (hb hby d5_9) rfl ?_
    refine XS.aloadN X2.here hx rfl (hb hby d5_10) rfl rfl ?_
    show Steps p.tables e below (T2.setTop (mkF m 11 #[.val (.ref aa), .val (.long nw), .second, .val (.long (own_fd nw ln)), .second] [(.ref aa), (.long (own_fd nw ln))])) _
    refine st6 _ ?_
    refine XS.lcmp X6.here hx rfl (hb hby d5_14) rfl ?_
    exact kt
  rcases Decidable.em ((own_fd nw ln) = ix) with c8 | c8
  · obtain ⟨T9, X9, e9, st9⟩ := getF X6 hx hZ hown (host := "") (Or.inl (own_w hw 62 rfl)) Via.refl e6 p3 (g := (mkF m 41 #[.val (.ref aa), .val (.long nw), .second, .val (.long (own_fd nw ln)), .second] [(.ref aa)])) rfl rfl (hb hby d5_41)
    have S10 : ∀ t, Steps p.tables e below (T9.setTop (mkF m 44 #[.val (.ref aa), .val (.long nw), .second, .val (.long (own_fd nw ln)), .second] [(.ref t')])) t → Steps p.tables e below (s₁.setTop (mkF m 0 #[.val (.ref aa), .val (.long nw), .second, .unset, .unset] [])) t := by
      intro t kt
      refine S7 t ?_
      refine XS.ifYes X6.here hx rfl (pc0 := 15) (pc' := 40) rfl (hb hby d5_15) rfl ((if0 _ _).trans (teq ((lw_eq (own_fd nw ln) ix).mpr (c8 : (own_fd nw ln) = ix) : (lcmpW (own_fd nw ln) ix) = (0 : Int32))).1) (by decide) (by decide) ?_
      refine XS.aloadN X6.here hx rfl (hb hby d5_40) rfl rfl ?_
      show Steps p.tables e below (T6.setTop (mkF m 41 #[.val (.ref aa), .val (.long nw), .second, .val (.long (own_fd nw ln)), .second] [(.ref aa)])) _
      refine st9 _ ?_
      exact kt
    obtain ⟨fs, hr, hrun, hended, hW, hsame⟩ := X9.leave (v := some (.ref t')) (fun h => by rw [Bd.returns] at h; cases h)
    refine ⟨_, _, pre0 _ (S10 _ ?_), hrun, hended, _, _, rfl, ?_, ⟨_, rfl⟩, hW, hsame.mono (by decide) (by decide)⟩
    · exact retOut X9 hx Bd.returns rfl (Or.inr (Or.inr (Or.inr (Or.inr ⟨rfl, rfl, rfl⟩)))) (hb hby d5_44) hr
    · show Q_rm_cur Z aa nw ln ix t' r k' s' q j ft_ ct fs_ cs wV kV vV h0 n0 _ T9.heap _
      rw [e9]
      exact Or.inl ⟨c8, rfl, N5, rfl⟩
  · obtain ⟨T11, h11, X11, e11, W11, st11⟩ := putF X6 hx hZ hown (host := "") (Or.inl (own_w hw 19 rfl)) Via.refl e6 p2 p0 (Or.inl (own_w hw 20 rfl)) (own_w hw 6 rfl) (ty := .long) (by decide) rfl rfl (g := (mkF m 20 #[.val (.ref aa), .val (.long nw), .second, .val (.long (own_fd nw ln)), .second] [(.long (own_fd nw ln)), (.ref aa)])) rfl rfl (hb hby d5_20)
    have O12 := O0.wr W11 p25
    have K13 : Keep h0 h11 [aa] := K0.wr W11 (Or.inl (List.mem_of_getElem? (i := 0) rfl))
    have N14 := Fr.snoc X11 N5 p25
    have F11 : Fld Z h11 aa "com/example/sluice/sluice/WaitRecorder" "intervalIndex" "J" (.long (own_fd nw ln)) := Fld.same W11 p2
    obtain ⟨T15, h15, X15, e15, E15, A15, D15, -, st15⟩ := newO X11 hx hZ hown (own_w hw 21 rfl) (own_w hw 22 rfl) (own_w hw 23 rfl) e11 (g := (mkF m 24 #[.val (.ref aa), .val (.long nw), .second, .val (.long (own_fd nw ln)), .second] [(.ref aa)])) rfl (hb hby d5_24) (by decide) (by decide)
    obtain ⟨b15, g15⟩ : ∃ z, z = h11.size := ⟨_, rfl⟩
    have ge_b15 : n0 ≤ b15 := by rw [g15, ← O12.1]; exact O12.2.1
    have sz_b15 : h0.size ≤ b15 := by rw [g15]; exact K13.1
    have f16 := (Exa.wr W11 p0)
    have ne17 : aa ≠ b15 := Nat.ne_of_lt (Nat.lt_of_lt_of_le (Exa.lt f16) (Nat.le_of_eq g15.symm))
    have f18 := (Exa.wr W11 p5)
    have ne19 : t' ≠ b15 := Nat.ne_of_lt (Nat.lt_of_lt_of_le (Exa.lt f18) (Nat.le_of_eq g15.symm))
    have f20 := (Exa.wr W11 p13)
    have ne21 : r ≠ b15 := Nat.ne_of_lt (Nat.lt_of_lt_of_le (Exa.lt f20) (Nat.le_of_eq g15.symm))
    have f22 := (Exa.wr W11 p15)
    have ne23 : s' ≠ b15 := Nat.ne_of_lt (Nat.lt_of_lt_of_le (Exa.lt f22) (Nat.le_of_eq g15.symm))
    have f24 := (Exa.wr W11 p23)
    have ne25 : q ≠ b15 := Nat.ne_of_lt (Nat.lt_of_lt_of_le (Exa.lt f24) (Nat.le_of_eq g15.symm))
    rw [← g15] at A15 D15 st15
    have O26 := O12.ext E15
    have K27 : Keep h0 h15 [aa] := K13.ext E15
    have F28 : Fld Z h15 b15 "com/example/sluice/sluice/WaitRecorder$Tally" "minimumWaitMillis" "J" (.long (0 : Int64)) := D15 (Or.inl (own_w hw 30 rfl)) (ty := .long) (by decide)
    have F29 : Fld Z h15 b15 "com/example/sluice/sluice/WaitRecorder$Tally" "maximumWaitMillis" "J" (.long (0 : Int64)) := D15 (Or.inl (own_w hw 33 rfl)) (ty := .long) (by decide)
    have F30 : Fld Z h15 b15 "com/example/sluice/sluice/WaitRecorder$Tally" "refused" "[J" .null := D15 (Or.inr (own_w hw 59 rfl)) (ty := (.array .long)) (by decide)
    have F31 : Fld Z h15 b15 "com/example/sluice/sluice/WaitRecorder$Tally" "fromMillis" "J" (.long (0 : Int64)) := D15 (Or.inr (own_w hw 61 rfl)) (ty := .long) (by decide)
    have F32 : Fld Z h15 b15 "com/example/sluice/sluice/WaitRecorder$Tally" "startedAtOnce" "J" (.long (0 : Int64)) := D15 (Or.inl (own_w hw 76 rfl)) (ty := .long) (by decide)
    have F33 : Fld Z h15 b15 "com/example/sluice/sluice/WaitRecorder$Tally" "startedAfterWaiting" "J" (.long (0 : Int64)) := D15 (Or.inl (own_w hw 96 rfl)) (ty := .long) (by decide)
    have F34 : Fld Z h15 b15 "com/example/sluice/sluice/WaitRecorder$Tally" "totalWaitMillis" "J" (.long (0 : Int64)) := D15 (Or.inl (own_w hw 98 rfl)) (ty := .long) (by decide)
    have f35 := (Fld.ext E15 (Fld.other W11 p1 (Or.inr (slot_ne (Or.inr (own_w hw 15 rfl)) (Or.inl (own_w hw 20 rfl)) (by decide) (t := .long) (t' := .long) (by decide) (by decide)))))
    obtain ⟨T36, X36, e36, st36⟩ := getF X15 hx hZ hown (host := "") (Or.inl (own_w hw 14 rfl)) Via.refl e15 f35 (g := (mkF m 30 #[.val (.ref aa), .val (.long nw), .second, .val (.long (own_fd nw ln)), .second] [(.ref aa), (.long (own_fd nw ln)), (.ref b15), (.ref b15), (.ref aa)])) rfl rfl (hb hby d5_30)
    obtain ⟨_, _, ⟨T37, L37, k37, n37⟩, -, X37, ⟨Lc37, hQ37, l37, y37, z37⟩, st37⟩ := X36.specialBack hx (y := (⟨"com/example/sluice/sluice/WaitRecorder$Tally", "<init>", "(J)V"⟩ : MethodName)) rfl hown (mvT hZ (own_w hw 24 rfl)) (mvT hZ (own_w hw 25 rfl)) (mvT hZ (own_w hw 26 rfl)) (by decide) (backOf (W := 2) (rm_tinit l Z a0 hw [] b15 ((own_fd nw ln) * ln) wV kV vV h15 n0 O26 A15 ge_b15 F31 F33 F34 F28 F29 F32 F30 S_V E_V A_V) hZ (own_w hw 26 rfl) (own_w hw 23 rfl) (by decide) (by decide)) (g := (mkF m 34 #[.val (.ref aa), .val (.long nw), .second, .val (.long (own_fd nw ln)), .second] [(.long ((own_fd nw ln) * ln)), (.ref b15), (.ref b15), (.ref aa)])) rfl (by rw [hml]; rfl) (Steps.refl _) (a := b15) (argsL := [(.long ((own_fd nw ln) * ln))]) (rest := [(.ref b15), (.ref aa)]) (lenOf pd_2 rfl) rfl (by show 2 * 0 + _ ≤ _; exact Nat.le_of_eq rfl) (hb hby d5_34) (fun _ _ => ⟨rfl, e36, (by decide : 1 + 2 ≤ _), (by decide : 7 + 14 ≤ _)⟩)
    dsimp only [Pt.U, Pt.locs, Pt.cells, Pt.slots] at X37 l37 y37 z37 st37 hQ37
    subst l37 y37 z37
    obtain ⟨x38, x39, rfl, N40, k41, f42, f43, f44, f45, f46, f47, f48, f49, f50, f51, f52⟩ := hQ37
    have N53 := Fr.app N14 N40
    have ge54 : n0 ≤ x38 := by rw [← O26.1]; exact Nat.le_trans O26.2.1 f42
    have sz54 : h0.size ≤ x38 := Nat.le_trans K27.1 f42
    have f55 := (Exa.ext E15 f16)
    have ne56 : aa ≠ x38 := Nat.ne_of_lt (Nat.lt_of_lt_of_le (Exa.lt f55) f42)
    have f57 := (Exa.ext E15 f18)
    have ne58 : t' ≠ x38 := Nat.ne_of_lt (Nat.lt_of_lt_of_le (Exa.lt f57) f42)
    have f59 := (Exa.ext E15 f20)
    have ne60 : r ≠ x38 := Nat.ne_of_lt (Nat.lt_of_lt_of_le (Exa.lt f59) f42)
    have f61 := (Exa.ext E15 f22)
    have ne62 : s' ≠ x38 := Nat.ne_of_lt (Nat.lt_of_lt_of_le (Exa.lt f61) f42)
    have f63 := (Exa.ext E15 f24)
    have ne64 : q ≠ x38 := Nat.ne_of_lt (Nat.lt_of_lt_of_le (Exa.lt f63) f42)
    have ne65 : b15 ≠ x38 := Nat.ne_of_lt (Nat.lt_of_lt_of_le (Exa.lt A15) f42)
    have O66 := O26.keep k41 (allS ge_b15 all0)
    have K67 : Keep h0 T37.heap [aa] := K27.trans k41 (allS (Or.inr sz_b15) all0)
    have f68 := (Fld.keep (Fld.ext E15 (Fld.other W11 p3 (Or.inr (slot_ne (Or.inl (own_w hw 63 rfl)) (Or.inl (own_w hw 20 rfl)) (by decide) (t := (.object "com/example/sluice/sluice/WaitRecorder$Tally")) (t' := .long) (by decide) (by decide))))) k41 (ninS ne17 nin0))
    have f69 := (Exa.keep f55 k41)
    obtain ⟨T70, h70, X70, e70, W70, st70⟩ := putF X37 hx hZ hown (host := "") (Or.inl (own_w hw 62 rfl)) Via.refl rfl f68 f69 (Or.inl (own_w hw 63 rfl)) (own_w hw 6 rfl) (ty := (.object "com/example/sluice/sluice/WaitRecorder$Tally")) (by decide) rfl rfl (g := (mkF m 37 #[.val (.ref aa), .val (.long nw), .second, .val (.long (own_fd nw ln)), .second] [(.ref b15), (.ref aa)])) rfl rfl (hb hby d5_37)
    have O71 := O66.wr W70 p25
    have K72 : Keep h0 h70 [aa] := K67.wr W70 (Or.inl (List.mem_of_getElem? (i := 0) rfl))
    have N73 := Fr.snoc X70 N53 p25
    have F70 : Fld Z h70 aa "com/example/sluice/sluice/WaitRecorder" "interval" "Lcom/example/sluice/sluice/WaitRecorder$Tally;" (.ref b15) := Fld.same W70 f68
    obtain ⟨T74, X74, e74, st74⟩ := getF X70 hx hZ hown (host := "") (Or.inl (own_w hw 62 rfl)) Via.refl e70 F70 (g := (mkF m 41 #[.val (.ref aa), .val (.long nw), .second, .val (.long (own_fd nw ln)), .second] [(.ref aa)])) rfl rfl (hb hby d5_41)
    have S75 : ∀ t, Steps p.tables e below (T74.setTop (mkF m 44 #[.val (.ref aa), .val (.long nw), .second, .val (.long (own_fd nw ln)), .second] [(.ref b15)])) t → Steps p.tables e below (s₁.setTop (mkF m 0 #[.val (.ref aa), .val (.long nw), .second, .unset, .unset] [])) t := by
      intro t kt
      refine S7 t ?_
      refine XS.ifNo X6.here hx rfl (hb hby d5_15) rfl ((if0 _ _).trans (feq (fun q => (c8 : ¬ ((own_fd nw ln) = ix)) ((lw_eq (own_fd nw ln) ix).mp q) : ¬ ((lcmpW (own_fd nw ln) ix) = (0 : Int32)))).1) ?_
      refine XS.aloadN X6.here hx rfl (hb hby d5_18) rfl rfl ?_
      refine XS.lloadN X6.here hx rfl (hb hby d5_19) rfl ?_
      show Steps p.tables e below (T6.setTop (mkF m 20 #[.val (.ref aa), .val (.long nw), .second, .val (.long (own_fd nw ln)), .second] [(.long (own_fd nw ln)), (.ref aa)])) _
      refine st11 _ ?_
      refine XS.aloadN X11.here hx rfl (hb hby d5_23) rfl rfl ?_
      show Steps p.tables e below (T11.setTop (mkF m 24 #[.val (.ref aa), .val (.long nw), .second, .val (.long (own_fd nw ln)), .second] [(.ref aa)])) _
      refine st15 _ ?_
      refine XS.dup X15.here hx rfl (hb hby d5_27) rfl rfl ?_
      refine XS.lloadN X15.here hx rfl (hb hby d5_28) rfl ?_
      refine XS.aloadN X15.here hx rfl (hb hby d5_29) rfl rfl ?_
      show Steps p.tables e below (T15.setTop (mkF m 30 #[.val (.ref aa), .val (.long nw), .second, .val (.long (own_fd nw ln)), .second] [(.ref aa), (.long (own_fd nw ln)), (.ref b15), (.ref b15), (.ref aa)])) _
      refine st36 _ ?_
      refine XS.lmul X36.here hx rfl (hb hby d5_33) rfl ?_
      show Steps p.tables e below (T36.setTop (mkF m 34 #[.val (.ref aa), .val (.long nw), .second, .val (.long (own_fd nw ln)), .second] [(.long ((own_fd nw ln) * ln)), (.ref b15), (.ref b15), (.ref aa)])) _
      refine st37.trans ?_
      show Steps p.tables e below (T37.setTop (mkF m 37 #[.val (.ref aa), .val (.long nw), .second, .val (.long (own_fd nw ln)), .second] [(.ref b15), (.ref aa)])) _
      refine st70 _ ?_
      refine XS.aloadN X70.here hx rfl (hb hby d5_40) rfl rfl ?_
      show Steps p.tables e below (T70.setTop (mkF m 41 #[.val (.ref aa), .val (.long nw), .second, .val (.long (own_fd nw ln)), .second] [(.ref aa)])) _
      refine st74 _ ?_
      exact kt
    obtain ⟨fs, hr, hrun, hended, hW, hsame⟩ := X74.leave (v := some (.ref b15)) (fun h => by rw [Bd.returns] at h; cases h)
    have f76 := (Exa.wr W70 f69)
    have f77 := (Fld.other W70 (Fld.keep f35 k41 (ninS ne17 nin0)) (Or.inr (slot_ne (Or.inr (own_w hw 15 rfl)) (Or.inl (own_w hw 63 rfl)) (by decide) (t := .long) (t' := (.object "com/example/sluice/sluice/WaitRecorder$Tally")) (by decide) (by decide))))
    have f78 := (Fld.other W70 (Fld.keep (Fld.ext E15 F11) k41 (ninS ne17 nin0)) (Or.inr (slot_ne (Or.inl (own_w hw 20 rfl)) (Or.inl (own_w hw 63 rfl)) (by decide) (t := .long) (t' := (.object "com/example/sluice/sluice/WaitRecorder$Tally")) (by decide) (by decide))))
    have f79 := (Fld.other W70 (Fld.keep (Fld.ext E15 (Fld.other W11 p4 (Or.inr (slot_ne (Or.inl (own_w hw 65 rfl)) (Or.inl (own_w hw 20 rfl)) (by decide) (t := (.object "com/example/sluice/sluice/WaitRecorder$Tally")) (t' := .long) (by decide) (by decide))))) k41 (ninS ne17 nin0)) (Or.inr (slot_ne (Or.inl (own_w hw 65 rfl)) (Or.inl (own_w hw 63 rfl)) (by decide) (t := (.object "com/example/sluice/sluice/WaitRecorder$Tally")) (t' := (.object "com/example/sluice/sluice/WaitRecorder$Tally")) (by decide) (by decide))))
    have f80 := (Exa.wr W70 f43)
    have f81 := (Fld.other W70 f44 (Or.inl (Ne.symm ne17)))
    have f82 := (Fld.other W70 f45 (Or.inl (Ne.symm ne17)))
    have f83 := (Fld.other W70 f46 (Or.inl (Ne.symm ne17)))
    have f84 := (Fld.other W70 f47 (Or.inl (Ne.symm ne17)))
    have f85 := (Fld.other W70 f48 (Or.inl (Ne.symm ne17)))
    have f86 := (Fld.other W70 f49 (Or.inl (Ne.symm ne17)))
    have f87 := (Fld.other W70 f50 (Or.inl (Ne.symm ne17)))
    have f88 := (Exa.wr W70 f51)
    have f89 := (Arv.other f52 W70 (Ne.symm ne56))
    refine ⟨_, _, pre0 _ (S75 _ ?_), hrun, hended, _, _, rfl, ?_, ⟨_, rfl⟩, hW, hsame.mono (by decide) (by decide)⟩
    · exact retOut X74 hx Bd.returns rfl (Or.inr (Or.inr (Or.inr (Or.inr ⟨rfl, rfl, rfl⟩)))) (hb hby d5_44) hr
    · show Q_rm_cur Z aa nw ln ix t' r k' s' q j ft_ ct fs_ cs wV kV vV h0 n0 _ T74.heap _
      rw [e74]
      exact Or.inr (⟨b15, x38, x39, c8, rfl, N73, K72, sz_b15, sz54, ne65, f76, f77, f78, F70, f79, f80, f81, f82, f83, f84, f85, f86, f87, f88, f89⟩)
theorem d6_0 : decode prog_38_method_3_code 0 = .ok (.aload_n 0, 1) := by decide +kernel
theorem d6_1 : decode prog_38_method_3_code 1 = .ok (.lload_n 1, 1) := by decide +kernel
theorem d6_2 : decode prog_38_method_3_code 2 = .ok (.invokevirtual 37, 3) := by decide +kernel
theorem pd_3 : parseMethodDescriptor "(J)Lcom/example/sluice/sluice/WaitRecorder$Tally;" = some ⟨[.long], some (.object "com/example/sluice/sluice/WaitRecorder$Tally")⟩ := by decide +kernel
theorem d6_5 : decode prog_38_method_3_code 5 = .ok (.dup, 1) := by decide +kernel
theorem d6_6 : decode prog_38_method_3_code 6 = .ok (.getfield 44, 3) := by decide +kernel
theorem d6_9 : decode prog_38_method_3_code 9 = .ok (.lconst 1, 1) := by decide +kernel
theorem d6_10 : decode prog_38_method_3_code 10 = .ok (.ladd, 1) := by decide +kernel
theorem d6_11 : decode prog_38_method_3_code 11 = .ok (.putfield 44, 3) := by decide +kernel
theorem d6_14 : decode prog_38_method_3_code 14 = .ok (.aload_n 0, 1) := by decide +kernel
theorem d6_15 : decode prog_38_method_3_code 15 = .ok (.getfield 31, 3) := by decide +kernel
theorem d6_18 : decode prog_38_method_3_code 18 = .ok (.dup, 1) := by decide +kernel
theorem d6_19 : decode prog_38_method_3_code 19 = .ok (.getfield 44, 3) := by decide +kernel
theorem d6_22 : decode prog_38_method_3_code 22 = .ok (.lconst 1, 1) := by decide +kernel
theorem d6_23 : decode prog_38_method_3_code 23 = .ok (.ladd, 1) := by decide +kernel
theorem d6_24 : decode prog_38_method_3_code 24 = .ok (.putfield 44, 3) := by decide +kernel
theorem d6_27 : decode prog_38_method_3_code 27 = .ok (.return_, 1) := by decide +kernel
theorem ef_rm_sao (m : MethodId) (x0 : Addr) (x1 : Int64) : entryFrame m #[(.ref x0), (.long x1)] 3 = mkF m 0 #[.val (.ref x0), .val (.long x1), .second] [] := by first | (simp [entryFrame, mkF, argsToLocals, Value.category]; done) | rfl
def Q_rm_sao (Z : State) (aa : Addr) (nw : Int64) (ln : Int64) (ix : Int64) (t' : Addr) (r : Addr) (k' : ClassId) (s' : Addr) (q : Addr) (j : ClassId) (ft_ : Int64) (ct : Int64) (fs_ : Int64) (cs : Int64) (wV : Addr) (kV : ClassId) (vV : List Value) (h0 : Heap) (n0 : Nat) (v : Option Value) (h : Heap) (L : List Loc) : Prop := (((own_fd nw ln) = ix) ∧ (v = none) ∧ (Fr n0 L) ∧ (Keep h0 h [aa, t', s']) ∧ (Exa Z h aa "com/example/sluice/sluice/WaitRecorder") ∧ (Fld Z h aa "com/example/sluice/sluice/WaitRecorder" "intervalMillis" "J" (.long ln)) ∧ (Fld Z h aa "com/example/sluice/sluice/WaitRecorder" "intervalIndex" "J" (.long ix)) ∧ (Fld Z h aa "com/example/sluice/sluice/WaitRecorder" "interval" "Lcom/example/sluice/sluice/WaitRecorder$Tally;" (.ref t')) ∧ (Fld Z h aa "com/example/sluice/sluice/WaitRecorder" "sinceReset" "Lcom/example/sluice/sluice/WaitRecorder$Tally;" (.ref s')) ∧ (Exa Z h t' "com/example/sluice/sluice/WaitRecorder$Tally") ∧ (Fld Z h t' "com/example/sluice/sluice/WaitRecorder$Tally" "fromMillis" "J" (.long ft_)) ∧ (Fld Z h t' "com/example/sluice/sluice/WaitRecorder$Tally" "startedAfterWaiting" "J" (.long (0 : Int64))) ∧ (Fld Z h t' "com/example/sluice/sluice/WaitRecorder$Tally" "totalWaitMillis" "J" (.long (0 : Int64))) ∧ (Fld Z h t' "com/example/sluice/sluice/WaitRecorder$Tally" "minimumWaitMillis" "J" (.long (9223372036854775807 : Int64))) ∧ (Fld Z h t' "com/example/sluice/sluice/WaitRecorder$Tally" "maximumWaitMillis" "J" (.long (-9223372036854775808 : Int64))) ∧ (Fld Z h t' "com/example/sluice/sluice/WaitRecorder$Tally" "startedAtOnce" "J" (.long (ct + (1 : Int64)))) ∧ (Fld Z h t' "com/example/sluice/sluice/WaitRecorder$Tally" "refused" "[J" (.ref r)) ∧ (Exa Z h r "[J") ∧ (Arv Z h r k' .long (7 : Int32) [(.long (0 : Int64)), (.long (0 : Int64)), (.long (0 : Int64)), (.long (0 : Int64)), (.long (0 : Int64)), (.long (0 : Int64)), (.long (0 : Int64))] (.long (0 : Int64))) ∧ (Exa Z h s' "com/example/sluice/sluice/WaitRecorder$Tally") ∧ (Fld Z h s' "com/example/sluice/sluice/WaitRecorder$Tally" "fromMillis" "J" (.long fs_)) ∧ (Fld Z h s' "com/example/sluice/sluice/WaitRecorder$Tally" "startedAfterWaiting" "J" (.long (0 : Int64))) ∧ (Fld Z h s' "com/example/sluice/sluice/WaitRecorder$Tally" "totalWaitMillis" "J" (.long (0 : Int64))) ∧ (Fld Z h s' "com/example/sluice/sluice/WaitRecorder$Tally" "minimumWaitMillis" "J" (.long (9223372036854775807 : Int64))) ∧ (Fld Z h s' "com/example/sluice/sluice/WaitRecorder$Tally" "maximumWaitMillis" "J" (.long (-9223372036854775808 : Int64))) ∧ (Fld Z h s' "com/example/sluice/sluice/WaitRecorder$Tally" "startedAtOnce" "J" (.long (cs + (1 : Int64)))) ∧ (Fld Z h s' "com/example/sluice/sluice/WaitRecorder$Tally" "refused" "[J" (.ref q)) ∧ (Exa Z h q "[J") ∧ (Arv Z h q j .long (7 : Int32) [(.long (0 : Int64)), (.long (0 : Int64)), (.long (0 : Int64)), (.long (0 : Int64)), (.long (0 : Int64)), (.long (0 : Int64)), (.long (0 : Int64))] (.long (0 : Int64)))) ∨ (∃ (t2 : Addr) (r2 : Addr) (k2 : ClassId), (¬ ((own_fd nw ln) = ix)) ∧ (v = none) ∧ (Fr n0 L) ∧ (Keep h0 h [aa, t', s']) ∧ (h0.size ≤ t2) ∧ (h0.size ≤ r2) ∧ (t2 ≠ r2) ∧ (Exa Z h aa "com/example/sluice/sluice/WaitRecorder") ∧ (Fld Z h aa "com/example/sluice/sluice/WaitRecorder" "intervalMillis" "J" (.long ln)) ∧ (Fld Z h aa "com/example/sluice/sluice/WaitRecorder" "intervalIndex" "J" (.long (own_fd nw ln))) ∧ (Fld Z h aa "com/example/sluice/sluice/WaitRecorder" "interval" "Lcom/example/sluice/sluice/WaitRecorder$Tally;" (.ref t2)) ∧ (Fld Z h aa "com/example/sluice/sluice/WaitRecorder" "sinceReset" "Lcom/example/sluice/sluice/WaitRecorder$Tally;" (.ref s')) ∧ (Exa Z h t2 "com/example/sluice/sluice/WaitRecorder$Tally") ∧ (Fld Z h t2 "com/example/sluice/sluice/WaitRecorder$Tally" "fromMillis" "J" (.long ((own_fd nw ln) * ln))) ∧ (Fld Z h t2 "com/example/sluice/sluice/WaitRecorder$Tally" "startedAfterWaiting" "J" (.long (0 : Int64))) ∧ (Fld Z h t2 "com/example/sluice/sluice/WaitRecorder$Tally" "totalWaitMillis" "J" (.long (0 : Int64))) ∧ (Fld Z h t2 "com/example/sluice/sluice/WaitRecorder$Tally" "minimumWaitMillis" "J" (.long (9223372036854775807 : Int64))) ∧ (Fld Z h t2 "com/example/sluice/sluice/WaitRecorder$Tally" "maximumWaitMillis" "J" (.long (-9223372036854775808 : Int64))) ∧ (Fld Z h t2 "com/example/sluice/sluice/WaitRecorder$Tally" "startedAtOnce" "J" (.long ((0 : Int64) + (1 : Int64)))) ∧ (Fld Z h t2 "com/example/sluice/sluice/WaitRecorder$Tally" "refused" "[J" (.ref r2)) ∧ (Exa Z h r2 "[J") ∧ (Arv Z h r2 k2 .long (7 : Int32) [(.long (0 : Int64)), (.long (0 : Int64)), (.long (0 : Int64)), (.long (0 : Int64)), (.long (0 : Int64)), (.long (0 : Int64)), (.long (0 : Int64))] (.long (0 : Int64))) ∧ (Exa Z h s' "com/example/sluice/sluice/WaitRecorder$Tally") ∧ (Fld Z h s' "com/example/sluice/sluice/WaitRecorder$Tally" "fromMillis" "J" (.long fs_)) ∧ (Fld Z h s' "com/example/sluice/sluice/WaitRecorder$Tally" "startedAfterWaiting" "J" (.long (0 : Int64))) ∧ (Fld Z h s' "com/example/sluice/sluice/WaitRecorder$Tally" "totalWaitMillis" "J" (.long (0 : Int64))) ∧ (Fld Z h s' "com/example/sluice/sluice/WaitRecorder$Tally" "minimumWaitMillis" "J" (.long (9223372036854775807 : Int64))) ∧ (Fld Z h s' "com/example/sluice/sluice/WaitRecorder$Tally" "maximumWaitMillis" "J" (.long (-9223372036854775808 : Int64))) ∧ (Fld Z h s' "com/example/sluice/sluice/WaitRecorder$Tally" "startedAtOnce" "J" (.long (cs + (1 : Int64)))) ∧ (Fld Z h s' "com/example/sluice/sluice/WaitRecorder$Tally" "refused" "[J" (.ref q)) ∧ (Exa Z h q "[J") ∧ (Arv Z h q j .long (7 : Int32) [(.long (0 : Int64)), (.long (0 : Int64)), (.long (0 : Int64)), (.long (0 : Int64)), (.long (0 : Int64)), (.long (0 : Int64)), (.long (0 : Int64))] (.long (0 : Int64))))
set_option maxRecDepth 65536 in
set_option maxHeartbeats 40000000 in
theorem rm_sao (l : Launch) (Z : State) (a0 : Array Value) (hw : ∀ d ∈ tables_1, d.before a0 Z = true) (ws : List Jvm.Cond) (aa : Addr) (nw : Int64) (ln : Int64) (ix : Int64) (t' : Addr) (r : Addr) (k' : ClassId) (s' : Addr) (q : Addr) (j : ClassId) (ft_ : Int64) (ct : Int64) (fs_ : Int64) (cs : Int64) (wV : Addr) (kV : ClassId) (vV : List Value) (h0 : Heap) (n0 : Nat) (O0 : Old Z n0 h0) (p0 : Exa Z h0 aa "com/example/sluice/sluice/WaitRecorder") (p1 : Fld Z h0 aa "com/example/sluice/sluice/WaitRecorder" "intervalMillis" "J" (.long ln)) (p2 : Fld Z h0 aa "com/example/sluice/sluice/WaitRecorder" "intervalIndex" "J" (.long ix)) (p3 : Fld Z h0 aa "com/example/sluice/sluice/WaitRecorder" "interval" "Lcom/example/sluice/sluice/WaitRecorder$Tally;" (.ref t')) (p4 : Fld Z h0 aa "com/example/sluice/sluice/WaitRecorder" "sinceReset" "Lcom/example/sluice/sluice/WaitRecorder$Tally;" (.ref s')) (p5 : Exa Z h0 t' "com/example/sluice/sluice/WaitRecorder$Tally") (p6 : Fld Z h0 t' "com/example/sluice/sluice/WaitRecorder$Tally" "fromMillis" "J" (.long ft_)) (p7 : Fld Z h0 t' "com/example/sluice/sluice/WaitRecorder$Tally" "startedAfterWaiting" "J" (.long (0 : Int64))) (p8 : Fld Z h0 t' "com/example/sluice/sluice/WaitRecorder$Tally" "totalWaitMillis" "J" (.long (0 : Int64))) (p9 : Fld Z h0 t' "com/example/sluice/sluice/WaitRecorder$Tally" "minimumWaitMillis" "J" (.long (9223372036854775807 : Int64))) (p10 : Fld Z h0 t' "com/example/sluice/sluice/WaitRecorder$Tally" "maximumWaitMillis" "J" (.long (-9223372036854775808 : Int64))) (p11 : Fld Z h0 t' "com/example/sluice/sluice/WaitRecorder$Tally" "startedAtOnce" "J" (.long ct)) (p12 : Fld Z h0 t' "com/example/sluice/sluice/WaitRecorder$Tally" "refused" "[J" (.ref r)) (p13 : Exa Z h0 r "[J") (p14 : Arv Z h0 r k' .long (7 : Int32) [(.long (0 : Int64)), (.long (0 : Int64)), (.long (0 : Int64)), (.long (0 : Int64)), (.long (0 : Int64)), (.long (0 : Int64)), (.long (0 : Int64))] (.long (0 : Int64))) (p15 : Exa Z h0 s' "com/example/sluice/sluice/WaitRecorder$Tally") (p16 : Fld Z h0 s' "com/example/sluice/sluice/WaitRecorder$Tally" "fromMillis" "J" (.long fs_)) (p17 : Fld Z h0 s' "com/example/sluice/sluice/WaitRecorder$Tally" "startedAfterWaiting" "J" (.long (0 : Int64))) (p18 : Fld Z h0 s' "com/example/sluice/sluice/WaitRecorder$Tally" "totalWaitMillis" "J" (.long (0 : Int64))) (p19 : Fld Z h0 s' "com/example/sluice/sluice/WaitRecorder$Tally" "minimumWaitMillis" "J" (.long (9223372036854775807 : Int64))) (p20 : Fld Z h0 s' "com/example/sluice/sluice/WaitRecorder$Tally" "maximumWaitMillis" "J" (.long (-9223372036854775808 : Int64))) (p21 : Fld Z h0 s' "com/example/sluice/sluice/WaitRecorder$Tally" "startedAtOnce" "J" (.long cs)) (p22 : Fld Z h0 s' "com/example/sluice/sluice/WaitRecorder$Tally" "refused" "[J" (.ref q)) (p23 : Exa Z h0 q "[J") (p24 : Arv Z h0 q j .long (7 : Int32) [(.long (0 : Int64)), (.long (0 : Int64)), (.long (0 : Int64)), (.long (0 : Int64)), (.long (0 : Int64)), (.long (0 : Int64)), (.long (0 : Int64))] (.long (0 : Int64))) (p25 : n0 ≤ aa) (p26 : n0 ≤ t') (p27 : n0 ≤ s') (p28 : aa ≠ t') (p29 : aa ≠ r) (p30 : aa ≠ s') (p31 : aa ≠ q) (p32 : t' ≠ r) (p33 : t' ≠ s') (p34 : t' ≠ q) (p35 : r ≠ s') (p36 : r ≠ q) (p37 : s' ≠ q) (S_V : Sta Z Z.heap "com/example/sluice/sluice/RefusalReason" "$VALUES" "[Lcom/example/sluice/sluice/RefusalReason;" (.ref wV)) (E_V : Exa Z Z.heap wV "[Lcom/example/sluice/sluice/RefusalReason;") (A_V : Arv Z Z.heap wV kV (.object "com/example/sluice/sluice/RefusalReason") (7 : Int32) vV .null) (hl : ¬ (ln = (0 : Int64))) :
    MetFree l (⟨"com/example/sluice/sluice/WaitRecorder", "startedAtOnce", "(J)V"⟩ : MethodName) (head1 (Jvm.Cond.code (⟨"com/example/sluice/sluice/WaitRecorder", "startedAtOnce", "(J)V"⟩ : MethodName) prog_38_method_3_code 3 none :: ws) ({ frames := 4, cells := 3, slots := 21, locals := 58 } : Room)) (fun a U => a = #[(.ref aa), (.long nw)] ∧ Z.Warmed39 U.vm ∧ U.heap = h0) (fun _ _ _ _ _ => True) (fun _ U o U' => ∃ v L, o = .returned v ∧ Q_rm_sao Z aa nw ln ix t' r k' s' q j ft_ ct fs_ cs wV kV vV h0 n0 v U'.heap L ∧ FrameEnd U o U' L ({ frames := 4, cells := 3, slots := 21, locals := 58 } : Room).cells ({ frames := 4, cells := 3, slots := 21, locals := 58 } : Room).slots) := by
  refine MetFree.of_bodySF (plainFor_of_name pn_2) hisR ?_
  intro p e s m args below meth c s₁ Bd hml0 hP hK
  obtain ⟨rfl, hZ, hh⟩ := hP
  have hx := Bd.exec
  have hby := Bd.bytes
  have hml : c.maxLocals = 3 := hml0
  have hown : s.vm.findClass "com/example/sluice/sluice/WaitRecorder" = some m.cls := findClass_of_methodNamed Bd.named
  have hnm := (name_of_methodNamed Bd.named Bd.method).1
  have X0 : Stand p l e ({ frames := 4, cells := 3, slots := 21, locals := 58 } : Room) s m #[(.ref aa), (.long nw)] below meth c s₁ [] 0 0 := Stand.of_body Bd
  have e0 : s₁.heap = h0 := by rw [← hh, Bd.state]; rfl
  have N0 := Fr.nil n0
  have K0 : Keep h0 h0 [aa, t', s'] := Keep.refl _ _
  have pre0 : ∀ t, Steps p.tables e below (s₁.setTop (mkF m 0 #[.val (.ref aa), .val (.long nw), .second] [])) t → Steps p.tables e below (s₁.setTop (entryFrame m #[(.ref aa), (.long nw)] 3)) t := fun t k => castTop (ef_rm_sao m aa nw) k
  obtain ⟨cq1, q1, q1'⟩ := p0.cell
  obtain ⟨cp1, kp1, sp1a, sp1b, -, sp1c, -⟩ := Cond.instantiable_spec (mvT hZ (own_w hw 6 rfl) (args := #[]) : (Jvm.Cond.instantiable _ _).before #[] s = true)
  have sl1 : ∀ {args : Array Value}, (Jvm.Cond.selects "com/example/sluice/sluice/WaitRecorder" (⟨"com/example/sluice/sluice/WaitRecorder", "currentInterval", "(J)Lcom/example/sluice/sluice/WaitRecorder$Tally;"⟩ : MethodName) (⟨"com/example/sluice/sluice/WaitRecorder", "currentInterval", "(J)Lcom/example/sluice/sluice/WaitRecorder$Tally;"⟩ : MethodName)).before args s = true := fun {args} => selects_self_of_private sp1a sp1b (by simp only [Bool.or_eq_false_iff] at sp1c; exact sp1c.1) (Cond.privateMethod_at (mvP hZ (own_w hw 73 rfl) (args := #[]))) (mvT hZ (own_w hw 72 rfl)) (by decide)
  obtain ⟨_, _, ⟨T1, L1, k1, n1⟩, -, X1, ⟨Lc1, hQ1, l1, y1, z1⟩, st1⟩ := X0.privateBack hx (y := (⟨"com/example/sluice/sluice/WaitRecorder", "currentInterval", "(J)Lcom/example/sluice/sluice/WaitRecorder$Tally;"⟩ : MethodName)) hown (mvT hZ (own_w hw 71 rfl)) (mvT hZ (own_w hw 72 rfl)) sl1 (Cond.privateMethod_at (mvP hZ (own_w hw 73 rfl) (args := #[]))) (mvT hZ (own_w hw 74 rfl)) (by decide) (backOf (W := 0) (rm_cur l Z a0 hw [] aa nw ln ix t' r k' s' q j ft_ ct fs_ cs wV kV vV h0 n0 O0 p0 p1 p2 p3 p4 p5 p6 p7 p8 p9 p10 p11 p12 p13 p14 p15 p16 p17 p18 p19 p20 p21 p22 p23 p24 p25 p26 p27 p28 p29 p30 p31 p32 p33 p34 p35 p36 p37 S_V E_V A_V hl) hZ (own_w hw 74 rfl) (own_w hw 7 rfl) (by decide) (by decide)) (g := (mkF m 2 #[.val (.ref aa), .val (.long nw), .second] [(.long nw), (.ref aa)])) rfl (by rw [hml]; rfl) (Steps.refl _) (a := aa) (by rw [e0]; exact q1) q1' (argsL := [(.long nw)]) (rest := []) (lenOf pd_3 rfl) rfl (by show 2 * 0 + _ ≤ _; exact Nat.le_of_eq rfl) (hb hby d6_2) (fun _ _ => ⟨rfl, e0, (by decide : 0 + 3 ≤ _), (by decide : 0 + 21 ≤ _)⟩)
  dsimp only [Pt.U, Pt.locs, Pt.cells, Pt.slots] at X1 l1 y1 z1 st1 hQ1
  subst l1 y1 z1
  rcases hQ1 with ⟨c2, rfl, N3, k4⟩ | ⟨x5, x6, x7, c8, rfl, N9, k10, f11, f12, f13, f14, f15, f16, f17, f18, f19, f20, f21, f22, f23, f24, f25, f26, f27, f28⟩
  · have N29 := Fr.app N0 N3
    obtain ⟨T30, X30, e30, st30⟩ := getF X1 hx hZ hown (host := "") (Or.inl (own_w hw 75 rfl)) Via.refl k4 p11 (g := (mkF m 6 #[.val (.ref aa), .val (.long nw), .second] [(.ref t'), (.ref t')])) rfl rfl (hb hby d6_6)
    obtain ⟨T31, h31, X31, e31, W31, st31⟩ := putF X30 hx hZ hown (host := "") (Or.inl (own_w hw 75 rfl)) Via.refl e30 p11 p5 (Or.inl (own_w hw 76 rfl)) (own_w hw 22 rfl) (ty := .long) (by decide) rfl rfl (g := (mkF m 11 #[.val (.ref aa), .val (.long nw), .second] [(.long (ct + (1 : Int64))), (.ref t')])) rfl rfl (hb hby d6_11)
    have O32 := O0.wr W31 p26
    have K33 : Keep h0 h31 [aa, t', s'] := K0.wr W31 (Or.inl (List.mem_of_getElem? (i := 1) rfl))
    have N34 := Fr.snoc X31 N29 p26
    have F31 : Fld Z h31 t' "com/example/sluice/sluice/WaitRecorder$Tally" "startedAtOnce" "J" (.long (ct + (1 : Int64))) := Fld.same W31 p11
    have f35 := (Fld.other W31 p4 (Or.inl p28))
    obtain ⟨T36, X36, e36, st36⟩ := getF X31 hx hZ hown (host := "") (Or.inl (own_w hw 64 rfl)) Via.refl e31 f35 (g := (mkF m 15 #[.val (.ref aa), .val (.long nw), .second] [(.ref aa)])) rfl rfl (hb hby d6_15)
    have f37 := (Fld.other W31 p21 (Or.inl (Ne.symm p33)))
    obtain ⟨T38, X38, e38, st38⟩ := getF X36 hx hZ hown (host := "") (Or.inl (own_w hw 75 rfl)) Via.refl e36 f37 (g := (mkF m 19 #[.val (.ref aa), .val (.long nw), .second] [(.ref s'), (.ref s')])) rfl rfl (hb hby d6_19)
    have f39 := (Exa.wr W31 p15)
    obtain ⟨T40, h40, X40, e40, W40, st40⟩ := putF X38 hx hZ hown (host := "") (Or.inl (own_w hw 75 rfl)) Via.refl e38 f37 f39 (Or.inl (own_w hw 76 rfl)) (own_w hw 22 rfl) (ty := .long) (by decide) rfl rfl (g := (mkF m 24 #[.val (.ref aa), .val (.long nw), .second] [(.long (cs + (1 : Int64))), (.ref s')])) rfl rfl (hb hby d6_24)
    have O41 := O32.wr W40 p27
    have K42 : Keep h0 h40 [aa, t', s'] := K33.wr W40 (Or.inl (List.mem_of_getElem? (i := 2) rfl))
    have N43 := Fr.snoc X40 N34 p27
    have F40 : Fld Z h40 s' "com/example/sluice/sluice/WaitRecorder$Tally" "startedAtOnce" "J" (.long (cs + (1 : Int64))) := Fld.same W40 f37
    have S44 : ∀ t, Steps p.tables e below (T40.setTop (mkF m 27 #[.val (.ref aa), .val (.long nw), .second] [])) t → Steps p.tables e below (s₁.setTop (mkF m 0 #[.val (.ref aa), .val (.long nw), .second] [])) t := by
      intro t kt
      refine XS.aloadN X0.here hx rfl (hb hby d6_0) rfl rfl ?_
      refine XS.lloadN X0.here hx rfl (hb hby d6_1) rfl ?_
      show Steps p.tables e below (s₁.setTop (mkF m 2 #[.val (.ref aa), .val (.long nw), .second] [(.long nw), (.ref aa)])) _
      refine st1.trans ?_
      refine XS.dup X1.here hx rfl (hb hby d6_5) rfl rfl ?_
      show Steps p.tables e below (T1.setTop (mkF m 6 #[.val (.ref aa), .val (.long nw), .second] [(.ref t'), (.ref t')])) _
      refine st30 _ ?_
      refine XS.lconst X30.here hx rfl (hb hby d6_9) ?_
      refine XS.ladd X30.here hx rfl (hb hby d6_10) rfl ?_
      show Steps p.tables e below (T30.setTop (mkF m 11 #[.val (.ref aa), .val (.long nw), .second] [(.long (ct + (1 : Int64))), (.ref t')])) _
      refine st31 _ ?_
      refine XS.aloadN X31.here hx rfl (hb hby d6_14) rfl rfl ?_
      show Steps p.tables e below (T31.setTop (mkF m 15 #[.val (.ref aa), .val (.long nw), .second] [(.ref aa)])) _
      refine st36 _ ?_
      refine XS.dup X36.here hx rfl (hb hby d6_18) rfl rfl ?_
      show Steps p.tables e below (T36.setTop (mkF m 19 #[.val (.ref aa), .val (.long nw), .second] [(.ref s'), (.ref s')])) _
      refine st38 _ ?_
      refine XS.lconst X38.here hx rfl (hb hby d6_22) ?_
      refine XS.ladd X38.here hx rfl (hb hby d6_23) rfl ?_
      show Steps p.tables e below (T38.setTop (mkF m 24 #[.val (.ref aa), .val (.long nw), .second] [(.long (cs + (1 : Int64))), (.ref s')])) _
      refine st40 _ ?_
      exact kt
    obtain ⟨fs, hr, hrun, hended, hW, hsame⟩ := X40.leave (v := none) (fun _ => rfl)
    have f45 := (Exa.wr W40 (Exa.wr W31 p0))
    have f46 := (Fld.other W40 (Fld.other W31 p1 (Or.inl p28)) (Or.inl p30))
    have f47 := (Fld.other W40 (Fld.other W31 p2 (Or.inl p28)) (Or.inl p30))
    have f48 := (Fld.other W40 (Fld.other W31 p3 (Or.inl p28)) (Or.inl p30))
    have f49 := (Fld.other W40 f35 (Or.inl p30))
    have f50 := (Exa.wr W40 (Exa.wr W31 p5))
    have f51 := (Fld.other W40 (Fld.other W31 p6 (Or.inr (slot_ne (Or.inr (own_w hw 61 rfl)) (Or.inl (own_w hw 76 rfl)) (by decide) (t := .long) (t' := .long) (by decide) (by decide)))) (Or.inl p33))
    have f52 := (Fld.other W40 (Fld.other W31 p7 (Or.inr (slot_ne (Or.inl (own_w hw 96 rfl)) (Or.inl (own_w hw 76 rfl)) (by decide) (t := .long) (t' := .long) (by decide) (by decide)))) (Or.inl p33))
    have f53 := (Fld.other W40 (Fld.other W31 p8 (Or.inr (slot_ne (Or.inl (own_w hw 98 rfl)) (Or.inl (own_w hw 76 rfl)) (by decide) (t := .long) (t' := .long) (by decide) (by decide)))) (Or.inl p33))
    have f54 := (Fld.other W40 (Fld.other W31 p9 (Or.inr (slot_ne (Or.inl (own_w hw 30 rfl)) (Or.inl (own_w hw 76 rfl)) (by decide) (t := .long) (t' := .long) (by decide) (by decide)))) (Or.inl p33))
    have f55 := (Fld.other W40 (Fld.other W31 p10 (Or.inr (slot_ne (Or.inl (own_w hw 33 rfl)) (Or.inl (own_w hw 76 rfl)) (by decide) (t := .long) (t' := .long) (by decide) (by decide)))) (Or.inl p33))
    have f56 := (Fld.other W40 F31 (Or.inl p33))
    have f57 := (Fld.other W40 (Fld.other W31 p12 (Or.inr (slot_ne (Or.inr (own_w hw 59 rfl)) (Or.inl (own_w hw 76 rfl)) (by decide) (t := (.array .long)) (t' := .long) (by decide) (by decide)))) (Or.inl p33))
    have f58 := (Exa.wr W40 (Exa.wr W31 p13))
    have f59 := (Arv.other (Arv.other p14 W31 (Ne.symm p32)) W40 p35)
    have f60 := (Exa.wr W40 f39)
    have f61 := (Fld.other W40 (Fld.other W31 p16 (Or.inl (Ne.symm p33))) (Or.inr (slot_ne (Or.inr (own_w hw 61 rfl)) (Or.inl (own_w hw 76 rfl)) (by decide) (t := .long) (t' := .long) (by decide) (by decide))))
    have f62 := (Fld.other W40 (Fld.other W31 p17 (Or.inl (Ne.symm p33))) (Or.inr (slot_ne (Or.inl (own_w hw 96 rfl)) (Or.inl (own_w hw 76 rfl)) (by decide) (t := .long) (t' := .long) (by decide) (by decide))))
    have f63 := (Fld.other W40 (Fld.other W31 p18 (Or.inl (Ne.symm p33))) (Or.inr (slot_ne (Or.inl (own_w hw 98 rfl)) (Or.inl (own_w hw 76 rfl)) (by decide) (t := .long) (t' := .long) (by decide) (by decide))))
    have f64 := (Fld.other W40 (Fld.other W31 p19 (Or.inl (Ne.symm p33))) (Or.inr (slot_ne (Or.inl (own_w hw 30 rfl)) (Or.inl (own_w hw 76 rfl)) (by decide) (t := .long) (t' := .long) (by decide) (by decide))))
    have f65 := (Fld.other W40 (Fld.other W31 p20 (Or.inl (Ne.symm p33))) (Or.inr (slot_ne (Or.inl (own_w hw 33 rfl)) (Or.inl (own_w hw 76 rfl)) (by decide) (t := .long) (t' := .long) (by decide) (by decide))))
    have f66 := (Fld.other W40 (Fld.other W31 p22 (Or.inl (Ne.symm p33))) (Or.inr (slot_ne (Or.inr (own_w hw 59 rfl)) (Or.inl (own_w hw 76 rfl)) (by decide) (t := (.array .long)) (t' := .long) (by decide) (by decide))))
    have f67 := (Exa.wr W40 (Exa.wr W31 p23))
    have f68 := (Arv.other (Arv.other p24 W31 (Ne.symm p34)) W40 (Ne.symm p37))
    refine ⟨_, _, pre0 _ (S44 _ ?_), hrun, hended, _, _, rfl, ?_, ⟨_, rfl⟩, hW, hsame.mono (by decide) (by decide)⟩
    · exact X40.returnOut hx Bd.returns (hb hby d6_27) hr
    · show Q_rm_sao Z aa nw ln ix t' r k' s' q j ft_ ct fs_ cs wV kV vV h0 n0 _ T40.heap _
      rw [e40]
      exact Or.inl ⟨c2, rfl, N43, K42, f45, f46, f47, f48, f49, f50, f51, f52, f53, f54, f55, f56, f57, f58, f59, f60, f61, f62, f63, f64, f65, F40, f66, f67, f68⟩
  · have N69 := Fr.app N0 N9
    have ge70 : n0 ≤ x5 := by rw [← O0.1]; exact Nat.le_trans O0.2.1 f11
    have sz70 : h0.size ≤ x5 := Nat.le_trans K0.1 f11
    have ne71 : aa ≠ x5 := Nat.ne_of_lt (Nat.lt_of_lt_of_le (Exa.lt p0) f11)
    have ne72 : t' ≠ x5 := Nat.ne_of_lt (Nat.lt_of_lt_of_le (Exa.lt p5) f11)
    have ne73 : r ≠ x5 := Nat.ne_of_lt (Nat.lt_of_lt_of_le (Exa.lt p13) f11)
    have ne74 : s' ≠ x5 := Nat.ne_of_lt (Nat.lt_of_lt_of_le (Exa.lt p15) f11)
    have ne75 : q ≠ x5 := Nat.ne_of_lt (Nat.lt_of_lt_of_le (Exa.lt p23) f11)
    have ge76 : n0 ≤ x6 := by rw [← O0.1]; exact Nat.le_trans O0.2.1 f12
    have sz76 : h0.size ≤ x6 := Nat.le_trans K0.1 f12
    have ne77 : aa ≠ x6 := Nat.ne_of_lt (Nat.lt_of_lt_of_le (Exa.lt p0) f12)
    have ne78 : t' ≠ x6 := Nat.ne_of_lt (Nat.lt_of_lt_of_le (Exa.lt p5) f12)
    have ne79 : r ≠ x6 := Nat.ne_of_lt (Nat.lt_of_lt_of_le (Exa.lt p13) f12)
    have ne80 : s' ≠ x6 := Nat.ne_of_lt (Nat.lt_of_lt_of_le (Exa.lt p15) f12)
    have ne81 : q ≠ x6 := Nat.ne_of_lt (Nat.lt_of_lt_of_le (Exa.lt p23) f12)
    have O82 := O0.keep k10 (allS p25 all0)
    have K83 : Keep h0 T1.heap [aa, t', s'] := K0.trans k10 (allS (Or.inl (List.mem_of_getElem? (i := 0) rfl)) all0)
    obtain ⟨T84, X84, e84, st84⟩ := getF X1 hx hZ hown (host := "") (Or.inl (own_w hw 75 rfl)) Via.refl rfl f25 (g := (mkF m 6 #[.val (.ref aa), .val (.long nw), .second] [(.ref x5), (.ref x5)])) rfl rfl (hb hby d6_6)
    obtain ⟨T85, h85, X85, e85, W85, st85⟩ := putF X84 hx hZ hown (host := "") (Or.inl (own_w hw 75 rfl)) Via.refl e84 f25 f19 (Or.inl (own_w hw 76 rfl)) (own_w hw 22 rfl) (ty := .long) (by decide) rfl rfl (g := (mkF m 11 #[.val (.ref aa), .val (.long nw), .second] [(.long (1 : Int64)), (.ref x5)])) rfl rfl (hb hby d6_11)
    have O86 := O82.wr W85 ge70
    have K87 : Keep h0 h85 [aa, t', s'] := K83.wr W85 (Or.inr sz70)
    have N88 := Fr.snoc X85 N69 ge70
    have F85 : Fld Z h85 x5 "com/example/sluice/sluice/WaitRecorder$Tally" "startedAtOnce" "J" (.long (1 : Int64)) := Fld.same W85 f25
    have f89 := (Fld.other W85 f18 (Or.inl ne71))
    obtain ⟨T90, X90, e90, st90⟩ := getF X85 hx hZ hown (host := "") (Or.inl (own_w hw 64 rfl)) Via.refl e85 f89 (g := (mkF m 15 #[.val (.ref aa), .val (.long nw), .second] [(.ref aa)])) rfl rfl (hb hby d6_15)
    have f91 := (Fld.other W85 (Fld.keep p21 k10 (ninS (Ne.symm p30) nin0)) (Or.inl ne74))
    obtain ⟨T92, X92, e92, st92⟩ := getF X90 hx hZ hown (host := "") (Or.inl (own_w hw 75 rfl)) Via.refl e90 f91 (g := (mkF m 19 #[.val (.ref aa), .val (.long nw), .second] [(.ref s'), (.ref s')])) rfl rfl (hb hby d6_19)
    have f93 := (Exa.wr W85 (Exa.keep p15 k10))
    obtain ⟨T94, h94, X94, e94, W94, st94⟩ := putF X92 hx hZ hown (host := "") (Or.inl (own_w hw 75 rfl)) Via.refl e92 f91 f93 (Or.inl (own_w hw 76 rfl)) (own_w hw 22 rfl) (ty := .long) (by decide) rfl rfl (g := (mkF m 24 #[.val (.ref aa), .val (.long nw), .second] [(.long (cs + (1 : Int64))), (.ref s')])) rfl rfl (hb hby d6_24)
    have O95 := O86.wr W94 p27
    have K96 : Keep h0 h94 [aa, t', s'] := K87.wr W94 (Or.inl (List.mem_of_getElem? (i := 2) rfl))
    have N97 := Fr.snoc X94 N88 p27
    have F94 : Fld Z h94 s' "com/example/sluice/sluice/WaitRecorder$Tally" "startedAtOnce" "J" (.long (cs + (1 : Int64))) := Fld.same W94 f91
    have S98 : ∀ t, Steps p.tables e below (T94.setTop (mkF m 27 #[.val (.ref aa), .val (.long nw), .second] [])) t → Steps p.tables e below (s₁.setTop (mkF m 0 #[.val (.ref aa), .val (.long nw), .second] [])) t := by
      intro t kt
      refine XS.aloadN X0.here hx rfl (hb hby d6_0) rfl rfl ?_
      refine XS.lloadN X0.here hx rfl (hb hby d6_1) rfl ?_
      show Steps p.tables e below (s₁.setTop (mkF m 2 #[.val (.ref aa), .val (.long nw), .second] [(.long nw), (.ref aa)])) _
      refine st1.trans ?_
      refine XS.dup X1.here hx rfl (hb hby d6_5) rfl rfl ?_
      show Steps p.tables e below (T1.setTop (mkF m 6 #[.val (.ref aa), .val (.long nw), .second] [(.ref x5), (.ref x5)])) _
      refine st84 _ ?_
      refine XS.lconst X84.here hx rfl (hb hby d6_9) ?_
      refine XS.ladd X84.here hx rfl (hb hby d6_10) rfl ?_
      show Steps p.tables e below (T84.setTop (mkF m 11 #[.val (.ref aa), .val (.long nw), .second] [(.long (1 : Int64)), (.ref x5)])) _
      refine st85 _ ?_
      refine XS.aloadN X85.here hx rfl (hb hby d6_14) rfl rfl ?_
      show Steps p.tables e below (T85.setTop (mkF m 15 #[.val (.ref aa), .val (.long nw), .second] [(.ref aa)])) _
      refine st90 _ ?_
      refine XS.dup X90.here hx rfl (hb hby d6_18) rfl rfl ?_
      show Steps p.tables e below (T90.setTop (mkF m 19 #[.val (.ref aa), .val (.long nw), .second] [(.ref s'), (.ref s')])) _
      refine st92 _ ?_
      refine XS.lconst X92.here hx rfl (hb hby d6_22) ?_
      refine XS.ladd X92.here hx rfl (hb hby d6_23) rfl ?_
      show Steps p.tables e below (T92.setTop (mkF m 24 #[.val (.ref aa), .val (.long nw), .second] [(.long (cs + (1 : Int64))), (.ref s')])) _
      refine st94 _ ?_
      exact kt
    obtain ⟨fs, hr, hrun, hended, hW, hsame⟩ := X94.leave (v := none) (fun _ => rfl)
    have f99 := (Exa.wr W94 (Exa.wr W85 f14))
    have f100 := (Fld.other W94 (Fld.other W85 f15 (Or.inl ne71)) (Or.inl p30))
    have f101 := (Fld.other W94 (Fld.other W85 f16 (Or.inl ne71)) (Or.inl p30))
    have f102 := (Fld.other W94 (Fld.other W85 f17 (Or.inl ne71)) (Or.inl p30))
    have f103 := (Fld.other W94 f89 (Or.inl p30))
    have f104 := (Exa.wr W94 (Exa.wr W85 f19))
    have f105 := (Fld.other W94 (Fld.other W85 f20 (Or.inr (slot_ne (Or.inr (own_w hw 61 rfl)) (Or.inl (own_w hw 76 rfl)) (by decide) (t := .long) (t' := .long) (by decide) (by decide)))) (Or.inl (Ne.symm ne74)))
    have f106 := (Fld.other W94 (Fld.other W85 f21 (Or.inr (slot_ne (Or.inl (own_w hw 96 rfl)) (Or.inl (own_w hw 76 rfl)) (by decide) (t := .long) (t' := .long) (by decide) (by decide)))) (Or.inl (Ne.symm ne74)))
    have f107 := (Fld.other W94 (Fld.other W85 f22 (Or.inr (slot_ne (Or.inl (own_w hw 98 rfl)) (Or.inl (own_w hw 76 rfl)) (by decide) (t := .long) (t' := .long) (by decide) (by decide)))) (Or.inl (Ne.symm ne74)))
    have f108 := (Fld.other W94 (Fld.other W85 f23 (Or.inr (slot_ne (Or.inl (own_w hw 30 rfl)) (Or.inl (own_w hw 76 rfl)) (by decide) (t := .long) (t' := .long) (by decide) (by decide)))) (Or.inl (Ne.symm ne74)))
    have f109 := (Fld.other W94 (Fld.other W85 f24 (Or.inr (slot_ne (Or.inl (own_w hw 33 rfl)) (Or.inl (own_w hw 76 rfl)) (by decide) (t := .long) (t' := .long) (by decide) (by decide)))) (Or.inl (Ne.symm ne74)))
    have f110 := (Fld.other W94 F85 (Or.inl (Ne.symm ne74)))
    have f111 := (Fld.other W94 (Fld.other W85 f26 (Or.inr (slot_ne (Or.inr (own_w hw 59 rfl)) (Or.inl (own_w hw 76 rfl)) (by decide) (t := (.array .long)) (t' := .long) (by decide) (by decide)))) (Or.inl (Ne.symm ne74)))
    have f112 := (Exa.wr W94 (Exa.wr W85 f27))
    have f113 := (Arv.other (Arv.other f28 W85 (Ne.symm f13)) W94 (Ne.symm ne80))
    have f114 := (Exa.wr W94 f93)
    have f115 := (Fld.other W94 (Fld.other W85 (Fld.keep p16 k10 (ninS (Ne.symm p30) nin0)) (Or.inl ne74)) (Or.inr (slot_ne (Or.inr (own_w hw 61 rfl)) (Or.inl (own_w hw 76 rfl)) (by decide) (t := .long) (t' := .long) (by decide) (by decide))))
    have f116 := (Fld.other W94 (Fld.other W85 (Fld.keep p17 k10 (ninS (Ne.symm p30) nin0)) (Or.inl ne74)) (Or.inr (slot_ne (Or.inl (own_w hw 96 rfl)) (Or.inl (own_w hw 76 rfl)) (by decide) (t := .long) (t' := .long) (by decide) (by decide))))
    have f117 := (Fld.other W94 (Fld.other W85 (Fld.keep p18 k10 (ninS (Ne.symm p30) nin0)) (Or.inl ne74)) (Or.inr (slot_ne (Or.inl (own_w hw 98 rfl)) (Or.inl (own_w hw 76 rfl)) (by decide) (t := .long) (t' := .long) (by decide) (by decide))))
    have f118 := (Fld.other W94 (Fld.other W85 (Fld.keep p19 k10 (ninS (Ne.symm p30) nin0)) (Or.inl ne74)) (Or.inr (slot_ne (Or.inl (own_w hw 30 rfl)) (Or.inl (own_w hw 76 rfl)) (by decide) (t := .long) (t' := .long) (by decide) (by decide))))
    have f119 := (Fld.other W94 (Fld.other W85 (Fld.keep p20 k10 (ninS (Ne.symm p30) nin0)) (Or.inl ne74)) (Or.inr (slot_ne (Or.inl (own_w hw 33 rfl)) (Or.inl (own_w hw 76 rfl)) (by decide) (t := .long) (t' := .long) (by decide) (by decide))))
    have f120 := (Fld.other W94 (Fld.other W85 (Fld.keep p22 k10 (ninS (Ne.symm p30) nin0)) (Or.inl ne74)) (Or.inr (slot_ne (Or.inr (own_w hw 59 rfl)) (Or.inl (own_w hw 76 rfl)) (by decide) (t := (.array .long)) (t' := .long) (by decide) (by decide))))
    have f121 := (Exa.wr W94 (Exa.wr W85 (Exa.keep p23 k10)))
    have f122 := (Arv.other (Arv.other (Arv.keep p24 k10 (ninS (Ne.symm p31) nin0)) W85 ne75) W94 (Ne.symm p37))
    refine ⟨_, _, pre0 _ (S98 _ ?_), hrun, hended, _, _, rfl, ?_, ⟨_, rfl⟩, hW, hsame.mono (by decide) (by decide)⟩
    · exact X94.returnOut hx Bd.returns (hb hby d6_27) hr
    · show Q_rm_sao Z aa nw ln ix t' r k' s' q j ft_ ct fs_ cs wV kV vV h0 n0 _ T94.heap _
      rw [e94]
      exact Or.inr (⟨x5, x6, x7, c8, rfl, N97, K96, sz70, sz76, f13, f99, f100, f101, f102, f103, f104, f105, f106, f107, f108, f109, f110, f111, f112, f113, f114, f115, f116, f117, f118, f119, F94, f120, f121, f122⟩)
theorem d7_0 : decode prog_38_method_4_code 0 = .ok (.aload_n 0, 1) := by decide +kernel
theorem d7_1 : decode prog_38_method_4_code 1 = .ok (.getfield 27, 3) := by decide +kernel
theorem d7_4 : decode prog_38_method_4_code 4 = .ok (.dup, 1) := by decide +kernel
theorem d7_5 : decode prog_38_method_4_code 5 = .ok (.getfield 44, 3) := by decide +kernel
theorem d7_8 : decode prog_38_method_4_code 8 = .ok (.lload_n 1, 1) := by decide +kernel
theorem d7_9 : decode prog_38_method_4_code 9 = .ok (.ladd, 1) := by decide +kernel
theorem d7_10 : decode prog_38_method_4_code 10 = .ok (.putfield 44, 3) := by decide +kernel
theorem d7_13 : decode prog_38_method_4_code 13 = .ok (.aload_n 0, 1) := by decide +kernel
theorem d7_14 : decode prog_38_method_4_code 14 = .ok (.getfield 31, 3) := by decide +kernel
theorem d7_17 : decode prog_38_method_4_code 17 = .ok (.dup, 1) := by decide +kernel
theorem d7_18 : decode prog_38_method_4_code 18 = .ok (.getfield 44, 3) := by decide +kernel
theorem d7_21 : decode prog_38_method_4_code 21 = .ok (.lload_n 1, 1) := by decide +kernel
theorem d7_22 : decode prog_38_method_4_code 22 = .ok (.ladd, 1) := by decide +kernel
theorem d7_23 : decode prog_38_method_4_code 23 = .ok (.putfield 44, 3) := by decide +kernel
theorem d7_26 : decode prog_38_method_4_code 26 = .ok (.return_, 1) := by decide +kernel
theorem ef_rm_sae (m : MethodId) (x0 : Addr) (x1 : Int64) : entryFrame m #[(.ref x0), (.long x1)] 3 = mkF m 0 #[.val (.ref x0), .val (.long x1), .second] [] := by first | (simp [entryFrame, mkF, argsToLocals, Value.category]; done) | rfl
def Q_rm_sae (Z : State) (aa : Addr) (p_ : Int64) (ln : Int64) (ix : Int64) (t' : Addr) (r : Addr) (k' : ClassId) (s' : Addr) (q : Addr) (j : ClassId) (ft_ : Int64) (ct : Int64) (fs_ : Int64) (cs : Int64) (h0 : Heap) (n0 : Nat) (v : Option Value) (h : Heap) (L : List Loc) : Prop := ((v = none) ∧ (Fr n0 L) ∧ (Keep h0 h [t', s']) ∧ (Exa Z h t' "com/example/sluice/sluice/WaitRecorder$Tally") ∧ (Fld Z h t' "com/example/sluice/sluice/WaitRecorder$Tally" "fromMillis" "J" (.long ft_)) ∧ (Fld Z h t' "com/example/sluice/sluice/WaitRecorder$Tally" "startedAfterWaiting" "J" (.long (0 : Int64))) ∧ (Fld Z h t' "com/example/sluice/sluice/WaitRecorder$Tally" "totalWaitMillis" "J" (.long (0 : Int64))) ∧ (Fld Z h t' "com/example/sluice/sluice/WaitRecorder$Tally" "minimumWaitMillis" "J" (.long (9223372036854775807 : Int64))) ∧ (Fld Z h t' "com/example/sluice/sluice/WaitRecorder$Tally" "maximumWaitMillis" "J" (.long (-9223372036854775808 : Int64))) ∧ (Fld Z h t' "com/example/sluice/sluice/WaitRecorder$Tally" "startedAtOnce" "J" (.long (ct + p_))) ∧ (Fld Z h t' "com/example/sluice/sluice/WaitRecorder$Tally" "refused" "[J" (.ref r)) ∧ (Exa Z h r "[J") ∧ (Arv Z h r k' .long (7 : Int32) [(.long (0 : Int64)), (.long (0 : Int64)), (.long (0 : Int64)), (.long (0 : Int64)), (.long (0 : Int64)), (.long (0 : Int64)), (.long (0 : Int64))] (.long (0 : Int64))) ∧ (Exa Z h s' "com/example/sluice/sluice/WaitRecorder$Tally") ∧ (Fld Z h s' "com/example/sluice/sluice/WaitRecorder$Tally" "fromMillis" "J" (.long fs_)) ∧ (Fld Z h s' "com/example/sluice/sluice/WaitRecorder$Tally" "startedAfterWaiting" "J" (.long (0 : Int64))) ∧ (Fld Z h s' "com/example/sluice/sluice/WaitRecorder$Tally" "totalWaitMillis" "J" (.long (0 : Int64))) ∧ (Fld Z h s' "com/example/sluice/sluice/WaitRecorder$Tally" "minimumWaitMillis" "J" (.long (9223372036854775807 : Int64))) ∧ (Fld Z h s' "com/example/sluice/sluice/WaitRecorder$Tally" "maximumWaitMillis" "J" (.long (-9223372036854775808 : Int64))) ∧ (Fld Z h s' "com/example/sluice/sluice/WaitRecorder$Tally" "startedAtOnce" "J" (.long (cs + p_))) ∧ (Fld Z h s' "com/example/sluice/sluice/WaitRecorder$Tally" "refused" "[J" (.ref q)) ∧ (Exa Z h q "[J") ∧ (Arv Z h q j .long (7 : Int32) [(.long (0 : Int64)), (.long (0 : Int64)), (.long (0 : Int64)), (.long (0 : Int64)), (.long (0 : Int64)), (.long (0 : Int64)), (.long (0 : Int64))] (.long (0 : Int64))))
set_option maxRecDepth 65536 in
set_option maxHeartbeats 40000000 in
theorem rm_sae (l : Launch) (Z : State) (a0 : Array Value) (hw : ∀ d ∈ tables_1, d.before a0 Z = true) (ws : List Jvm.Cond) (aa : Addr) (p_ : Int64) (ln : Int64) (ix : Int64) (t' : Addr) (r : Addr) (k' : ClassId) (s' : Addr) (q : Addr) (j : ClassId) (ft_ : Int64) (ct : Int64) (fs_ : Int64) (cs : Int64) (h0 : Heap) (n0 : Nat) (O0 : Old Z n0 h0) (p0 : Exa Z h0 aa "com/example/sluice/sluice/WaitRecorder") (p1 : Fld Z h0 aa "com/example/sluice/sluice/WaitRecorder" "intervalMillis" "J" (.long ln)) (p2 : Fld Z h0 aa "com/example/sluice/sluice/WaitRecorder" "intervalIndex" "J" (.long ix)) (p3 : Fld Z h0 aa "com/example/sluice/sluice/WaitRecorder" "interval" "Lcom/example/sluice/sluice/WaitRecorder$Tally;" (.ref t')) (p4 : Fld Z h0 aa "com/example/sluice/sluice/WaitRecorder" "sinceReset" "Lcom/example/sluice/sluice/WaitRecorder$Tally;" (.ref s')) (p5 : Exa Z h0 t' "com/example/sluice/sluice/WaitRecorder$Tally") (p6 : Fld Z h0 t' "com/example/sluice/sluice/WaitRecorder$Tally" "fromMillis" "J" (.long ft_)) (p7 : Fld Z h0 t' "com/example/sluice/sluice/WaitRecorder$Tally" "startedAfterWaiting" "J" (.long (0 : Int64))) (p8 : Fld Z h0 t' "com/example/sluice/sluice/WaitRecorder$Tally" "totalWaitMillis" "J" (.long (0 : Int64))) (p9 : Fld Z h0 t' "com/example/sluice/sluice/WaitRecorder$Tally" "minimumWaitMillis" "J" (.long (9223372036854775807 : Int64))) (p10 : Fld Z h0 t' "com/example/sluice/sluice/WaitRecorder$Tally" "maximumWaitMillis" "J" (.long (-9223372036854775808 : Int64))) (p11 : Fld Z h0 t' "com/example/sluice/sluice/WaitRecorder$Tally" "startedAtOnce" "J" (.long ct)) (p12 : Fld Z h0 t' "com/example/sluice/sluice/WaitRecorder$Tally" "refused" "[J" (.ref r)) (p13 : Exa Z h0 r "[J") (p14 : Arv Z h0 r k' .long (7 : Int32) [(.long (0 : Int64)), (.long (0 : Int64)), (.long (0 : Int64)), (.long (0 : Int64)), (.long (0 : Int64)), (.long (0 : Int64)), (.long (0 : Int64))] (.long (0 : Int64))) (p15 : Exa Z h0 s' "com/example/sluice/sluice/WaitRecorder$Tally") (p16 : Fld Z h0 s' "com/example/sluice/sluice/WaitRecorder$Tally" "fromMillis" "J" (.long fs_)) (p17 : Fld Z h0 s' "com/example/sluice/sluice/WaitRecorder$Tally" "startedAfterWaiting" "J" (.long (0 : Int64))) (p18 : Fld Z h0 s' "com/example/sluice/sluice/WaitRecorder$Tally" "totalWaitMillis" "J" (.long (0 : Int64))) (p19 : Fld Z h0 s' "com/example/sluice/sluice/WaitRecorder$Tally" "minimumWaitMillis" "J" (.long (9223372036854775807 : Int64))) (p20 : Fld Z h0 s' "com/example/sluice/sluice/WaitRecorder$Tally" "maximumWaitMillis" "J" (.long (-9223372036854775808 : Int64))) (p21 : Fld Z h0 s' "com/example/sluice/sluice/WaitRecorder$Tally" "startedAtOnce" "J" (.long cs)) (p22 : Fld Z h0 s' "com/example/sluice/sluice/WaitRecorder$Tally" "refused" "[J" (.ref q)) (p23 : Exa Z h0 q "[J") (p24 : Arv Z h0 q j .long (7 : Int32) [(.long (0 : Int64)), (.long (0 : Int64)), (.long (0 : Int64)), (.long (0 : Int64)), (.long (0 : Int64)), (.long (0 : Int64)), (.long (0 : Int64))] (.long (0 : Int64))) (p25 : n0 ≤ aa) (p26 : n0 ≤ t') (p27 : n0 ≤ s') (p28 : aa ≠ t') (p29 : aa ≠ r) (p30 : aa ≠ s') (p31 : aa ≠ q) (p32 : t' ≠ r) (p33 : t' ≠ s') (p34 : t' ≠ q) (p35 : r ≠ s') (p36 : r ≠ q) (p37 : s' ≠ q) :
    MetFree l (⟨"com/example/sluice/sluice/WaitRecorder", "startedAtOnceEarlier", "(J)V"⟩ : MethodName) (head1 (Jvm.Cond.code (⟨"com/example/sluice/sluice/WaitRecorder", "startedAtOnceEarlier", "(J)V"⟩ : MethodName) prog_38_method_4_code 3 none :: ws) ({ frames := 0, cells := 0, slots := 0, locals := 0 } : Room)) (fun a U => a = #[(.ref aa), (.long p_)] ∧ Z.Warmed39 U.vm ∧ U.heap = h0) (fun _ _ _ _ _ => True) (fun _ U o U' => ∃ v L, o = .returned v ∧ Q_rm_sae Z aa p_ ln ix t' r k' s' q j ft_ ct fs_ cs h0 n0 v U'.heap L ∧ FrameEnd U o U' L ({ frames := 0, cells := 0, slots := 0, locals := 0 } : Room).cells ({ frames := 0, cells := 0, slots := 0, locals := 0 } : Room).slots) := by
  refine MetFree.of_bodySF (plainFor_of_name pn_2) hisR ?_
  intro p e s m args below meth c s₁ Bd hml0 hP hK
  obtain ⟨rfl, hZ, hh⟩ := hP
  have hx := Bd.exec
  have hby := Bd.bytes
  have hml : c.maxLocals = 3 := hml0
  have hown : s.vm.findClass "com/example/sluice/sluice/WaitRecorder" = some m.cls := findClass_of_methodNamed Bd.named
  have hnm := (name_of_methodNamed Bd.named Bd.method).1
  have X0 : Stand p l e ({ frames := 0, cells := 0, slots := 0, locals := 0 } : Room) s m #[(.ref aa), (.long p_)] below meth c s₁ [] 0 0 := Stand.of_body Bd
  have e0 : s₁.heap = h0 := by rw [← hh, Bd.state]; rfl
  have N0 := Fr.nil n0
  have K0 : Keep h0 h0 [t', s'] := Keep.refl _ _
  have pre0 : ∀ t, Steps p.tables e below (s₁.setTop (mkF m 0 #[.val (.ref aa), .val (.long p_), .second] [])) t → Steps p.tables e below (s₁.setTop (entryFrame m #[(.ref aa), (.long p_)] 3)) t := fun t k => castTop (ef_rm_sae m aa p_) k
  obtain ⟨T1, X1, e1, st1⟩ := getF X0 hx hZ hown (host := "") (Or.inl (own_w hw 62 rfl)) Via.refl e0 p3 (g := (mkF m 1 #[.val (.ref aa), .val (.long p_), .second] [(.ref aa)])) rfl rfl (hb hby d7_1)
  obtain ⟨T2, X2, e2, st2⟩ := getF X1 hx hZ hown (host := "") (Or.inl (own_w hw 75 rfl)) Via.refl e1 p11 (g := (mkF m 5 #[.val (.ref aa), .val (.long p_), .second] [(.ref t'), (.ref t')])) rfl rfl (hb hby d7_5)
  obtain ⟨T3, h3, X3, e3, W3, st3⟩ := putF X2 hx hZ hown (host := "") (Or.inl (own_w hw 75 rfl)) Via.refl e2 p11 p5 (Or.inl (own_w hw 76 rfl)) (own_w hw 22 rfl) (ty := .long) (by decide) rfl rfl (g := (mkF m 10 #[.val (.ref aa), .val (.long p_), .second] [(.long (ct + p_)), (.ref t')])) rfl rfl (hb hby d7_10)
  have O4 := O0.wr W3 p26
  have K5 : Keep h0 h3 [t', s'] := K0.wr W3 (Or.inl (List.mem_of_getElem? (i := 0) rfl))
  have N6 := Fr.snoc X3 N0 p26
  have F3 : Fld Z h3 t' "com/example/sluice/sluice/WaitRecorder$Tally" "startedAtOnce" "J" (.long (ct + p_)) := Fld.same W3 p11
  have f7 := (Fld.other W3 p4 (Or.inl p28))
  obtain ⟨T8, X8, e8, st8⟩ := getF X3 hx hZ hown (host := "") (Or.inl (own_w hw 64 rfl)) Via.refl e3 f7 (g := (mkF m 14 #[.val (.ref aa), .val (.long p_), .second] [(.ref aa)])) rfl rfl (hb hby d7_14)
  have f9 := (Fld.other W3 p21 (Or.inl (Ne.symm p33)))
  obtain ⟨T10, X10, e10, st10⟩ := getF X8 hx hZ hown (host := "") (Or.inl (own_w hw 75 rfl)) Via.refl e8 f9 (g := (mkF m 18 #[.val (.ref aa), .val (.long p_), .second] [(.ref s'), (.ref s')])) rfl rfl (hb hby d7_18)
  have f11 := (Exa.wr W3 p15)
  obtain ⟨T12, h12, X12, e12, W12, st12⟩ := putF X10 hx hZ hown (host := "") (Or.inl (own_w hw 75 rfl)) Via.refl e10 f9 f11 (Or.inl (own_w hw 76 rfl)) (own_w hw 22 rfl) (ty := .long) (by decide) rfl rfl (g := (mkF m 23 #[.val (.ref aa), .val (.long p_), .second] [(.long (cs + p_)), (.ref s')])) rfl rfl (hb hby d7_23)
  have O13 := O4.wr W12 p27
  have K14 : Keep h0 h12 [t', s'] := K5.wr W12 (Or.inl (List.mem_of_getElem? (i := 1) rfl))
  have N15 := Fr.snoc X12 N6 p27
  have F12 : Fld Z h12 s' "com/example/sluice/sluice/WaitRecorder$Tally" "startedAtOnce" "J" (.long (cs + p_)) := Fld.same W12 f9
  have S16 : ∀ t, Steps p.tables e below (T12.setTop (mkF m 26 #[.val (.ref aa), .val (.long p_), .second] [])) t → Steps p.tables e below (s₁.setTop (mkF m 0 #[.val (.ref aa), .val (.long p_), .second] [])) t := by
    intro t kt
    refine XS.aloadN X0.here hx rfl (hb hby d7_0) rfl rfl ?_
    show Steps p.tables e below (s₁.setTop (mkF m 1 #[.val (.ref aa), .val (.long p_), .second] [(.ref aa)])) _
    refine st1 _ ?_
    refine XS.dup X1.here hx rfl (hb hby d7_4) rfl rfl ?_
    show Steps p.tables e below (T1.setTop (mkF m 5 #[.val (.ref aa), .val (.long p_), .second] [(.ref t'), (.ref t')])) _
    refine st2 _ ?_
    refine XS.lloadN X2.here hx rfl (hb hby d7_8) rfl ?_
    refine XS.ladd X2.here hx rfl (hb hby d7_9) rfl ?_
    show Steps p.tables e below (T2.setTop (mkF m 10 #[.val (.ref aa), .val (.long p_), .second] [(.long (ct + p_)), (.ref t')])) _
    refine st3 _ ?_
    refine XS.aloadN X3.here hx rfl (hb hby d7_13) rfl rfl ?_
    show Steps p.tables e below (T3.setTop (mkF m 14 #[.val (.ref aa), .val (.long p_), .second] [(.ref aa)])) _
    refine st8 _ ?_
    refine XS.dup X8.here hx rfl (hb hby d7_17) rfl rfl ?_
    show Steps p.tables e below (T8.setTop (mkF m 18 #[.val (.ref aa), .val (.long p_), .second] [(.ref s'), (.ref s')])) _
    refine st10 _ ?_
    refine XS.lloadN X10.here hx rfl (hb hby d7_21) rfl ?_
    refine XS.ladd X10.here hx rfl (hb hby d7_22) rfl ?_
    show Steps p.tables e below (T10.setTop (mkF m 23 #[.val (.ref aa), .val (.long p_), .second] [(.long (cs + p_)), (.ref s')])) _
    refine st12 _ ?_
    exact kt
  obtain ⟨fs, hr, hrun, hended, hW, hsame⟩ := X12.leave (v := none) (fun _ => rfl)
  have f17 := (Exa.wr W12 (Exa.wr W3 p5))
  have f18 := (Fld.other W12 (Fld.other W3 p6 (Or.inr (slot_ne (Or.inr (own_w hw 61 rfl)) (Or.inl (own_w hw 76 rfl)) (by decide) (t := .long) (t' := .long) (by decide) (by decide)))) (Or.inl p33))
  have f19 := (Fld.other W12 (Fld.other W3 p7 (Or.inr (slot_ne (Or.inl (own_w hw 96 rfl)) (Or.inl (own_w hw 76 rfl)) (by decide) (t := .long) (t' := .long) (by decide) (by decide)))) (Or.inl p33))
  have f20 := (Fld.other W12 (Fld.other W3 p8 (Or.inr (slot_ne (Or.inl (own_w hw 98 rfl)) (Or.inl (own_w hw 76 rfl)) (by decide) (t := .long) (t' := .long) (by decide) (by decide)))) (Or.inl p33))
  have f21 := (Fld.other W12 (Fld.other W3 p9 (Or.inr (slot_ne (Or.inl (own_w hw 30 rfl)) (Or.inl (own_w hw 76 rfl)) (by decide) (t := .long) (t' := .long) (by decide) (by decide)))) (Or.inl p33))
  have f22 := (Fld.other W12 (Fld.other W3 p10 (Or.inr (slot_ne (Or.inl (own_w hw 33 rfl)) (Or.inl (own_w hw 76 rfl)) (by decide) (t := .long) (t' := .long) (by decide) (by decide)))) (Or.inl p33))
  have f23 := (Fld.other W12 F3 (Or.inl p33))
  have f24 := (Fld.other W12 (Fld.other W3 p12 (Or.inr (slot_ne (Or.inr (own_w hw 59 rfl)) (Or.inl (own_w hw 76 rfl)) (by decide) (t := (.array .long)) (t' := .long) (by decide) (by decide)))) (Or.inl p33))
  have f25 := (Exa.wr W12 (Exa.wr W3 p13))
  have f26 := (Arv.other (Arv.other p14 W3 (Ne.symm p32)) W12 p35)
  have f27 := (Exa.wr W12 f11)
  have f28 := (Fld.other W12 (Fld.other W3 p16 (Or.inl (Ne.symm p33))) (Or.inr (slot_ne (Or.inr (own_w hw 61 rfl)) (Or.inl (own_w hw 76 rfl)) (by decide) (t := .long) (t' := .long) (by decide) (by decide))))
  have f29 := (Fld.other W12 (Fld.other W3 p17 (Or.inl (Ne.symm p33))) (Or.inr (slot_ne (Or.inl (own_w hw 96 rfl)) (Or.inl (own_w hw 76 rfl)) (by decide) (t := .long) (t' := .long) (by decide) (by decide))))
  have f30 := (Fld.other W12 (Fld.other W3 p18 (Or.inl (Ne.symm p33))) (Or.inr (slot_ne (Or.inl (own_w hw 98 rfl)) (Or.inl (own_w hw 76 rfl)) (by decide) (t := .long) (t' := .long) (by decide) (by decide))))
  have f31 := (Fld.other W12 (Fld.other W3 p19 (Or.inl (Ne.symm p33))) (Or.inr (slot_ne (Or.inl (own_w hw 30 rfl)) (Or.inl (own_w hw 76 rfl)) (by decide) (t := .long) (t' := .long) (by decide) (by decide))))
  have f32 := (Fld.other W12 (Fld.other W3 p20 (Or.inl (Ne.symm p33))) (Or.inr (slot_ne (Or.inl (own_w hw 33 rfl)) (Or.inl (own_w hw 76 rfl)) (by decide) (t := .long) (t' := .long) (by decide) (by decide))))
  have f33 := (Fld.other W12 (Fld.other W3 p22 (Or.inl (Ne.symm p33))) (Or.inr (slot_ne (Or.inr (own_w hw 59 rfl)) (Or.inl (own_w hw 76 rfl)) (by decide) (t := (.array .long)) (t' := .long) (by decide) (by decide))))
  have f34 := (Exa.wr W12 (Exa.wr W3 p23))
  have f35 := (Arv.other (Arv.other p24 W3 (Ne.symm p34)) W12 (Ne.symm p37))
  refine ⟨_, _, pre0 _ (S16 _ ?_), hrun, hended, _, _, rfl, ?_, ⟨_, rfl⟩, hW, hsame.mono (by decide) (by decide)⟩
  · exact X12.returnOut hx Bd.returns (hb hby d7_26) hr
  · show Q_rm_sae Z aa p_ ln ix t' r k' s' q j ft_ ct fs_ cs h0 n0 _ T12.heap _
    rw [e12]
    exact ⟨rfl, N15, K14, f17, f18, f19, f20, f21, f22, f23, f24, f25, f26, f27, f28, f29, f30, f31, f32, F12, f33, f34, f35⟩
theorem d8_0 : decode prog_38_method_8_code 0 = .ok (.aload_n 0, 1) := by decide +kernel
theorem d8_1 : decode prog_38_method_8_code 1 = .ok (.new 22, 3) := by decide +kernel
theorem d8_4 : decode prog_38_method_8_code 4 = .ok (.dup, 1) := by decide +kernel
theorem d8_5 : decode prog_38_method_8_code 5 = .ok (.lload_n 1, 1) := by decide +kernel
theorem d8_6 : decode prog_38_method_8_code 6 = .ok (.invokespecial 24, 3) := by decide +kernel
theorem d8_9 : decode prog_38_method_8_code 9 = .ok (.putfield 31, 3) := by decide +kernel
theorem d8_12 : decode prog_38_method_8_code 12 = .ok (.return_, 1) := by decide +kernel
theorem ef_rm_reset (m : MethodId) (x0 : Addr) (x1 : Int64) : entryFrame m #[(.ref x0), (.long x1)] 3 = mkF m 0 #[.val (.ref x0), .val (.long x1), .second] [] := by first | (simp [entryFrame, mkF, argsToLocals, Value.category]; done) | rfl
def Q_rm_reset (Z : State) (aa : Addr) (nw : Int64) (ln : Int64) (ix : Int64) (t' : Addr) (r : Addr) (k' : ClassId) (s' : Addr) (q : Addr) (j : ClassId) (ft_ : Int64) (ct : Int64) (fs_ : Int64) (cs : Int64) (wV : Addr) (kV : ClassId) (vV : List Value) (h0 : Heap) (n0 : Nat) (v : Option Value) (h : Heap) (L : List Loc) : Prop := (∃ (s2 : Addr) (q2 : Addr) (j2 : ClassId), (v = none) ∧ (Fr n0 L) ∧ (Keep h0 h [aa]) ∧ (h0.size ≤ s2) ∧ (h0.size ≤ q2) ∧ (s2 ≠ q2) ∧ (Exa Z h aa "com/example/sluice/sluice/WaitRecorder") ∧ (Fld Z h aa "com/example/sluice/sluice/WaitRecorder" "intervalMillis" "J" (.long ln)) ∧ (Fld Z h aa "com/example/sluice/sluice/WaitRecorder" "intervalIndex" "J" (.long ix)) ∧ (Fld Z h aa "com/example/sluice/sluice/WaitRecorder" "interval" "Lcom/example/sluice/sluice/WaitRecorder$Tally;" (.ref t')) ∧ (Fld Z h aa "com/example/sluice/sluice/WaitRecorder" "sinceReset" "Lcom/example/sluice/sluice/WaitRecorder$Tally;" (.ref s2)) ∧ (Exa Z h s2 "com/example/sluice/sluice/WaitRecorder$Tally") ∧ (Fld Z h s2 "com/example/sluice/sluice/WaitRecorder$Tally" "fromMillis" "J" (.long nw)) ∧ (Fld Z h s2 "com/example/sluice/sluice/WaitRecorder$Tally" "startedAfterWaiting" "J" (.long (0 : Int64))) ∧ (Fld Z h s2 "com/example/sluice/sluice/WaitRecorder$Tally" "totalWaitMillis" "J" (.long (0 : Int64))) ∧ (Fld Z h s2 "com/example/sluice/sluice/WaitRecorder$Tally" "minimumWaitMillis" "J" (.long (9223372036854775807 : Int64))) ∧ (Fld Z h s2 "com/example/sluice/sluice/WaitRecorder$Tally" "maximumWaitMillis" "J" (.long (-9223372036854775808 : Int64))) ∧ (Fld Z h s2 "com/example/sluice/sluice/WaitRecorder$Tally" "startedAtOnce" "J" (.long (0 : Int64))) ∧ (Fld Z h s2 "com/example/sluice/sluice/WaitRecorder$Tally" "refused" "[J" (.ref q2)) ∧ (Exa Z h q2 "[J") ∧ (Arv Z h q2 j2 .long (7 : Int32) [(.long (0 : Int64)), (.long (0 : Int64)), (.long (0 : Int64)), (.long (0 : Int64)), (.long (0 : Int64)), (.long (0 : Int64)), (.long (0 : Int64))] (.long (0 : Int64))))
set_option maxRecDepth 65536 in
set_option maxHeartbeats 40000000 in
theorem rm_reset (l : Launch) (Z : State) (a0 : Array Value) (hw : ∀ d ∈ tables_1, d.before a0 Z = true) (ws : List Jvm.Cond) (aa : Addr) (nw : Int64) (ln : Int64) (ix : Int64) (t' : Addr) (r : Addr) (k' : ClassId) (s' : Addr) (q : Addr) (j : ClassId) (ft_ : Int64) (ct : Int64) (fs_ : Int64) (cs : Int64) (wV : Addr) (kV : ClassId) (vV : List Value) (h0 : Heap) (n0 : Nat) (O0 : Old Z n0 h0) (p0 : Exa Z h0 aa "com/example/sluice/sluice/WaitRecorder") (p1 : Fld Z h0 aa "com/example/sluice/sluice/WaitRecorder" "intervalMillis" "J" (.long ln)) (p2 : Fld Z h0 aa "com/example/sluice/sluice/WaitRecorder" "intervalIndex" "J" (.long ix)) (p3 : Fld Z h0 aa "com/example/sluice/sluice/WaitRecorder" "interval" "Lcom/example/sluice/sluice/WaitRecorder$Tally;" (.ref t')) (p4 : Fld Z h0 aa "com/example/sluice/sluice/WaitRecorder" "sinceReset" "Lcom/example/sluice/sluice/WaitRecorder$Tally;" (.ref s')) (p5 : Exa Z h0 t' "com/example/sluice/sluice/WaitRecorder$Tally") (p6 : Fld Z h0 t' "com/example/sluice/sluice/WaitRecorder$Tally" "fromMillis" "J" (.long ft_)) (p7 : Fld Z h0 t' "com/example/sluice/sluice/WaitRecorder$Tally" "startedAfterWaiting" "J" (.long (0 : Int64))) (p8 : Fld Z h0 t' "com/example/sluice/sluice/WaitRecorder$Tally" "totalWaitMillis" "J" (.long (0 : Int64))) (p9 : Fld Z h0 t' "com/example/sluice/sluice/WaitRecorder$Tally" "minimumWaitMillis" "J" (.long (9223372036854775807 : Int64))) (p10 : Fld Z h0 t' "com/example/sluice/sluice/WaitRecorder$Tally" "maximumWaitMillis" "J" (.long (-9223372036854775808 : Int64))) (p11 : Fld Z h0 t' "com/example/sluice/sluice/WaitRecorder$Tally" "startedAtOnce" "J" (.long ct)) (p12 : Fld Z h0 t' "com/example/sluice/sluice/WaitRecorder$Tally" "refused" "[J" (.ref r)) (p13 : Exa Z h0 r "[J") (p14 : Arv Z h0 r k' .long (7 : Int32) [(.long (0 : Int64)), (.long (0 : Int64)), (.long (0 : Int64)), (.long (0 : Int64)), (.long (0 : Int64)), (.long (0 : Int64)), (.long (0 : Int64))] (.long (0 : Int64))) (p15 : Exa Z h0 s' "com/example/sluice/sluice/WaitRecorder$Tally") (p16 : Fld Z h0 s' "com/example/sluice/sluice/WaitRecorder$Tally" "fromMillis" "J" (.long fs_)) (p17 : Fld Z h0 s' "com/example/sluice/sluice/WaitRecorder$Tally" "startedAfterWaiting" "J" (.long (0 : Int64))) (p18 : Fld Z h0 s' "com/example/sluice/sluice/WaitRecorder$Tally" "totalWaitMillis" "J" (.long (0 : Int64))) (p19 : Fld Z h0 s' "com/example/sluice/sluice/WaitRecorder$Tally" "minimumWaitMillis" "J" (.long (9223372036854775807 : Int64))) (p20 : Fld Z h0 s' "com/example/sluice/sluice/WaitRecorder$Tally" "maximumWaitMillis" "J" (.long (-9223372036854775808 : Int64))) (p21 : Fld Z h0 s' "com/example/sluice/sluice/WaitRecorder$Tally" "startedAtOnce" "J" (.long cs)) (p22 : Fld Z h0 s' "com/example/sluice/sluice/WaitRecorder$Tally" "refused" "[J" (.ref q)) (p23 : Exa Z h0 q "[J") (p24 : Arv Z h0 q j .long (7 : Int32) [(.long (0 : Int64)), (.long (0 : Int64)), (.long (0 : Int64)), (.long (0 : Int64)), (.long (0 : Int64)), (.long (0 : Int64)), (.long (0 : Int64))] (.long (0 : Int64))) (p25 : n0 ≤ aa) (p26 : n0 ≤ t') (p27 : n0 ≤ s') (p28 : aa ≠ t') (p29 : aa ≠ r) (p30 : aa ≠ s') (p31 : aa ≠ q) (p32 : t' ≠ r) (p33 : t' ≠ s') (p34 : t' ≠ q) (p35 : r ≠ s') (p36 : r ≠ q) (p37 : s' ≠ q) (S_V : Sta Z Z.heap "com/example/sluice/sluice/RefusalReason" "$VALUES" "[Lcom/example/sluice/sluice/RefusalReason;" (.ref wV)) (E_V : Exa Z Z.heap wV "[Lcom/example/sluice/sluice/RefusalReason;") (A_V : Arv Z Z.heap wV kV (.object "com/example/sluice/sluice/RefusalReason") (7 : Int32) vV .null) :
    MetFree l (⟨"com/example/sluice/sluice/WaitRecorder", "reset", "(J)V"⟩ : MethodName) (head1 (Jvm.Cond.code (⟨"com/example/sluice/sluice/WaitRecorder", "reset", "(J)V"⟩ : MethodName) prog_38_method_8_code 3 none :: ws) ({ frames := 3, cells := 3, slots := 21, locals := 42 } : Room)) (fun a U => a = #[(.ref aa), (.long nw)] ∧ Z.Warmed39 U.vm ∧ U.heap = h0) (fun _ _ _ _ _ => True) (fun _ U o U' => ∃ v L, o = .returned v ∧ Q_rm_reset Z aa nw ln ix t' r k' s' q j ft_ ct fs_ cs wV kV vV h0 n0 v U'.heap L ∧ FrameEnd U o U' L ({ frames := 3, cells := 3, slots := 21, locals := 42 } : Room).cells ({ frames := 3, cells := 3, slots := 21, locals := 42 } : Room).slots) := by
  refine MetFree.of_bodySF (plainFor_of_name pn_2) hisR ?_
  intro p e s m args below meth c s₁ Bd hml0 hP hK
  obtain ⟨rfl, hZ, hh⟩ := hP
  have hx := Bd.exec
  have hby := Bd.bytes
  have hml : c.maxLocals = 3 := hml0
  have hown : s.vm.findClass "com/example/sluice/sluice/WaitRecorder" = some m.cls := findClass_of_methodNamed Bd.named
  have hnm := (name_of_methodNamed Bd.named Bd.method).1
  have X0 : Stand p l e ({ frames := 3, cells := 3, slots := 21, locals := 42 } : Room) s m #[(.ref aa), (.long nw)] below meth c s₁ [] 0 0 := Stand.of_body Bd
  have e0 : s₁.heap = h0 := by rw [← hh, Bd.state]; rfl
  have N0 := Fr.nil n0
  have K0 : Keep h0 h0 [aa] := Keep.refl _ _
  have pre0 : ∀ t, Steps p.tables e below (s₁.setTop (mkF m 0 #[.val (.ref aa), .val (.long nw), .second] [])) t → Steps p.tables e below (s₁.setTop (entryFrame m #[(.ref aa), (.long nw)] 3)) t := fun t k => castTop (ef_rm_reset m aa nw) k
  obtain ⟨T1, h1, X1, e1, E1, A1, D1, -, st1⟩ := newO X0 hx hZ hown (own_w hw 21 rfl) (own_w hw 22 rfl) (own_w hw 23 rfl) e0 (g := (mkF m 1 #[.val (.ref aa), .val (.long nw), .second] [(.ref aa)])) rfl (hb hby d8_1) (by decide) (by decide)
  obtain ⟨b1, g1⟩ : ∃ z, z = h0.size := ⟨_, rfl⟩
  have ge_b1 : n0 ≤ b1 := by rw [g1, ← O0.1]; exact O0.2.1
  have sz_b1 : h0.size ≤ b1 := by rw [g1]; exact K0.1
  have ne2 : aa ≠ b1 := Nat.ne_of_lt (Nat.lt_of_lt_of_le (Exa.lt p0) (Nat.le_of_eq g1.symm))
  have ne3 : t' ≠ b1 := Nat.ne_of_lt (Nat.lt_of_lt_of_le (Exa.lt p5) (Nat.le_of_eq g1.symm))
  have ne4 : r ≠ b1 := Nat.ne_of_lt (Nat.lt_of_lt_of_le (Exa.lt p13) (Nat.le_of_eq g1.symm))
  have ne5 : s' ≠ b1 := Nat.ne_of_lt (Nat.lt_of_lt_of_le (Exa.lt p15) (Nat.le_of_eq g1.symm))
  have ne6 : q ≠ b1 := Nat.ne_of_lt (Nat.lt_of_lt_of_le (Exa.lt p23) (Nat.le_of_eq g1.symm))
  rw [← g1] at A1 D1 st1
  have O7 := O0.ext E1
  have K8 : Keep h0 h1 [aa] := K0.ext E1
  have F9 : Fld Z h1 b1 "com/example/sluice/sluice/WaitRecorder$Tally" "minimumWaitMillis" "J" (.long (0 : Int64)) := D1 (Or.inl (own_w hw 30 rfl)) (ty := .long) (by decide)
  have F10 : Fld Z h1 b1 "com/example/sluice/sluice/WaitRecorder$Tally" "maximumWaitMillis" "J" (.long (0 : Int64)) := D1 (Or.inl (own_w hw 33 rfl)) (ty := .long) (by decide)
  have F11 : Fld Z h1 b1 "com/example/sluice/sluice/WaitRecorder$Tally" "refused" "[J" .null := D1 (Or.inr (own_w hw 59 rfl)) (ty := (.array .long)) (by decide)
  have F12 : Fld Z h1 b1 "com/example/sluice/sluice/WaitRecorder$Tally" "fromMillis" "J" (.long (0 : Int64)) := D1 (Or.inr (own_w hw 61 rfl)) (ty := .long) (by decide)
  have F13 : Fld Z h1 b1 "com/example/sluice/sluice/WaitRecorder$Tally" "startedAtOnce" "J" (.long (0 : Int64)) := D1 (Or.inl (own_w hw 76 rfl)) (ty := .long) (by decide)
  have F14 : Fld Z h1 b1 "com/example/sluice/sluice/WaitRecorder$Tally" "startedAfterWaiting" "J" (.long (0 : Int64)) := D1 (Or.inl (own_w hw 96 rfl)) (ty := .long) (by decide)
  have F15 : Fld Z h1 b1 "com/example/sluice/sluice/WaitRecorder$Tally" "totalWaitMillis" "J" (.long (0 : Int64)) := D1 (Or.inl (own_w hw 98 rfl)) (ty := .long) (by decide)
  obtain ⟨_, _, ⟨T16, L16, k16, n16⟩, -, X16, ⟨Lc16, hQ16, l16, y16, z16⟩, st16⟩ := X1.specialBack hx (y := (⟨"com/example/sluice/sluice/WaitRecorder$Tally", "<init>", "(J)V"⟩ : MethodName)) rfl hown (mvT hZ (own_w hw 24 rfl)) (mvT hZ (own_w hw 25 rfl)) (mvT hZ (own_w hw 26 rfl)) (by decide) (backOf (W := 2) (rm_tinit l Z a0 hw [] b1 nw wV kV vV h1 n0 O7 A1 ge_b1 F12 F14 F15 F9 F10 F13 F11 S_V E_V A_V) hZ (own_w hw 26 rfl) (own_w hw 23 rfl) (by decide) (by decide)) (g := (mkF m 6 #[.val (.ref aa), .val (.long nw), .second] [(.long nw), (.ref b1), (.ref b1), (.ref aa)])) rfl (by rw [hml]; rfl) (Steps.refl _) (a := b1) (argsL := [(.long nw)]) (rest := [(.ref b1), (.ref aa)]) (lenOf pd_2 rfl) rfl (by show 2 * 0 + _ ≤ _; exact Nat.le_of_eq rfl) (hb hby d8_6) (fun _ _ => ⟨rfl, e1, (by decide : 1 + 2 ≤ _), (by decide : 7 + 14 ≤ _)⟩)
  dsimp only [Pt.U, Pt.locs, Pt.cells, Pt.slots] at X16 l16 y16 z16 st16 hQ16
  subst l16 y16 z16
  obtain ⟨x17, x18, rfl, N19, k20, f21, f22, f23, f24, f25, f26, f27, f28, f29, f30, f31⟩ := hQ16
  have N32 := Fr.app N0 N19
  have ge33 : n0 ≤ x17 := by rw [← O7.1]; exact Nat.le_trans O7.2.1 f21
  have sz33 : h0.size ≤ x17 := Nat.le_trans K8.1 f21
  have f34 := (Exa.ext E1 p0)
  have ne35 : aa ≠ x17 := Nat.ne_of_lt (Nat.lt_of_lt_of_le (Exa.lt f34) f21)
  have f36 := (Exa.ext E1 p5)
  have ne37 : t' ≠ x17 := Nat.ne_of_lt (Nat.lt_of_lt_of_le (Exa.lt f36) f21)
  have f38 := (Exa.ext E1 p13)
  have ne39 : r ≠ x17 := Nat.ne_of_lt (Nat.lt_of_lt_of_le (Exa.lt f38) f21)
  have f40 := (Exa.ext E1 p15)
  have ne41 : s' ≠ x17 := Nat.ne_of_lt (Nat.lt_of_lt_of_le (Exa.lt f40) f21)
  have f42 := (Exa.ext E1 p23)
  have ne43 : q ≠ x17 := Nat.ne_of_lt (Nat.lt_of_lt_of_le (Exa.lt f42) f21)
  have ne44 : b1 ≠ x17 := Nat.ne_of_lt (Nat.lt_of_lt_of_le (Exa.lt A1) f21)
  have O45 := O7.keep k20 (allS ge_b1 all0)
  have K46 : Keep h0 T16.heap [aa] := K8.trans k20 (allS (Or.inr sz_b1) all0)
  have f47 := (Fld.keep (Fld.ext E1 p4) k20 (ninS ne2 nin0))
  have f48 := (Exa.keep f34 k20)
  obtain ⟨T49, h49, X49, e49, W49, st49⟩ := putF X16 hx hZ hown (host := "") (Or.inl (own_w hw 64 rfl)) Via.refl rfl f47 f48 (Or.inl (own_w hw 65 rfl)) (own_w hw 6 rfl) (ty := (.object "com/example/sluice/sluice/WaitRecorder$Tally")) (by decide) rfl rfl (g := (mkF m 9 #[.val (.ref aa), .val (.long nw), .second] [(.ref b1), (.ref aa)])) rfl rfl (hb hby d8_9)
  have O50 := O45.wr W49 p25
  have K51 : Keep h0 h49 [aa] := K46.wr W49 (Or.inl (List.mem_of_getElem? (i := 0) rfl))
  have N52 := Fr.snoc X49 N32 p25
  have F49 : Fld Z h49 aa "com/example/sluice/sluice/WaitRecorder" "sinceReset" "Lcom/example/sluice/sluice/WaitRecorder$Tally;" (.ref b1) := Fld.same W49 f47
  have S53 : ∀ t, Steps p.tables e below (T49.setTop (mkF m 12 #[.val (.ref aa), .val (.long nw), .second] [])) t → Steps p.tables e below (s₁.setTop (mkF m 0 #[.val (.ref aa), .val (.long nw), .second] [])) t := by
    intro t kt
    refine XS.aloadN X0.here hx rfl (hb hby d8_0) rfl rfl ?_
    show Steps p.tables e below (s₁.setTop (mkF m 1 #[.val (.ref aa), .val (.long nw), .second] [(.ref aa)])) _
    refine st1 _ ?_
    refine XS.dup X1.here hx rfl (hb hby d8_4) rfl rfl ?_
    refine XS.lloadN X1.here hx rfl (hb hby d8_5) rfl ?_
    show Steps p.tables e below (T1.setTop (mkF m 6 #[.val (.ref aa), .val (.long nw), .second] [(.long nw), (.ref b1), (.ref b1), (.ref aa)])) _
    refine st16.trans ?_
    show Steps p.tables e below (T16.setTop (mkF m 9 #[.val (.ref aa), .val (.long nw), .second] [(.ref b1), (.ref aa)])) _
    refine st49 _ ?_
    exact kt
  obtain ⟨fs, hr, hrun, hended, hW, hsame⟩ := X49.leave (v := none) (fun _ => rfl)
  have f54 := (Exa.wr W49 f48)
  have f55 := (Fld.other W49 (Fld.keep (Fld.ext E1 p1) k20 (ninS ne2 nin0)) (Or.inr (slot_ne (Or.inr (own_w hw 15 rfl)) (Or.inl (own_w hw 65 rfl)) (by decide) (t := .long) (t' := (.object "com/example/sluice/sluice/WaitRecorder$Tally")) (by decide) (by decide))))
  have f56 := (Fld.other W49 (Fld.keep (Fld.ext E1 p2) k20 (ninS ne2 nin0)) (Or.inr (slot_ne (Or.inl (own_w hw 20 rfl)) (Or.inl (own_w hw 65 rfl)) (by decide) (t := .long) (t' := (.object "com/example/sluice/sluice/WaitRecorder$Tally")) (by decide) (by decide))))
  have f57 := (Fld.other W49 (Fld.keep (Fld.ext E1 p3) k20 (ninS ne2 nin0)) (Or.inr (slot_ne (Or.inl (own_w hw 63 rfl)) (Or.inl (own_w hw 65 rfl)) (by decide) (t := (.object "com/example/sluice/sluice/WaitRecorder$Tally")) (t' := (.object "com/example/sluice/sluice/WaitRecorder$Tally")) (by decide) (by decide))))
  have f58 := (Exa.wr W49 f22)
  have f59 := (Fld.other W49 f23 (Or.inl (Ne.symm ne2)))
  have f60 := (Fld.other W49 f24 (Or.inl (Ne.symm ne2)))
  have f61 := (Fld.other W49 f25 (Or.inl (Ne.symm ne2)))
  have f62 := (Fld.other W49 f26 (Or.inl (Ne.symm ne2)))
  have f63 := (Fld.other W49 f27 (Or.inl (Ne.symm ne2)))
  have f64 := (Fld.other W49 f28 (Or.inl (Ne.symm ne2)))
  have f65 := (Fld.other W49 f29 (Or.inl (Ne.symm ne2)))
  have f66 := (Exa.wr W49 f30)
  have f67 := (Arv.other f31 W49 (Ne.symm ne35))
  refine ⟨_, _, pre0 _ (S53 _ ?_), hrun, hended, _, _, rfl, ?_, ⟨_, rfl⟩, hW, hsame.mono (by decide) (by decide)⟩
  · exact X49.returnOut hx Bd.returns (hb hby d8_12) hr
  · show Q_rm_reset Z aa nw ln ix t' r k' s' q j ft_ ct fs_ cs wV kV vV h0 n0 _ T49.heap _
    rw [e49]
    exact ⟨b1, x17, x18, rfl, N52, K51, sz_b1, sz33, ne44, f54, f55, f56, f57, F49, f58, f59, f60, f61, f62, f63, f64, f65, f66, f67⟩
theorem d9_0 : decode prog_41_method_1_code 0 = .ok (.aload_n 0, 1) := by decide +kernel
theorem d9_1 : decode prog_41_method_1_code 1 = .ok (.invokespecial 1, 3) := by decide +kernel
theorem d9_4 : decode prog_41_method_1_code 4 = .ok (.aload_n 0, 1) := by decide +kernel
theorem d9_5 : decode prog_41_method_1_code 5 = .ok (.lload_n 1, 1) := by decide +kernel
theorem d9_6 : decode prog_41_method_1_code 6 = .ok (.putfield 7, 3) := by decide +kernel
theorem d9_9 : decode prog_41_method_1_code 9 = .ok (.aload_n 0, 1) := by decide +kernel
theorem d9_10 : decode prog_41_method_1_code 10 = .ok (.lload_n 3, 1) := by decide +kernel
theorem d9_11 : decode prog_41_method_1_code 11 = .ok (.putfield 13, 3) := by decide +kernel
theorem d9_14 : decode prog_41_method_1_code 14 = .ok (.aload_n 0, 1) := by decide +kernel
theorem d9_15 : decode prog_41_method_1_code 15 = .ok (.lload 5, 2) := by decide +kernel
theorem d9_17 : decode prog_41_method_1_code 17 = .ok (.putfield 16, 3) := by decide +kernel
theorem d9_20 : decode prog_41_method_1_code 20 = .ok (.aload_n 0, 1) := by decide +kernel
theorem d9_21 : decode prog_41_method_1_code 21 = .ok (.lload 7, 2) := by decide +kernel
theorem d9_23 : decode prog_41_method_1_code 23 = .ok (.putfield 19, 3) := by decide +kernel
theorem d9_26 : decode prog_41_method_1_code 26 = .ok (.aload_n 0, 1) := by decide +kernel
theorem d9_27 : decode prog_41_method_1_code 27 = .ok (.lload 9, 2) := by decide +kernel
theorem d9_29 : decode prog_41_method_1_code 29 = .ok (.putfield 22, 3) := by decide +kernel
theorem d9_32 : decode prog_41_method_1_code 32 = .ok (.aload_n 0, 1) := by decide +kernel
theorem d9_33 : decode prog_41_method_1_code 33 = .ok (.lload 11, 2) := by decide +kernel
theorem d9_35 : decode prog_41_method_1_code 35 = .ok (.putfield 25, 3) := by decide +kernel
theorem d9_38 : decode prog_41_method_1_code 38 = .ok (.aload_n 0, 1) := by decide +kernel
theorem d9_39 : decode prog_41_method_1_code 39 = .ok (.aload 13, 2) := by decide +kernel
theorem d9_41 : decode prog_41_method_1_code 41 = .ok (.invokevirtual 28, 3) := by decide +kernel
theorem d9_44 : decode prog_41_method_1_code 44 = .ok (.checkcast 29, 3) := by decide +kernel
theorem d9_47 : decode prog_41_method_1_code 47 = .ok (.putfield 34, 3) := by decide +kernel
theorem d9_50 : decode prog_41_method_1_code 50 = .ok (.return_, 1) := by decide +kernel
theorem pn_3 : plainName "com/example/sluice/sluice/WaitStatistics" = true := by first | (simp [plainName, overriddenIn]; done) | decide +kernel
theorem ef_rm_winit (m : MethodId) (x0 : Addr) (x1 : Int64) (x2 : Int64) (x3 : Int64) (x4 : Int64) (x5 : Int64) (x6 : Int64) (x7 : Addr) : entryFrame m #[(.ref x0), (.long x1), (.long x2), (.long x3), (.long x4), (.long x5), (.long x6), (.ref x7)] 14 = mkF m 0 #[.val (.ref x0), .val (.long x1), .second, .val (.long x2), .second, .val (.long x3), .second, .val (.long x4), .second, .val (.long x5), .second, .val (.long x6), .second, .val (.ref x7)] [] := by first | (simp [entryFrame, mkF, argsToLocals, Value.category]; done) | rfl
def Q_rm_winit (Z : State) (aa : Addr) (v0 : Int64) (v1 : Int64) (v2 : Int64) (v3 : Int64) (v4 : Int64) (v5 : Int64) (r : Addr) (k' : ClassId) (h0 : Heap) (n0 : Nat) (v : Option Value) (h : Heap) (L : List Loc) : Prop := ((v = none) ∧ (Fr n0 L) ∧ (Keep h0 h [aa]) ∧ (Exa Z h aa "com/example/sluice/sluice/WaitStatistics") ∧ (Fld Z h aa "com/example/sluice/sluice/WaitStatistics" "startedAtOnce" "J" (.long v5)))
set_option maxRecDepth 65536 in
set_option maxHeartbeats 40000000 in
theorem rm_winit (l : Launch) (Z : State) (a0 : Array Value) (hw : ∀ d ∈ tables_1, d.before a0 Z = true) (ws : List Jvm.Cond) (aa : Addr) (v0 : Int64) (v1 : Int64) (v2 : Int64) (v3 : Int64) (v4 : Int64) (v5 : Int64) (r : Addr) (k' : ClassId) (h0 : Heap) (n0 : Nat) (O0 : Old Z n0 h0) (E_a : Exa Z h0 aa "com/example/sluice/sluice/WaitStatistics") (g_a : n0 ≤ aa) (E_r : Exa Z h0 r "[J") (A_r : Arv Z h0 r k' .long (7 : Int32) [(.long (0 : Int64)), (.long (0 : Int64)), (.long (0 : Int64)), (.long (0 : Int64)), (.long (0 : Int64)), (.long (0 : Int64)), (.long (0 : Int64))] (.long (0 : Int64))) (n_ra : r ≠ aa) (F_aa_fromMillis : Fld Z h0 aa "com/example/sluice/sluice/WaitStatistics" "fromMillis" "J" (.long (0 : Int64))) (F_aa_startedAfterWaiting : Fld Z h0 aa "com/example/sluice/sluice/WaitStatistics" "startedAfterWaiting" "J" (.long (0 : Int64))) (F_aa_totalWaitMillis : Fld Z h0 aa "com/example/sluice/sluice/WaitStatistics" "totalWaitMillis" "J" (.long (0 : Int64))) (F_aa_minimumWaitMillis : Fld Z h0 aa "com/example/sluice/sluice/WaitStatistics" "minimumWaitMillis" "J" (.long (0 : Int64))) (F_aa_maximumWaitMillis : Fld Z h0 aa "com/example/sluice/sluice/WaitStatistics" "maximumWaitMillis" "J" (.long (0 : Int64))) (F_aa_startedAtOnce : Fld Z h0 aa "com/example/sluice/sluice/WaitStatistics" "startedAtOnce" "J" (.long (0 : Int64))) (F_aa_refused : Fld Z h0 aa "com/example/sluice/sluice/WaitStatistics" "refused" "[J" .null) :
    MetFree l (⟨"com/example/sluice/sluice/WaitStatistics", "<init>", "(JJJJJJ[J)V"⟩ : MethodName) (head1 (Jvm.Cond.code (⟨"com/example/sluice/sluice/WaitStatistics", "<init>", "(JJJJJJ[J)V"⟩ : MethodName) prog_41_method_1_code 14 none :: ws) ({ frames := 1, cells := 1, slots := 7, locals := 15 } : Room)) (fun a U => a = #[(.ref aa), (.long v0), (.long v1), (.long v2), (.long v3), (.long v4), (.long v5), (.ref r)] ∧ Z.Warmed39 U.vm ∧ U.heap = h0) (fun _ _ _ _ _ => True) (fun _ U o U' => ∃ v L, o = .returned v ∧ Q_rm_winit Z aa v0 v1 v2 v3 v4 v5 r k' h0 n0 v U'.heap L ∧ FrameEnd U o U' L ({ frames := 1, cells := 1, slots := 7, locals := 15 } : Room).cells ({ frames := 1, cells := 1, slots := 7, locals := 15 } : Room).slots) := by
  refine MetFree.of_bodySF (plainFor_of_name pn_3) hisR ?_
  intro p e s m args below meth c s₁ Bd hml0 hP hK
  obtain ⟨rfl, hZ, hh⟩ := hP
  have hx := Bd.exec
  have hby := Bd.bytes
  have hml : c.maxLocals = 14 := hml0
  have hown : s.vm.findClass "com/example/sluice/sluice/WaitStatistics" = some m.cls := findClass_of_methodNamed Bd.named
  have hnm := (name_of_methodNamed Bd.named Bd.method).1
  have X0 : Stand p l e ({ frames := 1, cells := 1, slots := 7, locals := 15 } : Room) s m #[(.ref aa), (.long v0), (.long v1), (.long v2), (.long v3), (.long v4), (.long v5), (.ref r)] below meth c s₁ [] 0 0 := Stand.of_body Bd
  have e0 : s₁.heap = h0 := by rw [← hh, Bd.state]; rfl
  have N0 := Fr.nil n0
  have K0 : Keep h0 h0 [aa] := Keep.refl _ _
  have pre0 : ∀ t, Steps p.tables e below (s₁.setTop (mkF m 0 #[.val (.ref aa), .val (.long v0), .second, .val (.long v1), .second, .val (.long v2), .second, .val (.long v3), .second, .val (.long v4), .second, .val (.long v5), .second, .val (.ref r)] [])) t → Steps p.tables e below (s₁.setTop (entryFrame m #[(.ref aa), (.long v0), (.long v1), (.long v2), (.long v3), (.long v4), (.long v5), (.ref r)] 14)) t := fun t k => castTop (ef_rm_winit m aa v0 v1 v2 v3 v4 v5 r) k
  obtain ⟨T1, X1, e1, st1⟩ := initO X0 hx hZ hown (own_w hw 103 rfl) (own_w hw 12 rfl) (own_w hw 13 rfl) e0 (g := (mkF m 1 #[.val (.ref aa), .val (.long v0), .second, .val (.long v1), .second, .val (.long v2), .second, .val (.long v3), .second, .val (.long v4), .second, .val (.long v5), .second, .val (.ref r)] [(.ref aa)])) rfl (by rw [hml]; rfl) rfl (hb hby d9_1) (by decide) (W := 0) (by show 2 * 0 + _ ≤ _; exact Nat.le_of_eq rfl) (by decide)
  obtain ⟨T2, h2, X2, e2, W2, st2⟩ := putF X1 hx hZ hown (host := "") (Or.inl (own_w hw 104 rfl)) Via.refl e1 F_aa_fromMillis E_a (Or.inr ⟨(own_w hw 105 rfl), rfl, hnm⟩) (own_w hw 93 rfl) (ty := .long) (by decide) rfl rfl (g := (mkF m 6 #[.val (.ref aa), .val (.long v0), .second, .val (.long v1), .second, .val (.long v2), .second, .val (.long v3), .second, .val (.long v4), .second, .val (.long v5), .second, .val (.ref r)] [(.long v0), (.ref aa)])) rfl rfl (hb hby d9_6)
  have O3 := O0.wr W2 g_a
  have K4 : Keep h0 h2 [aa] := K0.wr W2 (Or.inl (List.mem_of_getElem? (i := 0) rfl))
  have N5 := Fr.snoc X2 N0 g_a
  have F2 : Fld Z h2 aa "com/example/sluice/sluice/WaitStatistics" "fromMillis" "J" (.long v0) := Fld.same W2 F_aa_fromMillis
  have f6 := (Fld.other W2 F_aa_startedAfterWaiting (Or.inr (slot_ne (Or.inr (own_w hw 107 rfl)) (Or.inr (own_w hw 105 rfl)) (by decide) (t := .long) (t' := .long) (by decide) (by decide))))
  have f7 := (Exa.wr W2 E_a)
  obtain ⟨T8, h8, X8, e8, W8, st8⟩ := putF X2 hx hZ hown (host := "") (Or.inl (own_w hw 106 rfl)) Via.refl e2 f6 f7 (Or.inr ⟨(own_w hw 107 rfl), rfl, hnm⟩) (own_w hw 93 rfl) (ty := .long) (by decide) rfl rfl (g := (mkF m 11 #[.val (.ref aa), .val (.long v0), .second, .val (.long v1), .second, .val (.long v2), .second, .val (.long v3), .second, .val (.long v4), .second, .val (.long v5), .second, .val (.ref r)] [(.long v1), (.ref aa)])) rfl rfl (hb hby d9_11)
  have O9 := O3.wr W8 g_a
  have K10 : Keep h0 h8 [aa] := K4.wr W8 (Or.inl (List.mem_of_getElem? (i := 0) rfl))
  have N11 := Fr.snoc X8 N5 g_a
  have F8 : Fld Z h8 aa "com/example/sluice/sluice/WaitStatistics" "startedAfterWaiting" "J" (.long v1) := Fld.same W8 f6
  have f12 := (Fld.other W8 (Fld.other W2 F_aa_totalWaitMillis (Or.inr (slot_ne (Or.inr (own_w hw 109 rfl)) (Or.inr (own_w hw 105 rfl)) (by decide) (t := .long) (t' := .long) (by decide) (by decide)))) (Or.inr (slot_ne (Or.inr (own_w hw 109 rfl)) (Or.inr (own_w hw 107 rfl)) (by decide) (t := .long) (t' := .long) (by decide) (by decide))))
  have f13 := (Exa.wr W8 f7)
  obtain ⟨T14, h14, X14, e14, W14, st14⟩ := putF X8 hx hZ hown (host := "") (Or.inl (own_w hw 108 rfl)) Via.refl e8 f12 f13 (Or.inr ⟨(own_w hw 109 rfl), rfl, hnm⟩) (own_w hw 93 rfl) (ty := .long) (by decide) rfl rfl (g := (mkF m 17 #[.val (.ref aa), .val (.long v0), .second, .val (.long v1), .second, .val (.long v2), .second, .val (.long v3), .second, .val (.long v4), .second, .val (.long v5), .second, .val (.ref r)] [(.long v2), (.ref aa)])) rfl rfl (hb hby d9_17)
  have O15 := O9.wr W14 g_a
  have K16 : Keep h0 h14 [aa] := K10.wr W14 (Or.inl (List.mem_of_getElem? (i := 0) rfl))
  have N17 := Fr.snoc X14 N11 g_a
  have F14 : Fld Z h14 aa "com/example/sluice/sluice/WaitStatistics" "totalWaitMillis" "J" (.long v2) := Fld.same W14 f12
  have f18 := (Fld.other W14 (Fld.other W8 (Fld.other W2 F_aa_minimumWaitMillis (Or.inr (slot_ne (Or.inr (own_w hw 111 rfl)) (Or.inr (own_w hw 105 rfl)) (by decide) (t := .long) (t' := .long) (by decide) (by decide)))) (Or.inr (slot_ne (Or.inr (own_w hw 111 rfl)) (Or.inr (own_w hw 107 rfl)) (by decide) (t := .long) (t' := .long) (by decide) (by decide)))) (Or.inr (slot_ne (Or.inr (own_w hw 111 rfl)) (Or.inr (own_w hw 109 rfl)) (by decide) (t := .long) (t' := .long) (by decide) (by decide))))
  have f19 := (Exa.wr W14 f13)
  obtain ⟨T20, h20, X20, e20, W20, st20⟩ := putF X14 hx hZ hown (host := "") (Or.inl (own_w hw 110 rfl)) Via.refl e14 f18 f19 (Or.inr ⟨(own_w hw 111 rfl), rfl, hnm⟩) (own_w hw 93 rfl) (ty := .long) (by decide) rfl rfl (g := (mkF m 23 #[.val (.ref aa), .val (.long v0), .second, .val (.long v1), .second, .val (.long v2), .second, .val (.long v3), .second, .val (.long v4), .second, .val (.long v5), .second, .val (.ref r)] [(.long v3), (.ref aa)])) rfl rfl (hb hby d9_23)
  have O21 := O15.wr W20 g_a
  have K22 : Keep h0 h20 [aa] := K16.wr W20 (Or.inl (List.mem_of_getElem? (i := 0) rfl))
  have N23 := Fr.snoc X20 N17 g_a
  have F20 : Fld Z h20 aa "com/example/sluice/sluice/WaitStatistics" "minimumWaitMillis" "J" (.long v3) := Fld.same W20 f18
  have f24 := (Fld.other W20 (Fld.other W14 (Fld.other W8 (Fld.other W2 F_aa_maximumWaitMillis (Or.inr (slot_ne (Or.inr (own_w hw 113 rfl)) (Or.inr (own_w hw 105 rfl)) (by decide) (t := .long) (t' := .long) (by decide) (by decide)))) (Or.inr (slot_ne (Or.inr (own_w hw 113 rfl)) (Or.inr (own_w hw 107 rfl)) (by decide) (t := .long) (t' := .long) (by decide) (by decide)))) (Or.inr (slot_ne (Or.inr (own_w hw 113 rfl)) (Or.inr (own_w hw 109 rfl)) (by decide) (t := .long) (t' := .long) (by decide) (by decide)))) (Or.inr (slot_ne (Or.inr (own_w hw 113 rfl)) (Or.inr (own_w hw 111 rfl)) (by decide) (t := .long) (t' := .long) (by decide) (by decide))))
  have f25 := (Exa.wr W20 f19)
  obtain ⟨T26, h26, X26, e26, W26, st26⟩ := putF X20 hx hZ hown (host := "") (Or.inl (own_w hw 112 rfl)) Via.refl e20 f24 f25 (Or.inr ⟨(own_w hw 113 rfl), rfl, hnm⟩) (own_w hw 93 rfl) (ty := .long) (by decide) rfl rfl (g := (mkF m 29 #[.val (.ref aa), .val (.long v0), .second, .val (.long v1), .second, .val (.long v2), .second, .val (.long v3), .second, .val (.long v4), .second, .val (.long v5), .second, .val (.ref r)] [(.long v4), (.ref aa)])) rfl rfl (hb hby d9_29)
  have O27 := O21.wr W26 g_a
  have K28 : Keep h0 h26 [aa] := K22.wr W26 (Or.inl (List.mem_of_getElem? (i := 0) rfl))
  have N29 := Fr.snoc X26 N23 g_a
  have F26 : Fld Z h26 aa "com/example/sluice/sluice/WaitStatistics" "maximumWaitMillis" "J" (.long v4) := Fld.same W26 f24
  have f30 := (Fld.other W26 (Fld.other W20 (Fld.other W14 (Fld.other W8 (Fld.other W2 F_aa_startedAtOnce (Or.inr (slot_ne (Or.inr (own_w hw 115 rfl)) (Or.inr (own_w hw 105 rfl)) (by decide) (t := .long) (t' := .long) (by decide) (by decide)))) (Or.inr (slot_ne (Or.inr (own_w hw 115 rfl)) (Or.inr (own_w hw 107 rfl)) (by decide) (t := .long) (t' := .long) (by decide) (by decide)))) (Or.inr (slot_ne (Or.inr (own_w hw 115 rfl)) (Or.inr (own_w hw 109 rfl)) (by decide) (t := .long) (t' := .long) (by decide) (by decide)))) (Or.inr (slot_ne (Or.inr (own_w hw 115 rfl)) (Or.inr (own_w hw 111 rfl)) (by decide) (t := .long) (t' := .long) (by decide) (by decide)))) (Or.inr (slot_ne (Or.inr (own_w hw 115 rfl)) (Or.inr (own_w hw 113 rfl)) (by decide) (t := .long) (t' := .long) (by decide) (by decide))))
  have f31 := (Exa.wr W26 f25)
  obtain ⟨T32, h32, X32, e32, W32, st32⟩ := putF X26 hx hZ hown (host := "") (Or.inl (own_w hw 114 rfl)) Via.refl e26 f30 f31 (Or.inr ⟨(own_w hw 115 rfl), rfl, hnm⟩) (own_w hw 93 rfl) (ty := .long) (by decide) rfl rfl (g := (mkF m 35 #[.val (.ref aa), .val (.long v0), .second, .val (.long v1), .second, .val (.long v2), .second, .val (.long v3), .second, .val (.long v4), .second, .val (.long v5), .second, .val (.ref r)] [(.long v5), (.ref aa)])) rfl rfl (hb hby d9_35)
  have O33 := O27.wr W32 g_a
  have K34 : Keep h0 h32 [aa] := K28.wr W32 (Or.inl (List.mem_of_getElem? (i := 0) rfl))
  have N35 := Fr.snoc X32 N29 g_a
  have F32 : Fld Z h32 aa "com/example/sluice/sluice/WaitStatistics" "startedAtOnce" "J" (.long v5) := Fld.same W32 f30
  have f37 := (Arv.other (Arv.other (Arv.other (Arv.other (Arv.other (Arv.other A_r W2 n_ra) W8 n_ra) W14 n_ra) W20 n_ra) W26 n_ra) W32 n_ra)
  have f38 := (Exa.wr W32 (Exa.wr W26 (Exa.wr W20 (Exa.wr W14 (Exa.wr W8 (Exa.wr W2 E_r))))))
  obtain ⟨T36, h36, X36, e36, E36, A36, B36, st36⟩ := cloneH X32 hx hZ hown (own_w hw 116 rfl) (own_w hw 117 rfl) (own_w hw 45 rfl) (own_w hw 43 rfl) (own_w hw 118 rfl) (own_w hw 119 rfl) e32 (Arv.arh f37) f38 (g := (mkF m 41 #[.val (.ref aa), .val (.long v0), .second, .val (.long v1), .second, .val (.long v2), .second, .val (.long v3), .second, .val (.long v4), .second, .val (.long v5), .second, .val (.ref r)] [(.ref r), (.ref aa)])) rfl (by rw [hml]; rfl) rfl (hb hby d9_41) (by decide) (W := 1) (cap := 7) (by show 2 * 0 + _ ≤ _; exact Nat.le_of_eq rfl) (by decide) (by decide) (by decide) (by decide)
  obtain ⟨b36, g36⟩ : ∃ z, z = h32.size := ⟨_, rfl⟩
  have ge_b36 : n0 ≤ b36 := by rw [g36, ← O33.1]; exact O33.2.1
  have sz_b36 : h0.size ≤ b36 := by rw [g36]; exact K34.1
  have f39 := (Exa.wr W32 f31)
  have ne40 : aa ≠ b36 := Nat.ne_of_lt (Nat.lt_of_lt_of_le (Exa.lt f39) (Nat.le_of_eq g36.symm))
  have ne41 : r ≠ b36 := Nat.ne_of_lt (Nat.lt_of_lt_of_le (Exa.lt f38) (Nat.le_of_eq g36.symm))
  rw [← g36] at A36 B36 st36
  have O42 := O33.ext E36
  have K43 : Keep h0 h36 [aa] := K34.ext E36
  have F36 : Arv Z h36 b36 k' .long (7 : Int32) [(.long (0 : Int64)), (.long (0 : Int64)), (.long (0 : Int64)), (.long (0 : Int64)), (.long (0 : Int64)), (.long (0 : Int64)), (.long (0 : Int64))] (.long (0 : Int64)) := A36
  obtain ⟨T44, X44, e44, st44⟩ := castY X36 hx hZ hown (own_w hw 120 rfl) e36 (Ins.self B36) (g := (mkF m 44 #[.val (.ref aa), .val (.long v0), .second, .val (.long v1), .second, .val (.long v2), .second, .val (.long v3), .second, .val (.long v4), .second, .val (.long v5), .second, .val (.ref r)] [(.ref b36), (.ref aa)])) rfl rfl (hb hby d9_44)
  have f45 := (Fld.ext E36 (Fld.other W32 (Fld.other W26 (Fld.other W20 (Fld.other W14 (Fld.other W8 (Fld.other W2 F_aa_refused (Or.inr (slot_ne (Or.inr (own_w hw 123 rfl)) (Or.inr (own_w hw 105 rfl)) (by decide) (t := (.array .long)) (t' := .long) (by decide) (by decide)))) (Or.inr (slot_ne (Or.inr (own_w hw 123 rfl)) (Or.inr (own_w hw 107 rfl)) (by decide) (t := (.array .long)) (t' := .long) (by decide) (by decide)))) (Or.inr (slot_ne (Or.inr (own_w hw 123 rfl)) (Or.inr (own_w hw 109 rfl)) (by decide) (t := (.array .long)) (t' := .long) (by decide) (by decide)))) (Or.inr (slot_ne (Or.inr (own_w hw 123 rfl)) (Or.inr (own_w hw 111 rfl)) (by decide) (t := (.array .long)) (t' := .long) (by decide) (by decide)))) (Or.inr (slot_ne (Or.inr (own_w hw 123 rfl)) (Or.inr (own_w hw 113 rfl)) (by decide) (t := (.array .long)) (t' := .long) (by decide) (by decide)))) (Or.inr (slot_ne (Or.inr (own_w hw 123 rfl)) (Or.inr (own_w hw 115 rfl)) (by decide) (t := (.array .long)) (t' := .long) (by decide) (by decide)))))
  have f46 := (Exa.ext E36 f39)
  obtain ⟨T47, h47, X47, e47, W47, st47⟩ := putF X44 hx hZ hown (host := "") (Or.inl (own_w hw 122 rfl)) Via.refl e44 f45 f46 (Or.inr ⟨(own_w hw 123 rfl), rfl, hnm⟩) (own_w hw 93 rfl) (ty := (.array .long)) (by decide) rfl rfl (g := (mkF m 47 #[.val (.ref aa), .val (.long v0), .second, .val (.long v1), .second, .val (.long v2), .second, .val (.long v3), .second, .val (.long v4), .second, .val (.long v5), .second, .val (.ref r)] [(.ref b36), (.ref aa)])) rfl rfl (hb hby d9_47)
  have O48 := O42.wr W47 g_a
  have K49 : Keep h0 h47 [aa] := K43.wr W47 (Or.inl (List.mem_of_getElem? (i := 0) rfl))
  have N50 := Fr.snoc X47 N35 g_a
  have F47 : Fld Z h47 aa "com/example/sluice/sluice/WaitStatistics" "refused" "[J" (.ref b36) := Fld.same W47 f45
  have S51 : ∀ t, Steps p.tables e below (T47.setTop (mkF m 50 #[.val (.ref aa), .val (.long v0), .second, .val (.long v1), .second, .val (.long v2), .second, .val (.long v3), .second, .val (.long v4), .second, .val (.long v5), .second, .val (.ref r)] [])) t → Steps p.tables e below (s₁.setTop (mkF m 0 #[.val (.ref aa), .val (.long v0), .second, .val (.long v1), .second, .val (.long v2), .second, .val (.long v3), .second, .val (.long v4), .second, .val (.long v5), .second, .val (.ref r)] [])) t := by
    intro t kt
    refine XS.aloadN X0.here hx rfl (hb hby d9_0) rfl rfl ?_
    show Steps p.tables e below (s₁.setTop (mkF m 1 #[.val (.ref aa), .val (.long v0), .second, .val (.long v1), .second, .val (.long v2), .second, .val (.long v3), .second, .val (.long v4), .second, .val (.long v5), .second, .val (.ref r)] [(.ref aa)])) _
    refine st1 _ ?_
    refine XS.aloadN X1.here hx rfl (hb hby d9_4) rfl rfl ?_
    refine XS.lloadN X1.here hx rfl (hb hby d9_5) rfl ?_
    show Steps p.tables e below (T1.setTop (mkF m 6 #[.val (.ref aa), .val (.long v0), .second, .val (.long v1), .second, .val (.long v2), .second, .val (.long v3), .second, .val (.long v4), .second, .val (.long v5), .second, .val (.ref r)] [(.long v0), (.ref aa)])) _
    refine st2 _ ?_
    refine XS.aloadN X2.here hx rfl (hb hby d9_9) rfl rfl ?_
    refine XS.lloadN X2.here hx rfl (hb hby d9_10) rfl ?_
    show Steps p.tables e below (T2.setTop (mkF m 11 #[.val (.ref aa), .val (.long v0), .second, .val (.long v1), .second, .val (.long v2), .second, .val (.long v3), .second, .val (.long v4), .second, .val (.long v5), .second, .val (.ref r)] [(.long v1), (.ref aa)])) _
    refine st8 _ ?_
    refine XS.aloadN X8.here hx rfl (hb hby d9_14) rfl rfl ?_
    refine XS.lload X8.here hx rfl (hb hby d9_15) rfl ?_
    show Steps p.tables e below (T8.setTop (mkF m 17 #[.val (.ref aa), .val (.long v0), .second, .val (.long v1), .second, .val (.long v2), .second, .val (.long v3), .second, .val (.long v4), .second, .val (.long v5), .second, .val (.ref r)] [(.long v2), (.ref aa)])) _
    refine st14 _ ?_
    refine XS.aloadN X14.here hx rfl (hb hby d9_20) rfl rfl ?_
    refine XS.lload X14.here hx rfl (hb hby d9_21) rfl ?_
    show Steps p.tables e below (T14.setTop (mkF m 23 #[.val (.ref aa), .val (.long v0), .second, .val (.long v1), .second, .val (.long v2), .second, .val (.long v3), .second, .val (.long v4), .second, .val (.long v5), .second, .val (.ref r)] [(.long v3), (.ref aa)])) _
    refine st20 _ ?_
    refine XS.aloadN X20.here hx rfl (hb hby d9_26) rfl rfl ?_
    refine XS.lload X20.here hx rfl (hb hby d9_27) rfl ?_
    show Steps p.tables e below (T20.setTop (mkF m 29 #[.val (.ref aa), .val (.long v0), .second, .val (.long v1), .second, .val (.long v2), .second, .val (.long v3), .second, .val (.long v4), .second, .val (.long v5), .second, .val (.ref r)] [(.long v4), (.ref aa)])) _
    refine st26 _ ?_
    refine XS.aloadN X26.here hx rfl (hb hby d9_32) rfl rfl ?_
    refine XS.lload X26.here hx rfl (hb hby d9_33) rfl ?_
    show Steps p.tables e below (T26.setTop (mkF m 35 #[.val (.ref aa), .val (.long v0), .second, .val (.long v1), .second, .val (.long v2), .second, .val (.long v3), .second, .val (.long v4), .second, .val (.long v5), .second, .val (.ref r)] [(.long v5), (.ref aa)])) _
    refine st32 _ ?_
    refine XS.aloadN X32.here hx rfl (hb hby d9_38) rfl rfl ?_
    refine XS.aload X32.here hx rfl (hb hby d9_39) rfl rfl ?_
    show Steps p.tables e below (T32.setTop (mkF m 41 #[.val (.ref aa), .val (.long v0), .second, .val (.long v1), .second, .val (.long v2), .second, .val (.long v3), .second, .val (.long v4), .second, .val (.long v5), .second, .val (.ref r)] [(.ref r), (.ref aa)])) _
    refine st36 _ ?_
    show Steps p.tables e below (T36.setTop (mkF m 44 #[.val (.ref aa), .val (.long v0), .second, .val (.long v1), .second, .val (.long v2), .second, .val (.long v3), .second, .val (.long v4), .second, .val (.long v5), .second, .val (.ref r)] [(.ref b36), (.ref aa)])) _
    refine st44 _ ?_
    show Steps p.tables e below (T44.setTop (mkF m 47 #[.val (.ref aa), .val (.long v0), .second, .val (.long v1), .second, .val (.long v2), .second, .val (.long v3), .second, .val (.long v4), .second, .val (.long v5), .second, .val (.ref r)] [(.ref b36), (.ref aa)])) _
    refine st47 _ ?_
    exact kt
  obtain ⟨fs, hr, hrun, hended, hW, hsame⟩ := X47.leave (v := none) (fun _ => rfl)
  have f52 := (Exa.wr W47 f46)
  have f53 := (Fld.other W47 (Fld.ext E36 F32) (Or.inr (slot_ne (Or.inr (own_w hw 115 rfl)) (Or.inr (own_w hw 123 rfl)) (by decide) (t := .long) (t' := (.array .long)) (by decide) (by decide))))
  refine ⟨_, _, pre0 _ (S51 _ ?_), hrun, hended, _, _, rfl, ?_, ⟨_, rfl⟩, hW, hsame.mono (by decide) (by decide)⟩
  · exact X47.returnOut hx Bd.returns (hb hby d9_50) hr
  · show Q_rm_winit Z aa v0 v1 v2 v3 v4 v5 r k' h0 n0 _ T47.heap _
    rw [e47]
    exact ⟨rfl, N50, K49, f52, f53⟩
theorem d10_0 : decode prog_39_method_3_code 0 = .ok (.new 50, 3) := by decide +kernel
theorem d10_3 : decode prog_39_method_3_code 3 = .ok (.dup, 1) := by decide +kernel
theorem d10_4 : decode prog_39_method_3_code 4 = .ok (.aload_n 0, 1) := by decide +kernel
theorem d10_5 : decode prog_39_method_3_code 5 = .ok (.getfield 32, 3) := by decide +kernel
theorem d10_8 : decode prog_39_method_3_code 8 = .ok (.aload_n 0, 1) := by decide +kernel
theorem d10_9 : decode prog_39_method_3_code 9 = .ok (.getfield 35, 3) := by decide +kernel
theorem d10_12 : decode prog_39_method_3_code 12 = .ok (.aload_n 0, 1) := by decide +kernel
theorem d10_13 : decode prog_39_method_3_code 13 = .ok (.getfield 38, 3) := by decide +kernel
theorem d10_16 : decode prog_39_method_3_code 16 = .ok (.aload_n 0, 1) := by decide +kernel
theorem d10_17 : decode prog_39_method_3_code 17 = .ok (.getfield 11, 3) := by decide +kernel
theorem d10_20 : decode prog_39_method_3_code 20 = .ok (.aload_n 0, 1) := by decide +kernel
theorem d10_21 : decode prog_39_method_3_code 21 = .ok (.getfield 19, 3) := by decide +kernel
theorem d10_24 : decode prog_39_method_3_code 24 = .ok (.aload_n 0, 1) := by decide +kernel
theorem d10_25 : decode prog_39_method_3_code 25 = .ok (.getfield 52, 3) := by decide +kernel
theorem d10_28 : decode prog_39_method_3_code 28 = .ok (.aload_n 0, 1) := by decide +kernel
theorem d10_29 : decode prog_39_method_3_code 29 = .ok (.getfield 28, 3) := by decide +kernel
theorem d10_32 : decode prog_39_method_3_code 32 = .ok (.invokespecial 55, 3) := by decide +kernel
theorem pd_4 : parseMethodDescriptor "(JJJJJJ[J)V" = some ⟨[.long, .long, .long, .long, .long, .long, (.array .long)], none⟩ := by decide +kernel
theorem d10_35 : decode prog_39_method_3_code 35 = .ok (.areturn, 1) := by decide +kernel
theorem ef_rm_snap (m : MethodId) (x0 : Addr) : entryFrame m #[(.ref x0)] 1 = mkF m 0 #[.val (.ref x0)] [] := by first | (simp [entryFrame, mkF, argsToLocals, Value.category]; done) | rfl
def Q_rm_snap (Z : State) (t' : Addr) (fm : Int64) (ct : Int64) (r : Addr) (k' : ClassId) (h0 : Heap) (n0 : Nat) (v : Option Value) (h : Heap) (L : List Loc) : Prop := (∃ (u : Addr), (v = some (.ref u)) ∧ (Fr n0 L) ∧ (Keep h0 h []) ∧ (h0.size ≤ u) ∧ (Exa Z h u "com/example/sluice/sluice/WaitStatistics") ∧ (Fld Z h u "com/example/sluice/sluice/WaitStatistics" "startedAtOnce" "J" (.long ct)))
set_option maxRecDepth 65536 in
set_option maxHeartbeats 40000000 in
theorem rm_snap (l : Launch) (Z : State) (a0 : Array Value) (hw : ∀ d ∈ tables_1, d.before a0 Z = true) (ws : List Jvm.Cond) (t' : Addr) (fm : Int64) (ct : Int64) (r : Addr) (k' : ClassId) (h0 : Heap) (n0 : Nat) (O0 : Old Z n0 h0) (p0 : Exa Z h0 t' "com/example/sluice/sluice/WaitRecorder$Tally") (p1 : Fld Z h0 t' "com/example/sluice/sluice/WaitRecorder$Tally" "fromMillis" "J" (.long fm)) (p2 : Fld Z h0 t' "com/example/sluice/sluice/WaitRecorder$Tally" "startedAfterWaiting" "J" (.long (0 : Int64))) (p3 : Fld Z h0 t' "com/example/sluice/sluice/WaitRecorder$Tally" "totalWaitMillis" "J" (.long (0 : Int64))) (p4 : Fld Z h0 t' "com/example/sluice/sluice/WaitRecorder$Tally" "minimumWaitMillis" "J" (.long (9223372036854775807 : Int64))) (p5 : Fld Z h0 t' "com/example/sluice/sluice/WaitRecorder$Tally" "maximumWaitMillis" "J" (.long (-9223372036854775808 : Int64))) (p6 : Fld Z h0 t' "com/example/sluice/sluice/WaitRecorder$Tally" "startedAtOnce" "J" (.long ct)) (p7 : Fld Z h0 t' "com/example/sluice/sluice/WaitRecorder$Tally" "refused" "[J" (.ref r)) (p8 : Exa Z h0 r "[J") (p9 : Arv Z h0 r k' .long (7 : Int32) [(.long (0 : Int64)), (.long (0 : Int64)), (.long (0 : Int64)), (.long (0 : Int64)), (.long (0 : Int64)), (.long (0 : Int64)), (.long (0 : Int64))] (.long (0 : Int64))) :
    MetFree l (⟨"com/example/sluice/sluice/WaitRecorder$Tally", "snapshot", "()Lcom/example/sluice/sluice/WaitStatistics;"⟩ : MethodName) (head1 (Jvm.Cond.code (⟨"com/example/sluice/sluice/WaitRecorder$Tally", "snapshot", "()Lcom/example/sluice/sluice/WaitStatistics;"⟩ : MethodName) prog_39_method_3_code 1 (some (.object "com/example/sluice/sluice/WaitStatistics")) :: ws) ({ frames := 2, cells := 2, slots := 14, locals := 41 } : Room)) (fun a U => a = #[(.ref t')] ∧ Z.Warmed39 U.vm ∧ U.heap = h0) (fun _ _ _ _ _ => True) (fun _ U o U' => ∃ v L, o = .returned v ∧ Q_rm_snap Z t' fm ct r k' h0 n0 v U'.heap L ∧ FrameEnd U o U' L ({ frames := 2, cells := 2, slots := 14, locals := 41 } : Room).cells ({ frames := 2, cells := 2, slots := 14, locals := 41 } : Room).slots) := by
  refine MetFree.of_bodySF (plainFor_of_name pn_1) hisR ?_
  intro p e s m args below meth c s₁ Bd hml0 hP hK
  obtain ⟨rfl, hZ, hh⟩ := hP
  have hx := Bd.exec
  have hby := Bd.bytes
  have hml : c.maxLocals = 1 := hml0
  have hown : s.vm.findClass "com/example/sluice/sluice/WaitRecorder$Tally" = some m.cls := findClass_of_methodNamed Bd.named
  have hnm := (name_of_methodNamed Bd.named Bd.method).1
  have X0 : Stand p l e ({ frames := 2, cells := 2, slots := 14, locals := 41 } : Room) s m #[(.ref t')] below meth c s₁ [] 0 0 := Stand.of_body Bd
  have e0 : s₁.heap = h0 := by rw [← hh, Bd.state]; rfl
  have N0 := Fr.nil n0
  have K0 : Keep h0 h0 [] := Keep.refl _ _
  have pre0 : ∀ t, Steps p.tables e below (s₁.setTop (mkF m 0 #[.val (.ref t')] [])) t → Steps p.tables e below (s₁.setTop (entryFrame m #[(.ref t')] 1)) t := fun t k => castTop (ef_rm_snap m t') k
  obtain ⟨T1, h1, X1, e1, E1, A1, D1, -, st1⟩ := newO X0 hx hZ hown (own_w hw 92 rfl) (own_w hw 93 rfl) (own_w hw 94 rfl) e0 (g := (mkF m 0 #[.val (.ref t')] [])) rfl (hb hby d10_0) (by decide) (by decide)
  obtain ⟨b1, g1⟩ : ∃ z, z = h0.size := ⟨_, rfl⟩
  have ge_b1 : n0 ≤ b1 := by rw [g1, ← O0.1]; exact O0.2.1
  have sz_b1 : h0.size ≤ b1 := by rw [g1]; exact K0.1
  have ne2 : t' ≠ b1 := Nat.ne_of_lt (Nat.lt_of_lt_of_le (Exa.lt p0) (Nat.le_of_eq g1.symm))
  have ne3 : r ≠ b1 := Nat.ne_of_lt (Nat.lt_of_lt_of_le (Exa.lt p8) (Nat.le_of_eq g1.symm))
  rw [← g1] at A1 D1 st1
  have O4 := O0.ext E1
  have K5 : Keep h0 h1 [] := K0.ext E1
  have F6 : Fld Z h1 b1 "com/example/sluice/sluice/WaitStatistics" "fromMillis" "J" (.long (0 : Int64)) := D1 (Or.inr (own_w hw 105 rfl)) (ty := .long) (by decide)
  have F7 : Fld Z h1 b1 "com/example/sluice/sluice/WaitStatistics" "startedAfterWaiting" "J" (.long (0 : Int64)) := D1 (Or.inr (own_w hw 107 rfl)) (ty := .long) (by decide)
  have F8 : Fld Z h1 b1 "com/example/sluice/sluice/WaitStatistics" "totalWaitMillis" "J" (.long (0 : Int64)) := D1 (Or.inr (own_w hw 109 rfl)) (ty := .long) (by decide)
  have F9 : Fld Z h1 b1 "com/example/sluice/sluice/WaitStatistics" "minimumWaitMillis" "J" (.long (0 : Int64)) := D1 (Or.inr (own_w hw 111 rfl)) (ty := .long) (by decide)
  have F10 : Fld Z h1 b1 "com/example/sluice/sluice/WaitStatistics" "maximumWaitMillis" "J" (.long (0 : Int64)) := D1 (Or.inr (own_w hw 113 rfl)) (ty := .long) (by decide)
  have F11 : Fld Z h1 b1 "com/example/sluice/sluice/WaitStatistics" "startedAtOnce" "J" (.long (0 : Int64)) := D1 (Or.inr (own_w hw 115 rfl)) (ty := .long) (by decide)
  have F12 : Fld Z h1 b1 "com/example/sluice/sluice/WaitStatistics" "refused" "[J" .null := D1 (Or.inr (own_w hw 123 rfl)) (ty := (.array .long)) (by decide)
  have f13 := (Fld.ext E1 p1)
  obtain ⟨T14, X14, e14, st14⟩ := getF X1 hx hZ hown (host := "") (Or.inl (own_w hw 60 rfl)) Via.refl e1 f13 (g := (mkF m 5 #[.val (.ref t')] [(.ref t'), (.ref b1), (.ref b1)])) rfl rfl (hb hby d10_5)
  have f15 := (Fld.ext E1 p2)
  obtain ⟨T16, X16, e16, st16⟩ := getF X14 hx hZ hown (host := "") (Or.inl (own_w hw 95 rfl)) Via.refl e14 f15 (g := (mkF m 9 #[.val (.ref t')] [(.ref t'), (.long fm), (.ref b1), (.ref b1)])) rfl rfl (hb hby d10_9)
  have f17 := (Fld.ext E1 p3)
  obtain ⟨T18, X18, e18, st18⟩ := getF X16 hx hZ hown (host := "") (Or.inl (own_w hw 97 rfl)) Via.refl e16 f17 (g := (mkF m 13 #[.val (.ref t')] [(.ref t'), (.long (0 : Int64)), (.long fm), (.ref b1), (.ref b1)])) rfl rfl (hb hby d10_13)
  have f19 := (Fld.ext E1 p4)
  obtain ⟨T20, X20, e20, st20⟩ := getF X18 hx hZ hown (host := "") (Or.inl (own_w hw 29 rfl)) Via.refl e18 f19 (g := (mkF m 17 #[.val (.ref t')] [(.ref t'), (.long (0 : Int64)), (.long (0 : Int64)), (.long fm), (.ref b1), (.ref b1)])) rfl rfl (hb hby d10_17)
  have f21 := (Fld.ext E1 p5)
  obtain ⟨T22, X22, e22, st22⟩ := getF X20 hx hZ hown (host := "") (Or.inl (own_w hw 32 rfl)) Via.refl e20 f21 (g := (mkF m 21 #[.val (.ref t')] [(.ref t'), (.long (9223372036854775807 : Int64)), (.long (0 : Int64)), (.long (0 : Int64)), (.long fm), (.ref b1), (.ref b1)])) rfl rfl (hb hby d10_21)
  have f23 := (Fld.ext E1 p6)
  obtain ⟨T24, X24, e24, st24⟩ := getF X22 hx hZ hown (host := "") (Or.inl (own_w hw 99 rfl)) Via.refl e22 f23 (g := (mkF m 25 #[.val (.ref t')] [(.ref t'), (.long (-9223372036854775808 : Int64)), (.long (9223372036854775807 : Int64)), (.long (0 : Int64)), (.long (0 : Int64)), (.long fm), (.ref b1), (.ref b1)])) rfl rfl (hb hby d10_25)
  have f25 := (Fld.ext E1 p7)
  obtain ⟨T26, X26, e26, st26⟩ := getF X24 hx hZ hown (host := "") (Or.inl (own_w hw 58 rfl)) Via.refl e24 f25 (g := (mkF m 29 #[.val (.ref t')] [(.ref t'), (.long ct), (.long (-9223372036854775808 : Int64)), (.long (9223372036854775807 : Int64)), (.long (0 : Int64)), (.long (0 : Int64)), (.long fm), (.ref b1), (.ref b1)])) rfl rfl (hb hby d10_29)
  have f28 := (Exa.ext E1 p8)
  have f29 := (Arv.ext p9 E1)
  obtain ⟨_, _, ⟨T27, L27, k27, n27⟩, -, X27, ⟨Lc27, hQ27, l27, y27, z27⟩, st27⟩ := X26.specialBack hx (y := (⟨"com/example/sluice/sluice/WaitStatistics", "<init>", "(JJJJJJ[J)V"⟩ : MethodName)) rfl hown (mvT hZ (own_w hw 100 rfl)) (mvT hZ (own_w hw 101 rfl)) (mvT hZ (own_w hw 102 rfl)) (by decide) (backOf (W := 1) (rm_winit l Z a0 hw [] b1 fm (0 : Int64) (0 : Int64) (9223372036854775807 : Int64) (-9223372036854775808 : Int64) ct r k' h1 n0 O4 A1 ge_b1 f28 f29 ne3 F6 F7 F8 F9 F10 F11 F12) hZ (own_w hw 102 rfl) (own_w hw 94 rfl) (by decide) (by decide)) (g := (mkF m 32 #[.val (.ref t')] [(.ref r), (.long ct), (.long (-9223372036854775808 : Int64)), (.long (9223372036854775807 : Int64)), (.long (0 : Int64)), (.long (0 : Int64)), (.long fm), (.ref b1), (.ref b1)])) rfl (by rw [hml]; rfl) (Steps.refl _) (a := b1) (argsL := [(.long fm), (.long (0 : Int64)), (.long (0 : Int64)), (.long (9223372036854775807 : Int64)), (.long (-9223372036854775808 : Int64)), (.long ct), (.ref r)]) (rest := [(.ref b1)]) (lenOf pd_4 rfl) rfl (by show 2 * 0 + _ ≤ _; exact Nat.le_of_eq rfl) (hb hby d10_32) (fun _ _ => ⟨rfl, e26, (by decide : 1 + 1 ≤ _), (by decide : 7 + 7 ≤ _)⟩)
  dsimp only [Pt.U, Pt.locs, Pt.cells, Pt.slots] at X27 l27 y27 z27 st27 hQ27
  subst l27 y27 z27
  obtain ⟨rfl, N30, k31, f32, f33⟩ := hQ27
  have N34 := Fr.app N0 N30
  have O35 := O4.keep k31 (allS ge_b1 all0)
  have K36 : Keep h0 T27.heap [] := K5.trans k31 (allS (Or.inr sz_b1) all0)
  have S37 : ∀ t, Steps p.tables e below (T27.setTop (mkF m 35 #[.val (.ref t')] [(.ref b1)])) t → Steps p.tables e below (s₁.setTop (mkF m 0 #[.val (.ref t')] [])) t := by
    intro t kt
    refine st1 _ ?_
    refine XS.dup X1.here hx rfl (hb hby d10_3) rfl rfl ?_
    refine XS.aloadN X1.here hx rfl (hb hby d10_4) rfl rfl ?_
    show Steps p.tables e below (T1.setTop (mkF m 5 #[.val (.ref t')] [(.ref t'), (.ref b1), (.ref b1)])) _
    refine st14 _ ?_
    refine XS.aloadN X14.here hx rfl (hb hby d10_8) rfl rfl ?_
    show Steps p.tables e below (T14.setTop (mkF m 9 #[.val (.ref t')] [(.ref t'), (.long fm), (.ref b1), (.ref b1)])) _
    refine st16 _ ?_
    refine XS.aloadN X16.here hx rfl (hb hby d10_12) rfl rfl ?_
    show Steps p.tables e below (T16.setTop (mkF m 13 #[.val (.ref t')] [(.ref t'), (.long (0 : Int64)), (.long fm), (.ref b1), (.ref b1)])) _
    refine st18 _ ?_
    refine XS.aloadN X18.here hx rfl (hb hby d10_16) rfl rfl ?_
    show Steps p.tables e below (T18.setTop (mkF m 17 #[.val (.ref t')] [(.ref t'), (.long (0 : Int64)), (.long (0 : Int64)), (.long fm), (.ref b1), (.ref b1)])) _
    refine st20 _ ?_
    refine XS.aloadN X20.here hx rfl (hb hby d10_20) rfl rfl ?_
    show Steps p.tables e below (T20.setTop (mkF m 21 #[.val (.ref t')] [(.ref t'), (.long (9223372036854775807 : Int64)), (.long (0 : Int64)), (.long (0 : Int64)), (.long fm), (.ref b1), (.ref b1)])) _
    refine st22 _ ?_
    refine XS.aloadN X22.here hx rfl (hb hby d10_24) rfl rfl ?_
    show Steps p.tables e below (T22.setTop (mkF m 25 #[.val (.ref t')] [(.ref t'), (.long (-9223372036854775808 : Int64)), (.long (9223372036854775807 : Int64)), (.long (0 : Int64)), (.long (0 : Int64)), (.long fm), (.ref b1), (.ref b1)])) _
    refine st24 _ ?_
    refine XS.aloadN X24.here hx rfl (hb hby d10_28) rfl rfl ?_
    show Steps p.tables e below (T24.setTop (mkF m 29 #[.val (.ref t')] [(.ref t'), (.long ct), (.long (-9223372036854775808 : Int64)), (.long (9223372036854775807 : Int64)), (.long (0 : Int64)), (.long (0 : Int64)), (.long fm), (.ref b1), (.ref b1)])) _
    refine st26 _ ?_
    show Steps p.tables e below (T26.setTop (mkF m 32 #[.val (.ref t')] [(.ref r), (.long ct), (.long (-9223372036854775808 : Int64)), (.long (9223372036854775807 : Int64)), (.long (0 : Int64)), (.long (0 : Int64)), (.long fm), (.ref b1), (.ref b1)])) _
    refine st27.trans ?_
    exact kt
  obtain ⟨fs, hr, hrun, hended, hW, hsame⟩ := X27.leave (v := some (.ref b1)) (fun h => by rw [Bd.returns] at h; cases h)
  refine ⟨_, _, pre0 _ (S37 _ ?_), hrun, hended, _, _, rfl, ?_, ⟨_, rfl⟩, hW, hsame.mono (by decide) (by decide)⟩
  · exact retOut X27 hx Bd.returns rfl (Or.inr (Or.inr (Or.inr (Or.inr ⟨rfl, rfl, rfl⟩)))) (hb hby d10_35) hr
  · show Q_rm_snap Z t' fm ct r k' h0 n0 _ T27.heap _
    exact ⟨b1, rfl, N34, K36, sz_b1, f32, f33⟩
theorem d11_0 : decode prog_41_method_7_code 0 = .ok (.aload_n 0, 1) := by decide +kernel
theorem d11_1 : decode prog_41_method_7_code 1 = .ok (.getfield 25, 3) := by decide +kernel
theorem d11_4 : decode prog_41_method_7_code 4 = .ok (.lreturn, 1) := by decide +kernel
theorem ef_rm_get (m : MethodId) (x0 : Addr) : entryFrame m #[(.ref x0)] 1 = mkF m 0 #[.val (.ref x0)] [] := by first | (simp [entryFrame, mkF, argsToLocals, Value.category]; done) | rfl
def Q_rm_get (Z : State) (u : Addr) (c' : Int64) (h0 : Heap) (n0 : Nat) (v : Option Value) (h : Heap) (L : List Loc) : Prop := ((v = some (.long c')) ∧ (Fr n0 L) ∧ (h = h0))
set_option maxRecDepth 65536 in
set_option maxHeartbeats 40000000 in
theorem rm_get (l : Launch) (Z : State) (a0 : Array Value) (hw : ∀ d ∈ tables_1, d.before a0 Z = true) (ws : List Jvm.Cond) (u : Addr) (c' : Int64) (h0 : Heap) (n0 : Nat) (O0 : Old Z n0 h0) (F_u : Fld Z h0 u "com/example/sluice/sluice/WaitStatistics" "startedAtOnce" "J" (.long c')) :
    MetFree l (⟨"com/example/sluice/sluice/WaitStatistics", "startedAtOnce", "()J"⟩ : MethodName) (head1 (Jvm.Cond.code (⟨"com/example/sluice/sluice/WaitStatistics", "startedAtOnce", "()J"⟩ : MethodName) prog_41_method_7_code 1 (some .long) :: ws) ({ frames := 0, cells := 0, slots := 0, locals := 0 } : Room)) (fun a U => a = #[(.ref u)] ∧ Z.Warmed39 U.vm ∧ U.heap = h0) (fun _ _ _ _ _ => True) (fun _ U o U' => ∃ v L, o = .returned v ∧ Q_rm_get Z u c' h0 n0 v U'.heap L ∧ FrameEnd U o U' L ({ frames := 0, cells := 0, slots := 0, locals := 0 } : Room).cells ({ frames := 0, cells := 0, slots := 0, locals := 0 } : Room).slots) := by
  refine MetFree.of_bodySF (plainFor_of_name pn_3) hisR ?_
  intro p e s m args below meth c s₁ Bd hml0 hP hK
  obtain ⟨rfl, hZ, hh⟩ := hP
  have hx := Bd.exec
  have hby := Bd.bytes
  have hml : c.maxLocals = 1 := hml0
  have hown : s.vm.findClass "com/example/sluice/sluice/WaitStatistics" = some m.cls := findClass_of_methodNamed Bd.named
  have hnm := (name_of_methodNamed Bd.named Bd.method).1
  have X0 : Stand p l e ({ frames := 0, cells := 0, slots := 0, locals := 0 } : Room) s m #[(.ref u)] below meth c s₁ [] 0 0 := Stand.of_body Bd
  have e0 : s₁.heap = h0 := by rw [← hh, Bd.state]; rfl
  have N0 := Fr.nil n0
  have pre0 : ∀ t, Steps p.tables e below (s₁.setTop (mkF m 0 #[.val (.ref u)] [])) t → Steps p.tables e below (s₁.setTop (entryFrame m #[(.ref u)] 1)) t := fun t k => castTop (ef_rm_get m u) k
  obtain ⟨T1, X1, e1, st1⟩ := getF X0 hx hZ hown (host := "") (Or.inl (own_w hw 114 rfl)) Via.refl e0 F_u (g := (mkF m 1 #[.val (.ref u)] [(.ref u)])) rfl rfl (hb hby d11_1)
  have S2 : ∀ t, Steps p.tables e below (T1.setTop (mkF m 4 #[.val (.ref u)] [(.long c')])) t → Steps p.tables e below (s₁.setTop (mkF m 0 #[.val (.ref u)] [])) t := by
    intro t kt
    refine XS.aloadN X0.here hx rfl (hb hby d11_0) rfl rfl ?_
    show Steps p.tables e below (s₁.setTop (mkF m 1 #[.val (.ref u)] [(.ref u)])) _
    refine st1 _ ?_
    exact kt
  obtain ⟨fs, hr, hrun, hended, hW, hsame⟩ := X1.leave (v := some (.long c')) (fun h => by rw [Bd.returns] at h; cases h)
  refine ⟨_, _, pre0 _ (S2 _ ?_), hrun, hended, _, _, rfl, ?_, ⟨_, rfl⟩, hW, hsame.mono (by decide) (by decide)⟩
  · exact retOut X1 hx Bd.returns rfl (Or.inr (Or.inl ⟨rfl, rfl, _, rfl⟩)) (hb hby d11_4) hr
  · show Q_rm_get Z u c' h0 n0 _ T1.heap _
    rw [e1]
    exact ⟨rfl, N0, rfl⟩
theorem d12_0 : decode prog_38_method_6_code 0 = .ok (.aload_n 0, 1) := by decide +kernel
theorem d12_1 : decode prog_38_method_6_code 1 = .ok (.lload_n 1, 1) := by decide +kernel
theorem d12_2 : decode prog_38_method_6_code 2 = .ok (.invokevirtual 37, 3) := by decide +kernel
theorem d12_5 : decode prog_38_method_6_code 5 = .ok (.invokevirtual 57, 3) := by decide +kernel
theorem pd_5 : parseMethodDescriptor "()Lcom/example/sluice/sluice/WaitStatistics;" = some ⟨[], some (.object "com/example/sluice/sluice/WaitStatistics")⟩ := by decide +kernel
theorem d12_8 : decode prog_38_method_6_code 8 = .ok (.areturn, 1) := by decide +kernel
theorem ef_rm_isnap (m : MethodId) (x0 : Addr) (x1 : Int64) : entryFrame m #[(.ref x0), (.long x1)] 3 = mkF m 0 #[.val (.ref x0), .val (.long x1), .second] [] := by first | (simp [entryFrame, mkF, argsToLocals, Value.category]; done) | rfl
def Q_rm_isnap (Z : State) (aa : Addr) (nw : Int64) (ln : Int64) (ix : Int64) (t' : Addr) (r : Addr) (k' : ClassId) (s' : Addr) (q : Addr) (j : ClassId) (ft_ : Int64) (ct : Int64) (fs_ : Int64) (cs : Int64) (wV : Addr) (kV : ClassId) (vV : List Value) (h0 : Heap) (n0 : Nat) (v : Option Value) (h : Heap) (L : List Loc) : Prop := (∃ (u : Addr), (v = some (.ref u)) ∧ (Fr n0 L) ∧ (Keep h0 h []) ∧ (h0.size ≤ u) ∧ (Exa Z h u "com/example/sluice/sluice/WaitStatistics") ∧ (Fld Z h u "com/example/sluice/sluice/WaitStatistics" "startedAtOnce" "J" (.long ct)))
set_option maxRecDepth 65536 in
set_option maxHeartbeats 40000000 in
theorem rm_isnap (l : Launch) (Z : State) (a0 : Array Value) (hw : ∀ d ∈ tables_1, d.before a0 Z = true) (ws : List Jvm.Cond) (aa : Addr) (nw : Int64) (ln : Int64) (ix : Int64) (t' : Addr) (r : Addr) (k' : ClassId) (s' : Addr) (q : Addr) (j : ClassId) (ft_ : Int64) (ct : Int64) (fs_ : Int64) (cs : Int64) (wV : Addr) (kV : ClassId) (vV : List Value) (h0 : Heap) (n0 : Nat) (O0 : Old Z n0 h0) (p0 : Exa Z h0 aa "com/example/sluice/sluice/WaitRecorder") (p1 : Fld Z h0 aa "com/example/sluice/sluice/WaitRecorder" "intervalMillis" "J" (.long ln)) (p2 : Fld Z h0 aa "com/example/sluice/sluice/WaitRecorder" "intervalIndex" "J" (.long ix)) (p3 : Fld Z h0 aa "com/example/sluice/sluice/WaitRecorder" "interval" "Lcom/example/sluice/sluice/WaitRecorder$Tally;" (.ref t')) (p4 : Fld Z h0 aa "com/example/sluice/sluice/WaitRecorder" "sinceReset" "Lcom/example/sluice/sluice/WaitRecorder$Tally;" (.ref s')) (p5 : Exa Z h0 t' "com/example/sluice/sluice/WaitRecorder$Tally") (p6 : Fld Z h0 t' "com/example/sluice/sluice/WaitRecorder$Tally" "fromMillis" "J" (.long ft_)) (p7 : Fld Z h0 t' "com/example/sluice/sluice/WaitRecorder$Tally" "startedAfterWaiting" "J" (.long (0 : Int64))) (p8 : Fld Z h0 t' "com/example/sluice/sluice/WaitRecorder$Tally" "totalWaitMillis" "J" (.long (0 : Int64))) (p9 : Fld Z h0 t' "com/example/sluice/sluice/WaitRecorder$Tally" "minimumWaitMillis" "J" (.long (9223372036854775807 : Int64))) (p10 : Fld Z h0 t' "com/example/sluice/sluice/WaitRecorder$Tally" "maximumWaitMillis" "J" (.long (-9223372036854775808 : Int64))) (p11 : Fld Z h0 t' "com/example/sluice/sluice/WaitRecorder$Tally" "startedAtOnce" "J" (.long ct)) (p12 : Fld Z h0 t' "com/example/sluice/sluice/WaitRecorder$Tally" "refused" "[J" (.ref r)) (p13 : Exa Z h0 r "[J") (p14 : Arv Z h0 r k' .long (7 : Int32) [(.long (0 : Int64)), (.long (0 : Int64)), (.long (0 : Int64)), (.long (0 : Int64)), (.long (0 : Int64)), (.long (0 : Int64)), (.long (0 : Int64))] (.long (0 : Int64))) (p15 : Exa Z h0 s' "com/example/sluice/sluice/WaitRecorder$Tally") (p16 : Fld Z h0 s' "com/example/sluice/sluice/WaitRecorder$Tally" "fromMillis" "J" (.long fs_)) (p17 : Fld Z h0 s' "com/example/sluice/sluice/WaitRecorder$Tally" "startedAfterWaiting" "J" (.long (0 : Int64))) (p18 : Fld Z h0 s' "com/example/sluice/sluice/WaitRecorder$Tally" "totalWaitMillis" "J" (.long (0 : Int64))) (p19 : Fld Z h0 s' "com/example/sluice/sluice/WaitRecorder$Tally" "minimumWaitMillis" "J" (.long (9223372036854775807 : Int64))) (p20 : Fld Z h0 s' "com/example/sluice/sluice/WaitRecorder$Tally" "maximumWaitMillis" "J" (.long (-9223372036854775808 : Int64))) (p21 : Fld Z h0 s' "com/example/sluice/sluice/WaitRecorder$Tally" "startedAtOnce" "J" (.long cs)) (p22 : Fld Z h0 s' "com/example/sluice/sluice/WaitRecorder$Tally" "refused" "[J" (.ref q)) (p23 : Exa Z h0 q "[J") (p24 : Arv Z h0 q j .long (7 : Int32) [(.long (0 : Int64)), (.long (0 : Int64)), (.long (0 : Int64)), (.long (0 : Int64)), (.long (0 : Int64)), (.long (0 : Int64)), (.long (0 : Int64))] (.long (0 : Int64))) (p25 : n0 ≤ aa) (p26 : n0 ≤ t') (p27 : n0 ≤ s') (p28 : aa ≠ t') (p29 : aa ≠ r) (p30 : aa ≠ s') (p31 : aa ≠ q) (p32 : t' ≠ r) (p33 : t' ≠ s') (p34 : t' ≠ q) (p35 : r ≠ s') (p36 : r ≠ q) (p37 : s' ≠ q) (S_V : Sta Z Z.heap "com/example/sluice/sluice/RefusalReason" "$VALUES" "[Lcom/example/sluice/sluice/RefusalReason;" (.ref wV)) (E_V : Exa Z Z.heap wV "[Lcom/example/sluice/sluice/RefusalReason;") (A_V : Arv Z Z.heap wV kV (.object "com/example/sluice/sluice/RefusalReason") (7 : Int32) vV .null) (hl : ¬ (ln = (0 : Int64))) (hix : (own_fd nw ln) = ix) :
    MetFree l (⟨"com/example/sluice/sluice/WaitRecorder", "intervalSnapshot", "(J)Lcom/example/sluice/sluice/WaitStatistics;"⟩ : MethodName) (head1 (Jvm.Cond.code (⟨"com/example/sluice/sluice/WaitRecorder", "intervalSnapshot", "(J)Lcom/example/sluice/sluice/WaitStatistics;"⟩ : MethodName) prog_38_method_6_code 3 (some (.object "com/example/sluice/sluice/WaitStatistics")) :: ws) ({ frames := 4, cells := 5, slots := 35, locals := 58 } : Room)) (fun a U => a = #[(.ref aa), (.long nw)] ∧ Z.Warmed39 U.vm ∧ U.heap = h0) (fun _ _ _ _ _ => True) (fun _ U o U' => ∃ v L, o = .returned v ∧ Q_rm_isnap Z aa nw ln ix t' r k' s' q j ft_ ct fs_ cs wV kV vV h0 n0 v U'.heap L ∧ FrameEnd U o U' L ({ frames := 4, cells := 5, slots := 35, locals := 58 } : Room).cells ({ frames := 4, cells := 5, slots := 35, locals := 58 } : Room).slots) := by
  refine MetFree.of_bodySF (plainFor_of_name pn_2) hisR ?_
  intro p e s m args below meth c s₁ Bd hml0 hP hK
  obtain ⟨rfl, hZ, hh⟩ := hP
  have hx := Bd.exec
  have hby := Bd.bytes
  have hml : c.maxLocals = 3 := hml0
  have hown : s.vm.findClass "com/example/sluice/sluice/WaitRecorder" = some m.cls := findClass_of_methodNamed Bd.named
  have hnm := (name_of_methodNamed Bd.named Bd.method).1
  have X0 : Stand p l e ({ frames := 4, cells := 5, slots := 35, locals := 58 } : Room) s m #[(.ref aa), (.long nw)] below meth c s₁ [] 0 0 := Stand.of_body Bd
  have e0 : s₁.heap = h0 := by rw [← hh, Bd.state]; rfl
  have N0 := Fr.nil n0
  have K0 : Keep h0 h0 [] := Keep.refl _ _
  have pre0 : ∀ t, Steps p.tables e below (s₁.setTop (mkF m 0 #[.val (.ref aa), .val (.long nw), .second] [])) t → Steps p.tables e below (s₁.setTop (entryFrame m #[(.ref aa), (.long nw)] 3)) t := fun t k => castTop (ef_rm_isnap m aa nw) k
  obtain ⟨cq1, q1, q1'⟩ := p0.cell
  obtain ⟨cp1, kp1, sp1a, sp1b, -, sp1c, -⟩ := Cond.instantiable_spec (mvT hZ (own_w hw 6 rfl) (args := #[]) : (Jvm.Cond.instantiable _ _).before #[] s = true)
  have sl1 : ∀ {args : Array Value}, (Jvm.Cond.selects "com/example/sluice/sluice/WaitRecorder" (⟨"com/example/sluice/sluice/WaitRecorder", "currentInterval", "(J)Lcom/example/sluice/sluice/WaitRecorder$Tally;"⟩ : MethodName) (⟨"com/example/sluice/sluice/WaitRecorder", "currentInterval", "(J)Lcom/example/sluice/sluice/WaitRecorder$Tally;"⟩ : MethodName)).before args s = true := fun {args} => selects_self_of_private sp1a sp1b (by simp only [Bool.or_eq_false_iff] at sp1c; exact sp1c.1) (Cond.privateMethod_at (mvP hZ (own_w hw 73 rfl) (args := #[]))) (mvT hZ (own_w hw 72 rfl)) (by decide)
  obtain ⟨_, _, ⟨T1, L1, k1, n1⟩, -, X1, ⟨Lc1, hQ1, l1, y1, z1⟩, st1⟩ := X0.privateBack hx (y := (⟨"com/example/sluice/sluice/WaitRecorder", "currentInterval", "(J)Lcom/example/sluice/sluice/WaitRecorder$Tally;"⟩ : MethodName)) hown (mvT hZ (own_w hw 71 rfl)) (mvT hZ (own_w hw 72 rfl)) sl1 (Cond.privateMethod_at (mvP hZ (own_w hw 73 rfl) (args := #[]))) (mvT hZ (own_w hw 74 rfl)) (by decide) (backOf (W := 0) (rm_cur l Z a0 hw [] aa nw ln ix t' r k' s' q j ft_ ct fs_ cs wV kV vV h0 n0 O0 p0 p1 p2 p3 p4 p5 p6 p7 p8 p9 p10 p11 p12 p13 p14 p15 p16 p17 p18 p19 p20 p21 p22 p23 p24 p25 p26 p27 p28 p29 p30 p31 p32 p33 p34 p35 p36 p37 S_V E_V A_V hl) hZ (own_w hw 74 rfl) (own_w hw 7 rfl) (by decide) (by decide)) (g := (mkF m 2 #[.val (.ref aa), .val (.long nw), .second] [(.long nw), (.ref aa)])) rfl (by rw [hml]; rfl) (Steps.refl _) (a := aa) (by rw [e0]; exact q1) q1' (argsL := [(.long nw)]) (rest := []) (lenOf pd_3 rfl) rfl (by show 2 * 0 + _ ≤ _; exact Nat.le_of_eq rfl) (hb hby d12_2) (fun _ _ => ⟨rfl, e0, (by decide : 0 + 3 ≤ _), (by decide : 0 + 21 ≤ _)⟩)
  dsimp only [Pt.U, Pt.locs, Pt.cells, Pt.slots] at X1 l1 y1 z1 st1 hQ1
  subst l1 y1 z1
  rcases hQ1 with ⟨c2, rfl, N3, k4⟩ | ⟨x5, x6, x7, c8, rfl, N9, k10, f11, f12, f13, f14, f15, f16, f17, f18, f19, f20, f21, f22, f23, f24, f25, f26, f27, f28⟩
  · have N29 := Fr.app N0 N3
    obtain ⟨cq30, kq30, q30a, q30b, q30c⟩ := isOf hZ k4 p5
    obtain ⟨_, _, ⟨T30, L30, k30, n30⟩, -, X30, ⟨Lc30, hQ30, l30, y30, z30⟩, st30⟩ := X1.virtualBack hx (y := (⟨"com/example/sluice/sluice/WaitRecorder$Tally", "snapshot", "()Lcom/example/sluice/sluice/WaitStatistics;"⟩ : MethodName)) (z := (⟨"com/example/sluice/sluice/WaitRecorder$Tally", "snapshot", "()Lcom/example/sluice/sluice/WaitStatistics;"⟩ : MethodName)) hown (mvT hZ (own_w hw 87 rfl)) (mvT hZ (own_w hw 88 rfl)) (notFace_of_selects (args := #[]) (mvT hZ (own_w hw 90 rfl))) (mvT hZ (own_w hw 90 rfl)) (mvT hZ (own_w hw 89 rfl)) (by decide) (backOf (W := 0) (rm_snap l Z a0 hw [] t' ft_ ct r k' h0 n0 O0 p5 p6 p7 p8 p9 p10 p11 p12 p13 p14) hZ (own_w hw 91 rfl) (own_w hw 23 rfl) (by decide) (by decide)) q30a q30c (g := (mkF m 5 #[.val (.ref aa), .val (.long nw), .second] [(.ref t')])) rfl (by rw [hml]; rfl) (Steps.refl _) (argsL := []) (rest := []) (lenOf pd_5 rfl) rfl (by show 2 * 0 + _ ≤ _; exact Nat.le_of_eq rfl) (hb hby d12_5) (fun _ _ => ⟨rfl, k4, (by decide : 3 + 2 ≤ _), (by decide : 21 + 14 ≤ _)⟩)
    dsimp only [Pt.U, Pt.locs, Pt.cells, Pt.slots] at X30 l30 y30 z30 st30 hQ30
    subst l30 y30 z30
    obtain ⟨x31, rfl, N32, k33, f34, f35, f36⟩ := hQ30
    have N37 := Fr.app N29 N32
    have ge38 : n0 ≤ x31 := by rw [← O0.1]; exact Nat.le_trans O0.2.1 f34
    have sz38 : h0.size ≤ x31 := Nat.le_trans K0.1 f34
    have ne39 : aa ≠ x31 := Nat.ne_of_lt (Nat.lt_of_lt_of_le (Exa.lt p0) f34)
    have ne40 : t' ≠ x31 := Nat.ne_of_lt (Nat.lt_of_lt_of_le (Exa.lt p5) f34)
    have ne41 : r ≠ x31 := Nat.ne_of_lt (Nat.lt_of_lt_of_le (Exa.lt p13) f34)
    have ne42 : s' ≠ x31 := Nat.ne_of_lt (Nat.lt_of_lt_of_le (Exa.lt p15) f34)
    have ne43 : q ≠ x31 := Nat.ne_of_lt (Nat.lt_of_lt_of_le (Exa.lt p23) f34)
    have O44 := O0.keep k33 all0
    have K45 : Keep h0 T30.heap [] := K0.trans k33 all0
    have S46 : ∀ t, Steps p.tables e below (T30.setTop (mkF m 8 #[.val (.ref aa), .val (.long nw), .second] [(.ref x31)])) t → Steps p.tables e below (s₁.setTop (mkF m 0 #[.val (.ref aa), .val (.long nw), .second] [])) t := by
      intro t kt
      refine XS.aloadN X0.here hx rfl (hb hby d12_0) rfl rfl ?_
      refine XS.lloadN X0.here hx rfl (hb hby d12_1) rfl ?_
      show Steps p.tables e below (s₁.setTop (mkF m 2 #[.val (.ref aa), .val (.long nw), .second] [(.long nw), (.ref aa)])) _
      refine st1.trans ?_
      show Steps p.tables e below (T1.setTop (mkF m 5 #[.val (.ref aa), .val (.long nw), .second] [(.ref t')])) _
      refine st30.trans ?_
      exact kt
    obtain ⟨fs, hr, hrun, hended, hW, hsame⟩ := X30.leave (v := some (.ref x31)) (fun h => by rw [Bd.returns] at h; cases h)
    refine ⟨_, _, pre0 _ (S46 _ ?_), hrun, hended, _, _, rfl, ?_, ⟨_, rfl⟩, hW, hsame.mono (by decide) (by decide)⟩
    · exact retOut X30 hx Bd.returns rfl (Or.inr (Or.inr (Or.inr (Or.inr ⟨rfl, rfl, rfl⟩)))) (hb hby d12_8) hr
    · show Q_rm_isnap Z aa nw ln ix t' r k' s' q j ft_ ct fs_ cs wV kV vV h0 n0 _ T30.heap _
      exact ⟨x31, rfl, N37, K45, sz38, f35, f36⟩
  · exact absurd (hix : (own_fd nw ln) = ix) c8
theorem d13_0 : decode prog_38_method_7_code 0 = .ok (.aload_n 0, 1) := by decide +kernel
theorem d13_1 : decode prog_38_method_7_code 1 = .ok (.getfield 31, 3) := by decide +kernel
theorem d13_4 : decode prog_38_method_7_code 4 = .ok (.invokevirtual 57, 3) := by decide +kernel
theorem d13_7 : decode prog_38_method_7_code 7 = .ok (.areturn, 1) := by decide +kernel
theorem ef_rm_ssnap (m : MethodId) (x0 : Addr) : entryFrame m #[(.ref x0)] 1 = mkF m 0 #[.val (.ref x0)] [] := by first | (simp [entryFrame, mkF, argsToLocals, Value.category]; done) | rfl
def Q_rm_ssnap (Z : State) (aa : Addr) (s' : Addr) (fs_ : Int64) (cs : Int64) (q : Addr) (j : ClassId) (h0 : Heap) (n0 : Nat) (v : Option Value) (h : Heap) (L : List Loc) : Prop := (∃ (u : Addr), (v = some (.ref u)) ∧ (Fr n0 L) ∧ (Keep h0 h []) ∧ (h0.size ≤ u) ∧ (Exa Z h u "com/example/sluice/sluice/WaitStatistics") ∧ (Fld Z h u "com/example/sluice/sluice/WaitStatistics" "startedAtOnce" "J" (.long cs)))
set_option maxRecDepth 65536 in
set_option maxHeartbeats 40000000 in
theorem rm_ssnap (l : Launch) (Z : State) (a0 : Array Value) (hw : ∀ d ∈ tables_1, d.before a0 Z = true) (ws : List Jvm.Cond) (aa : Addr) (s' : Addr) (fs_ : Int64) (cs : Int64) (q : Addr) (j : ClassId) (h0 : Heap) (n0 : Nat) (O0 : Old Z n0 h0) (p0 : Fld Z h0 aa "com/example/sluice/sluice/WaitRecorder" "sinceReset" "Lcom/example/sluice/sluice/WaitRecorder$Tally;" (.ref s')) (p1 : Exa Z h0 s' "com/example/sluice/sluice/WaitRecorder$Tally") (p2 : Fld Z h0 s' "com/example/sluice/sluice/WaitRecorder$Tally" "fromMillis" "J" (.long fs_)) (p3 : Fld Z h0 s' "com/example/sluice/sluice/WaitRecorder$Tally" "startedAfterWaiting" "J" (.long (0 : Int64))) (p4 : Fld Z h0 s' "com/example/sluice/sluice/WaitRecorder$Tally" "totalWaitMillis" "J" (.long (0 : Int64))) (p5 : Fld Z h0 s' "com/example/sluice/sluice/WaitRecorder$Tally" "minimumWaitMillis" "J" (.long (9223372036854775807 : Int64))) (p6 : Fld Z h0 s' "com/example/sluice/sluice/WaitRecorder$Tally" "maximumWaitMillis" "J" (.long (-9223372036854775808 : Int64))) (p7 : Fld Z h0 s' "com/example/sluice/sluice/WaitRecorder$Tally" "startedAtOnce" "J" (.long cs)) (p8 : Fld Z h0 s' "com/example/sluice/sluice/WaitRecorder$Tally" "refused" "[J" (.ref q)) (p9 : Exa Z h0 q "[J") (p10 : Arv Z h0 q j .long (7 : Int32) [(.long (0 : Int64)), (.long (0 : Int64)), (.long (0 : Int64)), (.long (0 : Int64)), (.long (0 : Int64)), (.long (0 : Int64)), (.long (0 : Int64))] (.long (0 : Int64))) :
    MetFree l (⟨"com/example/sluice/sluice/WaitRecorder", "sinceResetSnapshot", "()Lcom/example/sluice/sluice/WaitStatistics;"⟩ : MethodName) (head1 (Jvm.Cond.code (⟨"com/example/sluice/sluice/WaitRecorder", "sinceResetSnapshot", "()Lcom/example/sluice/sluice/WaitStatistics;"⟩ : MethodName) prog_38_method_7_code 1 (some (.object "com/example/sluice/sluice/WaitStatistics")) :: ws) ({ frames := 3, cells := 2, slots := 14, locals := 53 } : Room)) (fun a U => a = #[(.ref aa)] ∧ Z.Warmed39 U.vm ∧ U.heap = h0) (fun _ _ _ _ _ => True) (fun _ U o U' => ∃ v L, o = .returned v ∧ Q_rm_ssnap Z aa s' fs_ cs q j h0 n0 v U'.heap L ∧ FrameEnd U o U' L ({ frames := 3, cells := 2, slots := 14, locals := 53 } : Room).cells ({ frames := 3, cells := 2, slots := 14, locals := 53 } : Room).slots) := by
  refine MetFree.of_bodySF (plainFor_of_name pn_2) hisR ?_
  intro p e s m args below meth c s₁ Bd hml0 hP hK
  obtain ⟨rfl, hZ, hh⟩ := hP
  have hx := Bd.exec
  have hby := Bd.bytes
  have hml : c.maxLocals = 1 := hml0
  have hown : s.vm.findClass "com/example/sluice/sluice/WaitRecorder" = some m.cls := findClass_of_methodNamed Bd.named
  have hnm := (name_of_methodNamed Bd.named Bd.method).1
  have X0 : Stand p l e ({ frames := 3, cells := 2, slots := 14, locals := 53 } : Room) s m #[(.ref aa)] below meth c s₁ [] 0 0 := Stand.of_body Bd
  have e0 : s₁.heap = h0 := by rw [← hh, Bd.state]; rfl
  have N0 := Fr.nil n0
  have K0 : Keep h0 h0 [] := Keep.refl _ _
  have pre0 : ∀ t, Steps p.tables e below (s₁.setTop (mkF m 0 #[.val (.ref aa)] [])) t → Steps p.tables e below (s₁.setTop (entryFrame m #[(.ref aa)] 1)) t := fun t k => castTop (ef_rm_ssnap m aa) k
  obtain ⟨T1, X1, e1, st1⟩ := getF X0 hx hZ hown (host := "") (Or.inl (own_w hw 64 rfl)) Via.refl e0 p0 (g := (mkF m 1 #[.val (.ref aa)] [(.ref aa)])) rfl rfl (hb hby d13_1)
  obtain ⟨cq2, kq2, q2a, q2b, q2c⟩ := isOf hZ e1 p1
  obtain ⟨_, _, ⟨T2, L2, k2, n2⟩, -, X2, ⟨Lc2, hQ2, l2, y2, z2⟩, st2⟩ := X1.virtualBack hx (y := (⟨"com/example/sluice/sluice/WaitRecorder$Tally", "snapshot", "()Lcom/example/sluice/sluice/WaitStatistics;"⟩ : MethodName)) (z := (⟨"com/example/sluice/sluice/WaitRecorder$Tally", "snapshot", "()Lcom/example/sluice/sluice/WaitStatistics;"⟩ : MethodName)) hown (mvT hZ (own_w hw 87 rfl)) (mvT hZ (own_w hw 88 rfl)) (notFace_of_selects (args := #[]) (mvT hZ (own_w hw 90 rfl))) (mvT hZ (own_w hw 90 rfl)) (mvT hZ (own_w hw 89 rfl)) (by decide) (backOf (W := 0) (rm_snap l Z a0 hw [] s' fs_ cs q j h0 n0 O0 p1 p2 p3 p4 p5 p6 p7 p8 p9 p10) hZ (own_w hw 91 rfl) (own_w hw 23 rfl) (by decide) (by decide)) q2a q2c (g := (mkF m 4 #[.val (.ref aa)] [(.ref s')])) rfl (by rw [hml]; rfl) (Steps.refl _) (argsL := []) (rest := []) (lenOf pd_5 rfl) rfl (by show 2 * 0 + _ ≤ _; exact Nat.le_of_eq rfl) (hb hby d13_4) (fun _ _ => ⟨rfl, e1, (by decide : 0 + 2 ≤ _), (by decide : 0 + 14 ≤ _)⟩)
  dsimp only [Pt.U, Pt.locs, Pt.cells, Pt.slots] at X2 l2 y2 z2 st2 hQ2
  subst l2 y2 z2
  obtain ⟨x3, rfl, N4, k5, f6, f7, f8⟩ := hQ2
  have N9 := Fr.app N0 N4
  have ge10 : n0 ≤ x3 := by rw [← O0.1]; exact Nat.le_trans O0.2.1 f6
  have sz10 : h0.size ≤ x3 := Nat.le_trans K0.1 f6
  have ne11 : aa ≠ x3 := Nat.ne_of_lt (Nat.lt_of_lt_of_le (Fld.lt p0) f6)
  have ne12 : s' ≠ x3 := Nat.ne_of_lt (Nat.lt_of_lt_of_le (Exa.lt p1) f6)
  have ne13 : q ≠ x3 := Nat.ne_of_lt (Nat.lt_of_lt_of_le (Exa.lt p9) f6)
  have O14 := O0.keep k5 all0
  have K15 : Keep h0 T2.heap [] := K0.trans k5 all0
  have S16 : ∀ t, Steps p.tables e below (T2.setTop (mkF m 7 #[.val (.ref aa)] [(.ref x3)])) t → Steps p.tables e below (s₁.setTop (mkF m 0 #[.val (.ref aa)] [])) t := by
    intro t kt
    refine XS.aloadN X0.here hx rfl (hb hby d13_0) rfl rfl ?_
    show Steps p.tables e below (s₁.setTop (mkF m 1 #[.val (.ref aa)] [(.ref aa)])) _
    refine st1 _ ?_
    show Steps p.tables e below (T1.setTop (mkF m 4 #[.val (.ref aa)] [(.ref s')])) _
    refine st2.trans ?_
    exact kt
  obtain ⟨fs, hr, hrun, hended, hW, hsame⟩ := X2.leave (v := some (.ref x3)) (fun h => by rw [Bd.returns] at h; cases h)
  refine ⟨_, _, pre0 _ (S16 _ ?_), hrun, hended, _, _, rfl, ?_, ⟨_, rfl⟩, hW, hsame.mono (by decide) (by decide)⟩
  · exact retOut X2 hx Bd.returns rfl (Or.inr (Or.inr (Or.inr (Or.inr ⟨rfl, rfl, rfl⟩)))) (hb hby d13_7) hr
  · show Q_rm_ssnap Z aa s' fs_ cs q j h0 n0 _ T2.heap _
    exact ⟨x3, rfl, N9, K15, sz10, f7, f8⟩
theorem pd_6 : parseMethodDescriptor "(JJ)V" = some ⟨[.long, .long], none⟩ := by decide +kernel
theorem pd_7 : parseMethodDescriptor "(J)Lcom/example/sluice/sluice/WaitStatistics;" = some ⟨[.long], some (.object "com/example/sluice/sluice/WaitStatistics")⟩ := by decide +kernel
theorem pd_8 : parseMethodDescriptor "()J" = some ⟨[], some .long⟩ := by decide +kernel
theorem pn_4 : plainName "com/example/sluice/sluice/WaitRecorderStartedAtOnceEarlierPinLaw" = true := by first | (simp [plainName, overriddenIn]; done) | decide +kernel
theorem ef_rm_law (m : MethodId) (x0 : Int64) (x1 : Int64) (x2 : Int64) (x3 : Int64) (x4 : Int32) : entryFrame m #[(.long x0), (.long x1), (.long x2), (.long x3), (.int x4)] maxLocals = mkF m 0 #[.val (.long x0), .second, .val (.long x1), .second, .val (.long x2), .second, .val (.long x3), .second, .val (.int x4), .unset, .unset, .unset, .unset, .unset, .unset, .unset, .unset, .unset, .unset, .unset, .unset, .unset, .unset, .unset, .unset, .unset, .unset, .unset, .unset, .unset] [] := by first | (simp [entryFrame, mkF, argsToLocals, Value.category, maxLocals]; done) | rfl
def Q_rm_law (Z : State) (raw : Int64) (nw : Int64) (lt : Int64) (pc_ : Int64) (fl : Int32) (wV : Addr) (kV : ClassId) (vV : List Value) (h0 : Heap) (n0 : Nat) (v : Option Value) (h : Heap) (L : List Loc) : Prop := ((v = some (.int (1 : Int32))) ∧ (Fr n0 L))
set_option maxRecDepth 65536 in
set_option maxHeartbeats 40000000 in
theorem rm_law (l : Launch) (Z : State) (a0 : Array Value) (hw : ∀ d ∈ tables_1, d.before a0 Z = true) (ws : List Jvm.Cond) (raw : Int64) (nw : Int64) (lt : Int64) (pc_ : Int64) (fl : Int32) (wV : Addr) (kV : ClassId) (vV : List Value) (h0 : Heap) (n0 : Nat) (O0 : Old Z n0 h0) (S_V : Sta Z Z.heap "com/example/sluice/sluice/RefusalReason" "$VALUES" "[Lcom/example/sluice/sluice/RefusalReason;" (.ref wV)) (E_V : Exa Z Z.heap wV "[Lcom/example/sluice/sluice/RefusalReason;") (A_V : Arv Z Z.heap wV kV (.object "com/example/sluice/sluice/RefusalReason") (7 : Int32) vV .null) :
    MetFree l x (head1 (Jvm.Cond.code x code maxLocals ret :: ws) room_1) (fun a U => a = #[(.long raw), (.long nw), (.long lt), (.long pc_), (.int fl)] ∧ Z.Warmed39 U.vm ∧ U.heap = h0) (fun _ _ _ _ _ => True) (fun _ U o U' => ∃ v L, o = .returned v ∧ Q_rm_law Z raw nw lt pc_ fl wV kV vV h0 n0 v U'.heap L ∧ FrameEnd U o U' L room_1.cells room_1.slots) := by
  refine MetFree.of_bodySF (plainFor_of_name pn_4) hisR ?_
  intro p e s m args below meth c s₁ Bd hml0 hP hK
  obtain ⟨rfl, hZ, hh⟩ := hP
  have hx := Bd.exec
  have hby := Bd.bytes
  have hml : c.maxLocals = 30 := hml0
  have hown : s.vm.findClass "com/example/sluice/sluice/WaitRecorderStartedAtOnceEarlierPinLaw" = some m.cls := findClass_of_methodNamed Bd.named
  have hnm := (name_of_methodNamed Bd.named Bd.method).1
  have X0 : Stand p l e room_1 s m #[(.long raw), (.long nw), (.long lt), (.long pc_), (.int fl)] below meth c s₁ [] 0 0 := Stand.of_body Bd
  have e0 : s₁.heap = h0 := by rw [← hh, Bd.state]; rfl
  have N0 := Fr.nil n0
  have pre0 : ∀ t, Steps p.tables e below (s₁.setTop (mkF m 0 #[.val (.long raw), .second, .val (.long nw), .second, .val (.long lt), .second, .val (.long pc_), .second, .val (.int fl), .unset, .unset, .unset, .unset, .unset, .unset, .unset, .unset, .unset, .unset, .unset, .unset, .unset, .unset, .unset, .unset, .unset, .unset, .unset, .unset, .unset] [])) t → Steps p.tables e below (s₁.setTop (entryFrame m #[(.long raw), (.long nw), (.long lt), (.long pc_), (.int fl)] maxLocals)) t := fun t k => castTop (ef_rm_law m raw nw lt pc_ fl) k
  obtain ⟨_, _, ⟨T1, L1, k1, n1⟩, -, X1, ⟨Lc1, hQ1, l1, y1, z1⟩, st1⟩ := Jvm.LawKit.callS X0 hx (y := (⟨"java/lang/Math", "max", "(JJ)J"⟩ : MethodName)) hown (mvT hZ (own_w hw 1 rfl)) (mvT hZ (own_w hw 2 rfl)) (mvT hZ (own_w hw 3 rfl)) (mvT hZ (own_w hw 4 rfl)) (by decide) (backOf (W := 0) (rm_max l Z a0 hw [] (1 : Int64) (raw &&& (9223372036854775807 : Int64)) h0 n0 O0 ) hZ (own_w hw 4 rfl) (own_w hw 3 rfl) (by decide) (by decide)) (g := (mkF m 6 #[.val (.long raw), .second, .val (.long nw), .second, .val (.long lt), .second, .val (.long pc_), .second, .val (.int fl), .unset, .unset, .unset, .unset, .unset, .unset, .unset, .unset, .unset, .unset, .unset, .unset, .unset, .unset, .unset, .unset, .unset, .unset, .unset, .unset, .unset] [(.long (raw &&& (9223372036854775807 : Int64))), (.long (1 : Int64))])) rfl (by rw [hml]; rfl) (argsL := [(.long (1 : Int64)), (.long (raw &&& (9223372036854775807 : Int64)))]) (rest := []) (lenOf pd_1 rfl) rfl (by show 2 * 0 + _ ≤ _; exact Nat.le_of_eq rfl) (hb hby at_6) (fun _ _ => ⟨rfl, e0, (by decide : 0 + 0 ≤ _), (by decide : 0 + 0 ≤ _)⟩)
  dsimp only [Pt.U, Pt.locs, Pt.cells, Pt.slots] at X1 l1 y1 z1 st1 hQ1
  subst l1 y1 z1
  obtain ⟨x2, c3, rfl, N4, k5⟩ := hQ1
  have N6 := Fr.app N0 N4
  have hlen : ¬ (x2 = (0 : Int64)) := fun q => c3 (by rw [q]; decide)
  have S7 : ∀ t, Steps p.tables e below (T1.setTop (mkF m 15 #[.val (.long raw), .second, .val (.long nw), .second, .val (.long lt), .second, .val (.long pc_), .second, .val (.int fl), .val (.long x2), .second, .unset, .unset, .unset, .unset, .unset, .unset, .unset, .unset, .unset, .unset, .unset, .unset, .unset, .unset, .unset, .unset, .unset, .unset, .unset] [(.int (fl &&& (1 : Int32)))])) t → Steps p.tables e below (s₁.setTop (mkF m 0 #[.val (.long raw), .second, .val (.long nw), .second, .val (.long lt), .second, .val (.long pc_), .second, .val (.int fl), .unset, .unset, .unset, .unset, .unset, .unset, .unset, .unset, .unset, .unset, .unset, .unset, .unset, .unset, .unset, .unset, .unset, .unset, .unset, .unset, .unset] [])) t := by
    intro t kt
    refine XS.lconst X0.here hx rfl (hb hby at_0) ?_
    refine XS.lloadN X0.here hx rfl (hb hby at_1) rfl ?_
    show Steps p.tables e below (s₁.setTop (mkF m 2 #[.val (.long raw), .second, .val (.long nw), .second, .val (.long lt), .second, .val (.long pc_), .second, .val (.int fl), .unset, .unset, .unset, .unset, .unset, .unset, .unset, .unset, .unset, .unset, .unset, .unset, .unset, .unset, .unset, .unset, .unset, .unset, .unset, .unset, .unset] [(.long raw), (.long (1 : Int64))])) _
    refine X0.ldc2Long hx hown (mvT hZ (own_w hw 0 rfl)) (g := (mkF m 2 #[.val (.long raw), .second, .val (.long nw), .second, .val (.long lt), .second, .val (.long pc_), .second, .val (.int fl), .unset, .unset, .unset, .unset, .unset, .unset, .unset, .unset, .unset, .unset, .unset, .unset, .unset, .unset, .unset, .unset, .unset, .unset, .unset, .unset, .unset] [(.long raw), (.long (1 : Int64))])) rfl (hb hby at_2) _ ?_
    refine XS.land X0.here hx rfl (hb hby at_5) rfl ?_
    show Steps p.tables e below (s₁.setTop (mkF m 6 #[.val (.long raw), .second, .val (.long nw), .second, .val (.long lt), .second, .val (.long pc_), .second, .val (.int fl), .unset, .unset, .unset, .unset, .unset, .unset, .unset, .unset, .unset, .unset, .unset, .unset, .unset, .unset, .unset, .unset, .unset, .unset, .unset, .unset, .unset] [(.long (raw &&& (9223372036854775807 : Int64))), (.long (1 : Int64))])) _
    refine st1 _ ?_
    refine XS.lstore X1.here hx rfl (hb hby at_9) rfl (l' := #[.val (.long raw), .second, .val (.long nw), .second, .val (.long lt), .second, .val (.long pc_), .second, .val (.int fl), .val (.long x2), .second, .unset, .unset, .unset, .unset, .unset, .unset, .unset, .unset, .unset, .unset, .unset, .unset, .unset, .unset, .unset, .unset, .unset, .unset, .unset]) rfl ?_
    refine XS.iload X1.here hx rfl (hb hby at_11) rfl ?_
    refine XS.iconst X1.here hx rfl (hb hby at_13) ?_
    refine XS.iand X1.here hx rfl (hb hby at_14) rfl ?_
    exact kt
  rcases Decidable.em ((fl &&& (1 : Int32)) = (0 : Int32)) with c8 | c8
  · have S9 : ∀ t, Steps p.tables e below (T1.setTop (mkF m 29 #[.val (.long raw), .second, .val (.long nw), .second, .val (.long lt), .second, .val (.long pc_), .second, .val (.int fl), .val (.long x2), .second, .val (.int (0 : Int32)), .unset, .unset, .unset, .unset, .unset, .unset, .unset, .unset, .unset, .unset, .unset, .unset, .unset, .unset, .unset, .unset, .unset, .unset] [(.int (fl &&& (2 : Int32)))])) t → Steps p.tables e below (s₁.setTop (mkF m 0 #[.val (.long raw), .second, .val (.long nw), .second, .val (.long lt), .second, .val (.long pc_), .second, .val (.int fl), .unset, .unset, .unset, .unset, .unset, .unset, .unset, .unset, .unset, .unset, .unset, .unset, .unset, .unset, .unset, .unset, .unset, .unset, .unset, .unset, .unset] [])) t := by
      intro t kt
      refine S7 t ?_
      refine XS.ifYes X1.here hx rfl (pc0 := 15) (pc' := 22) rfl (hb hby at_15) rfl ((if0 _ _).trans (teq (c8 : (fl &&& (1 : Int32)) = (0 : Int32))).1) (by decide) (by decide) ?_
      refine XS.iconst X1.here hx rfl (hb hby at_22) ?_
      refine XS.istore X1.here hx rfl (hb hby at_23) rfl (l' := #[.val (.long raw), .second, .val (.long nw), .second, .val (.long lt), .second, .val (.long pc_), .second, .val (.int fl), .val (.long x2), .second, .val (.int (0 : Int32)), .unset, .unset, .unset, .unset, .unset, .unset, .unset, .unset, .unset, .unset, .unset, .unset, .unset, .unset, .unset, .unset, .unset, .unset]) rfl ?_
      refine XS.iload X1.here hx rfl (hb hby at_25) rfl ?_
      refine XS.iconst X1.here hx rfl (hb hby at_27) ?_
      refine XS.iand X1.here hx rfl (hb hby at_28) rfl ?_
      exact kt
    rcases Decidable.em ((fl &&& (2 : Int32)) = (0 : Int32)) with c10 | c10
    · have S11 : ∀ t, Steps p.tables e below (T1.setTop (mkF m 43 #[.val (.long raw), .second, .val (.long nw), .second, .val (.long lt), .second, .val (.long pc_), .second, .val (.int fl), .val (.long x2), .second, .val (.int (0 : Int32)), .val (.int (0 : Int32)), .unset, .unset, .unset, .unset, .unset, .unset, .unset, .unset, .unset, .unset, .unset, .unset, .unset, .unset, .unset, .unset, .unset] [(.int (fl &&& (4 : Int32)))])) t → Steps p.tables e below (s₁.setTop (mkF m 0 #[.val (.long raw), .second, .val (.long nw), .second, .val (.long lt), .second, .val (.long pc_), .second, .val (.int fl), .unset, .unset, .unset, .unset, .unset, .unset, .unset, .unset, .unset, .unset, .unset, .unset, .unset, .unset, .unset, .unset, .unset, .unset, .unset, .unset, .unset] [])) t := by
        intro t kt
        refine S9 t ?_
        refine XS.ifYes X1.here hx rfl (pc0 := 29) (pc' := 36) rfl (hb hby at_29) rfl ((if0 _ _).trans (teq (c10 : (fl &&& (2 : Int32)) = (0 : Int32))).1) (by decide) (by decide) ?_
        refine XS.iconst X1.here hx rfl (hb hby at_36) ?_
        refine XS.istore X1.here hx rfl (hb hby at_37) rfl (l' := #[.val (.long raw), .second, .val (.long nw), .second, .val (.long lt), .second, .val (.long pc_), .second, .val (.int fl), .val (.long x2), .second, .val (.int (0 : Int32)), .val (.int (0 : Int32)), .unset, .unset, .unset, .unset, .unset, .unset, .unset, .unset, .unset, .unset, .unset, .unset, .unset, .unset, .unset, .unset, .unset]) rfl ?_
        refine XS.iload X1.here hx rfl (hb hby at_39) rfl ?_
        refine XS.iconst X1.here hx rfl (hb hby at_41) ?_
        refine XS.iand X1.here hx rfl (hb hby at_42) rfl ?_
        exact kt
      rcases Decidable.em ((fl &&& (4 : Int32)) = (0 : Int32)) with c12 | c12
      · obtain ⟨T13, h13, X13, e13, E13, A13, D13, -, st13⟩ := newO X1 hx hZ hown (own_w hw 5 rfl) (own_w hw 6 rfl) (own_w hw 7 rfl) k5 (g := (mkF m 53 #[.val (.long raw), .second, .val (.long nw), .second, .val (.long lt), .second, .val (.long pc_), .second, .val (.int fl), .val (.long x2), .second, .val (.int (0 : Int32)), .val (.int (0 : Int32)), .val (.int (0 : Int32)), .unset, .unset, .unset, .unset, .unset, .unset, .unset, .unset, .unset, .unset, .unset, .unset, .unset, .unset, .unset, .unset] [])) rfl (hb hby at_53) (by decide) (by decide)
        obtain ⟨b13, g13⟩ : ∃ z, z = h0.size := ⟨_, rfl⟩
        have ge_b13 : n0 ≤ b13 := by rw [g13, ← O0.1]; exact O0.2.1
        rw [← g13] at A13 D13 st13
        have O14 := O0.ext E13
        have F15 : Fld Z h13 b13 "com/example/sluice/sluice/WaitRecorder" "intervalMillis" "J" (.long (0 : Int64)) := D13 (Or.inr (own_w hw 15 rfl)) (ty := .long) (by decide)
        have F16 : Fld Z h13 b13 "com/example/sluice/sluice/WaitRecorder" "intervalIndex" "J" (.long (0 : Int64)) := D13 (Or.inl (own_w hw 20 rfl)) (ty := .long) (by decide)
        have F17 : Fld Z h13 b13 "com/example/sluice/sluice/WaitRecorder" "interval" "Lcom/example/sluice/sluice/WaitRecorder$Tally;" .null := D13 (Or.inl (own_w hw 63 rfl)) (ty := (.object "com/example/sluice/sluice/WaitRecorder$Tally")) (by decide)
        have F18 : Fld Z h13 b13 "com/example/sluice/sluice/WaitRecorder" "sinceReset" "Lcom/example/sluice/sluice/WaitRecorder$Tally;" .null := D13 (Or.inl (own_w hw 65 rfl)) (ty := (.object "com/example/sluice/sluice/WaitRecorder$Tally")) (by decide)
        obtain ⟨_, _, ⟨T19, L19, k19, n19⟩, -, X19, ⟨Lc19, hQ19, l19, y19, z19⟩, st19⟩ := X13.specialBack hx (y := (⟨"com/example/sluice/sluice/WaitRecorder", "<init>", "(JJ)V"⟩ : MethodName)) rfl hown (mvT hZ (own_w hw 8 rfl)) (mvT hZ (own_w hw 9 rfl)) (mvT hZ (own_w hw 10 rfl)) (by decide) (backOf (W := 1) (rm_rinit l Z a0 hw [] b13 x2 nw wV kV vV h13 n0 O14 A13 ge_b13 F15 F16 F17 F18 S_V E_V A_V hlen) hZ (own_w hw 10 rfl) (own_w hw 7 rfl) (by decide) (by decide)) (g := (mkF m 60 #[.val (.long raw), .second, .val (.long nw), .second, .val (.long lt), .second, .val (.long pc_), .second, .val (.int fl), .val (.long x2), .second, .val (.int (0 : Int32)), .val (.int (0 : Int32)), .val (.int (0 : Int32)), .unset, .unset, .unset, .unset, .unset, .unset, .unset, .unset, .unset, .unset, .unset, .unset, .unset, .unset, .unset, .unset] [(.long nw), (.long x2), (.ref b13), (.ref b13)])) rfl (by rw [hml]; rfl) (Steps.refl _) (a := b13) (argsL := [(.long x2), (.long nw)]) (rest := [(.ref b13)]) (lenOf pd_6 rfl) rfl (by show 2 * 0 + _ ≤ _; exact Nat.le_of_eq rfl) (hb hby at_60) (fun _ _ => ⟨rfl, e13, (by decide : 1 + 6 ≤ _), (by decide : 4 + 42 ≤ _)⟩)
        dsimp only [Pt.U, Pt.locs, Pt.cells, Pt.slots] at X19 l19 y19 z19 st19 hQ19
        subst l19 y19 z19
        obtain ⟨x20, x21, x22, x23, x24, x25, rfl, N26, k27, f28, f29, f30, f31, f32, f33, f34, f35, f36, f37, f38, f39, f40, f41, f42, f43, f44, f45, f46, f47, f48, f49, f50, f51, f52, f53, f54, f55, f56, f57, f58, f59, f60, f61, f62⟩ := hQ19
        have N63 := Fr.app N6 N26
        have ge64 : n0 ≤ x20 := by rw [← O14.1]; exact Nat.le_trans O14.2.1 f28
        have ne65 : b13 ≠ x20 := Nat.ne_of_lt (Nat.lt_of_lt_of_le (Exa.lt A13) f28)
        have ge66 : n0 ≤ x21 := by rw [← O14.1]; exact Nat.le_trans O14.2.1 f29
        have ne67 : b13 ≠ x21 := Nat.ne_of_lt (Nat.lt_of_lt_of_le (Exa.lt A13) f29)
        have ge68 : n0 ≤ x23 := by rw [← O14.1]; exact Nat.le_trans O14.2.1 f30
        have ne69 : b13 ≠ x23 := Nat.ne_of_lt (Nat.lt_of_lt_of_le (Exa.lt A13) f30)
        have ge70 : n0 ≤ x24 := by rw [← O14.1]; exact Nat.le_trans O14.2.1 f31
        have ne71 : b13 ≠ x24 := Nat.ne_of_lt (Nat.lt_of_lt_of_le (Exa.lt A13) f31)
        have O72 := O14.keep k27 (allS ge_b13 all0)
        obtain ⟨cq73, kq73, q73a, q73b, q73c⟩ := isOf hZ rfl f38
        obtain ⟨_, _, ⟨T73, L73, k73, n73⟩, -, X73, ⟨Lc73, hQ73, l73, y73, z73⟩, st73⟩ := X19.virtualBack hx (y := (⟨"com/example/sluice/sluice/WaitRecorder", "intervalSnapshot", "(J)Lcom/example/sluice/sluice/WaitStatistics;"⟩ : MethodName)) (z := (⟨"com/example/sluice/sluice/WaitRecorder", "intervalSnapshot", "(J)Lcom/example/sluice/sluice/WaitStatistics;"⟩ : MethodName)) hown (mvT hZ (own_w hw 82 rfl)) (mvT hZ (own_w hw 83 rfl)) (notFace_of_selects (args := #[]) (mvT hZ (own_w hw 85 rfl))) (mvT hZ (own_w hw 85 rfl)) (mvT hZ (own_w hw 84 rfl)) (by decide) (backOf (W := 0) (rm_isnap l Z a0 hw [] b13 nw x2 (own_fd nw x2) x20 x21 x22 x23 x24 x25 ((own_fd nw x2) * x2) (0 : Int64) nw (0 : Int64) wV kV vV T19.heap n0 O72 f38 f39 f40 f41 f42 f43 f44 f45 f46 f47 f48 f49 f50 f51 f52 f53 f54 f55 f56 f57 f58 f59 f60 f61 f62 ge_b13 ge64 ge68 ne65 ne67 ne69 ne71 f32 f33 f34 f35 f36 f37 S_V E_V A_V hlen rfl) hZ (own_w hw 86 rfl) (own_w hw 7 rfl) (by decide) (by decide)) q73a q73c (g := (mkF m 117 #[.val (.long raw), .second, .val (.long nw), .second, .val (.long lt), .second, .val (.long pc_), .second, .val (.int fl), .val (.long x2), .second, .val (.int (0 : Int32)), .val (.int (0 : Int32)), .val (.int (0 : Int32)), .val (.ref b13), .val (.long nw), .second, .unset, .unset, .unset, .unset, .unset, .unset, .unset, .unset, .unset, .unset, .unset, .unset, .unset] [(.long nw), (.ref b13)])) rfl (by rw [hml]; rfl) (Steps.refl _) (argsL := [(.long nw)]) (rest := []) (lenOf pd_7 rfl) rfl (by show 2 * 0 + _ ≤ _; exact Nat.le_of_eq rfl) (hb hby at_117) (fun _ _ => ⟨rfl, rfl, (by decide : 7 + 5 ≤ _), (by decide : 46 + 35 ≤ _)⟩)
        dsimp only [Pt.U, Pt.locs, Pt.cells, Pt.slots] at X73 l73 y73 z73 st73 hQ73
        subst l73 y73 z73
        obtain ⟨x74, rfl, N75, k76, f77, f78, f79⟩ := hQ73
        have N80 := Fr.app N63 N75
        have ge81 : n0 ≤ x74 := by rw [← O72.1]; exact Nat.le_trans O72.2.1 f77
        have ne82 : b13 ≠ x74 := Nat.ne_of_lt (Nat.lt_of_lt_of_le (Exa.lt f38) f77)
        have ne83 : x20 ≠ x74 := Nat.ne_of_lt (Nat.lt_of_lt_of_le (Exa.lt f43) f77)
        have ne84 : x21 ≠ x74 := Nat.ne_of_lt (Nat.lt_of_lt_of_le (Exa.lt f51) f77)
        have ne85 : x23 ≠ x74 := Nat.ne_of_lt (Nat.lt_of_lt_of_le (Exa.lt f53) f77)
        have ne86 : x24 ≠ x74 := Nat.ne_of_lt (Nat.lt_of_lt_of_le (Exa.lt f61) f77)
        have O87 := O72.keep k76 all0
        obtain ⟨cq88, kq88, q88a, q88b, q88c⟩ := isOf hZ rfl f78
        obtain ⟨_, _, ⟨T88, L88, k88, n88⟩, -, X88, ⟨Lc88, hQ88, l88, y88, z88⟩, st88⟩ := X73.virtualBack hx (y := (⟨"com/example/sluice/sluice/WaitStatistics", "startedAtOnce", "()J"⟩ : MethodName)) (z := (⟨"com/example/sluice/sluice/WaitStatistics", "startedAtOnce", "()J"⟩ : MethodName)) hown (mvT hZ (own_w hw 124 rfl)) (mvT hZ (own_w hw 125 rfl)) (notFace_of_selects (args := #[]) (mvT hZ (own_w hw 127 rfl))) (mvT hZ (own_w hw 127 rfl)) (mvT hZ (own_w hw 126 rfl)) (by decide) (backOf (W := 0) (rm_get l Z a0 hw [] x74 (0 : Int64) T73.heap n0 O87 f79) hZ (own_w hw 128 rfl) (own_w hw 94 rfl) (by decide) (by decide)) q88a q88c (g := (mkF m 120 #[.val (.long raw), .second, .val (.long nw), .second, .val (.long lt), .second, .val (.long pc_), .second, .val (.int fl), .val (.long x2), .second, .val (.int (0 : Int32)), .val (.int (0 : Int32)), .val (.int (0 : Int32)), .val (.ref b13), .val (.long nw), .second, .unset, .unset, .unset, .unset, .unset, .unset, .unset, .unset, .unset, .unset, .unset, .unset, .unset] [(.ref x74)])) rfl (by rw [hml]; rfl) (Steps.refl _) (argsL := []) (rest := []) (lenOf pd_8 rfl) rfl (by show 2 * 0 + _ ≤ _; exact Nat.le_of_eq rfl) (hb hby at_120) (fun _ _ => ⟨rfl, rfl, (by decide : 12 + 0 ≤ _), (by decide : 81 + 0 ≤ _)⟩)
        dsimp only [Pt.U, Pt.locs, Pt.cells, Pt.slots] at X88 l88 y88 z88 st88 hQ88
        subst l88 y88 z88
        obtain ⟨rfl, N89, k90⟩ := hQ88
        have N91 := Fr.app N80 N89
        have f93 := (Exa.keep f38 k76)
        have f94 := (Fld.keep f39 k76 nin0)
        have f95 := (Fld.keep f40 k76 nin0)
        have f96 := (Fld.keep f41 k76 nin0)
        have f97 := (Fld.keep f42 k76 nin0)
        have f98 := (Exa.keep f43 k76)
        have f99 := (Fld.keep f44 k76 nin0)
        have f100 := (Fld.keep f45 k76 nin0)
        have f101 := (Fld.keep f46 k76 nin0)
        have f102 := (Fld.keep f47 k76 nin0)
        have f103 := (Fld.keep f48 k76 nin0)
        have f104 := (Fld.keep f49 k76 nin0)
        have f105 := (Fld.keep f50 k76 nin0)
        have f106 := (Exa.keep f51 k76)
        have f107 := (Arv.keep f52 k76 nin0)
        have f108 := (Exa.keep f53 k76)
        have f109 := (Fld.keep f54 k76 nin0)
        have f110 := (Fld.keep f55 k76 nin0)
        have f111 := (Fld.keep f56 k76 nin0)
        have f112 := (Fld.keep f57 k76 nin0)
        have f113 := (Fld.keep f58 k76 nin0)
        have f114 := (Fld.keep f59 k76 nin0)
        have f115 := (Fld.keep f60 k76 nin0)
        have f116 := (Exa.keep f61 k76)
        have f117 := (Arv.keep f62 k76 nin0)
        obtain ⟨cq92, kq92, q92a, q92b, q92c⟩ := isOf hZ k90 f93
        obtain ⟨_, _, ⟨T92, L92, k92, n92⟩, -, X92, ⟨Lc92, hQ92, l92, y92, z92⟩, st92⟩ := X88.virtualBack hx (y := (⟨"com/example/sluice/sluice/WaitRecorder", "startedAtOnceEarlier", "(J)V"⟩ : MethodName)) (z := (⟨"com/example/sluice/sluice/WaitRecorder", "startedAtOnceEarlier", "(J)V"⟩ : MethodName)) hown (mvT hZ (own_w hw 129 rfl)) (mvT hZ (own_w hw 130 rfl)) (notFace_of_selects (args := #[]) (mvT hZ (own_w hw 132 rfl))) (mvT hZ (own_w hw 132 rfl)) (mvT hZ (own_w hw 131 rfl)) (by decide) (backOf (W := 0) (rm_sae l Z a0 hw [] b13 pc_ x2 (own_fd nw x2) x20 x21 x22 x23 x24 x25 ((own_fd nw x2) * x2) (0 : Int64) nw (0 : Int64) T73.heap n0 O87 f93 f94 f95 f96 f97 f98 f99 f100 f101 f102 f103 f104 f105 f106 f107 f108 f109 f110 f111 f112 f113 f114 f115 f116 f117 ge_b13 ge64 ge68 ne65 ne67 ne69 ne71 f32 f33 f34 f35 f36 f37) hZ (own_w hw 133 rfl) (own_w hw 7 rfl) (by decide) (by decide)) q92a q92c (g := (mkF m 129 #[.val (.long raw), .second, .val (.long nw), .second, .val (.long lt), .second, .val (.long pc_), .second, .val (.int fl), .val (.long x2), .second, .val (.int (0 : Int32)), .val (.int (0 : Int32)), .val (.int (0 : Int32)), .val (.ref b13), .val (.long nw), .second, .val (.long (0 : Int64)), .second, .unset, .unset, .unset, .unset, .unset, .unset, .unset, .unset, .unset, .unset, .unset] [(.long pc_), (.ref b13)])) rfl (by rw [hml]; rfl) (Steps.refl _) (argsL := [(.long pc_)]) (rest := []) (lenOf pd_2 rfl) rfl (by show 2 * 0 + _ ≤ _; exact Nat.le_of_eq rfl) (hb hby at_129) (fun _ _ => ⟨rfl, k90, (by decide : 12 + 0 ≤ _), (by decide : 81 + 0 ≤ _)⟩)
        dsimp only [Pt.U, Pt.locs, Pt.cells, Pt.slots] at X92 l92 y92 z92 st92 hQ92
        subst l92 y92 z92
        obtain ⟨rfl, N118, k119, f120, f121, f122, f123, f124, f125, f126, f127, f128, f129, f130, f131, f132, f133, f134, f135, f136, f137, f138, f139⟩ := hQ92
        have N140 := Fr.app N91 N118
        have O141 := O87.keep k119 (allS ge64 (allS ge68 all0))
        have f143 := (Exa.keep f93 k119)
        have f144 := (Fld.keep f94 k119 (ninS ne65 (ninS ne69 nin0)))
        have f145 := (Fld.keep f95 k119 (ninS ne65 (ninS ne69 nin0)))
        have f146 := (Fld.keep f96 k119 (ninS ne65 (ninS ne69 nin0)))
        have f147 := (Fld.keep f97 k119 (ninS ne65 (ninS ne69 nin0)))
        obtain ⟨cq142, kq142, q142a, q142b, q142c⟩ := isOf hZ rfl f143
        obtain ⟨_, _, ⟨T142, L142, k142, n142⟩, -, X142, ⟨Lc142, hQ142, l142, y142, z142⟩, st142⟩ := X92.virtualBack hx (y := (⟨"com/example/sluice/sluice/WaitRecorder", "intervalSnapshot", "(J)Lcom/example/sluice/sluice/WaitStatistics;"⟩ : MethodName)) (z := (⟨"com/example/sluice/sluice/WaitRecorder", "intervalSnapshot", "(J)Lcom/example/sluice/sluice/WaitStatistics;"⟩ : MethodName)) hown (mvT hZ (own_w hw 82 rfl)) (mvT hZ (own_w hw 83 rfl)) (notFace_of_selects (args := #[]) (mvT hZ (own_w hw 85 rfl))) (mvT hZ (own_w hw 85 rfl)) (mvT hZ (own_w hw 84 rfl)) (by decide) (backOf (W := 0) (rm_isnap l Z a0 hw [] b13 nw x2 (own_fd nw x2) x20 x21 x22 x23 x24 x25 ((own_fd nw x2) * x2) ((0 : Int64) + pc_) nw ((0 : Int64) + pc_) wV kV vV T92.heap n0 O141 f143 f144 f145 f146 f147 f120 f121 f122 f123 f124 f125 f126 f127 f128 f129 f130 f131 f132 f133 f134 f135 f136 f137 f138 f139 ge_b13 ge64 ge68 ne65 ne67 ne69 ne71 f32 f33 f34 f35 f36 f37 S_V E_V A_V hlen rfl) hZ (own_w hw 86 rfl) (own_w hw 7 rfl) (by decide) (by decide)) q142a q142c (g := (mkF m 136 #[.val (.long raw), .second, .val (.long nw), .second, .val (.long lt), .second, .val (.long pc_), .second, .val (.int fl), .val (.long x2), .second, .val (.int (0 : Int32)), .val (.int (0 : Int32)), .val (.int (0 : Int32)), .val (.ref b13), .val (.long nw), .second, .val (.long (0 : Int64)), .second, .unset, .unset, .unset, .unset, .unset, .unset, .unset, .unset, .unset, .unset, .unset] [(.long nw), (.ref b13)])) rfl (by rw [hml]; rfl) (Steps.refl _) (argsL := [(.long nw)]) (rest := []) (lenOf pd_7 rfl) rfl (by show 2 * 0 + _ ≤ _; exact Nat.le_of_eq rfl) (hb hby at_136) (fun _ _ => ⟨rfl, rfl, (by decide : 12 + 5 ≤ _), (by decide : 81 + 35 ≤ _)⟩)
        dsimp only [Pt.U, Pt.locs, Pt.cells, Pt.slots] at X142 l142 y142 z142 st142 hQ142
        subst l142 y142 z142
        obtain ⟨x148, rfl, N149, k150, f151, f152, f153⟩ := hQ142
        have N154 := Fr.app N140 N149
        have ge155 : n0 ≤ x148 := by rw [← O141.1]; exact Nat.le_trans O141.2.1 f151
        have ne156 : b13 ≠ x148 := Nat.ne_of_lt (Nat.lt_of_lt_of_le (Exa.lt f143) f151)
        have ne157 : x20 ≠ x148 := Nat.ne_of_lt (Nat.lt_of_lt_of_le (Exa.lt f120) f151)
        have ne158 : x21 ≠ x148 := Nat.ne_of_lt (Nat.lt_of_lt_of_le (Exa.lt f128) f151)
        have ne159 : x23 ≠ x148 := Nat.ne_of_lt (Nat.lt_of_lt_of_le (Exa.lt f130) f151)
        have ne160 : x24 ≠ x148 := Nat.ne_of_lt (Nat.lt_of_lt_of_le (Exa.lt f138) f151)
        have f161 := (Exa.keep f78 k119)
        have ne162 : x74 ≠ x148 := Nat.ne_of_lt (Nat.lt_of_lt_of_le (Exa.lt f161) f151)
        have O163 := O141.keep k150 all0
        obtain ⟨cq164, kq164, q164a, q164b, q164c⟩ := isOf hZ rfl f152
        obtain ⟨_, _, ⟨T164, L164, k164, n164⟩, -, X164, ⟨Lc164, hQ164, l164, y164, z164⟩, st164⟩ := X142.virtualBack hx (y := (⟨"com/example/sluice/sluice/WaitStatistics", "startedAtOnce", "()J"⟩ : MethodName)) (z := (⟨"com/example/sluice/sluice/WaitStatistics", "startedAtOnce", "()J"⟩ : MethodName)) hown (mvT hZ (own_w hw 124 rfl)) (mvT hZ (own_w hw 125 rfl)) (notFace_of_selects (args := #[]) (mvT hZ (own_w hw 127 rfl))) (mvT hZ (own_w hw 127 rfl)) (mvT hZ (own_w hw 126 rfl)) (by decide) (backOf (W := 0) (rm_get l Z a0 hw [] x148 ((0 : Int64) + pc_) T142.heap n0 O163 f153) hZ (own_w hw 128 rfl) (own_w hw 94 rfl) (by decide) (by decide)) q164a q164c (g := (mkF m 139 #[.val (.long raw), .second, .val (.long nw), .second, .val (.long lt), .second, .val (.long pc_), .second, .val (.int fl), .val (.long x2), .second, .val (.int (0 : Int32)), .val (.int (0 : Int32)), .val (.int (0 : Int32)), .val (.ref b13), .val (.long nw), .second, .val (.long (0 : Int64)), .second, .unset, .unset, .unset, .unset, .unset, .unset, .unset, .unset, .unset, .unset, .unset] [(.ref x148)])) rfl (by rw [hml]; rfl) (Steps.refl _) (argsL := []) (rest := []) (lenOf pd_8 rfl) rfl (by show 2 * 0 + _ ≤ _; exact Nat.le_of_eq rfl) (hb hby at_139) (fun _ _ => ⟨rfl, rfl, (by decide : 17 + 0 ≤ _), (by decide : 116 + 0 ≤ _)⟩)
        dsimp only [Pt.U, Pt.locs, Pt.cells, Pt.slots] at X164 l164 y164 z164 st164 hQ164
        subst l164 y164 z164
        obtain ⟨rfl, N165, k166⟩ := hQ164
        have N167 := Fr.app N154 N165
        have f169 := (Exa.keep f143 k150)
        have f170 := (Fld.keep f147 k150 nin0)
        have f171 := (Exa.keep f130 k150)
        have f172 := (Fld.keep f131 k150 nin0)
        have f173 := (Fld.keep f132 k150 nin0)
        have f174 := (Fld.keep f133 k150 nin0)
        have f175 := (Fld.keep f134 k150 nin0)
        have f176 := (Fld.keep f135 k150 nin0)
        have f177 := (Fld.keep f136 k150 nin0)
        have f178 := (Fld.keep f137 k150 nin0)
        have f179 := (Exa.keep f138 k150)
        have f180 := (Arv.keep f139 k150 nin0)
        obtain ⟨cq168, kq168, q168a, q168b, q168c⟩ := isOf hZ k166 f169
        obtain ⟨_, _, ⟨T168, L168, k168, n168⟩, -, X168, ⟨Lc168, hQ168, l168, y168, z168⟩, st168⟩ := X164.virtualBack hx (y := (⟨"com/example/sluice/sluice/WaitRecorder", "sinceResetSnapshot", "()Lcom/example/sluice/sluice/WaitStatistics;"⟩ : MethodName)) (z := (⟨"com/example/sluice/sluice/WaitRecorder", "sinceResetSnapshot", "()Lcom/example/sluice/sluice/WaitStatistics;"⟩ : MethodName)) hown (mvT hZ (own_w hw 134 rfl)) (mvT hZ (own_w hw 135 rfl)) (notFace_of_selects (args := #[]) (mvT hZ (own_w hw 137 rfl))) (mvT hZ (own_w hw 137 rfl)) (mvT hZ (own_w hw 136 rfl)) (by decide) (backOf (W := 0) (rm_ssnap l Z a0 hw [] b13 x23 nw ((0 : Int64) + pc_) x24 x25 T142.heap n0 O163 f170 f171 f172 f173 f174 f175 f176 f177 f178 f179 f180) hZ (own_w hw 138 rfl) (own_w hw 7 rfl) (by decide) (by decide)) q168a q168c (g := (mkF m 146 #[.val (.long raw), .second, .val (.long nw), .second, .val (.long lt), .second, .val (.long pc_), .second, .val (.int fl), .val (.long x2), .second, .val (.int (0 : Int32)), .val (.int (0 : Int32)), .val (.int (0 : Int32)), .val (.ref b13), .val (.long nw), .second, .val (.long (0 : Int64)), .second, .val (.long ((0 : Int64) + pc_)), .second, .unset, .unset, .unset, .unset, .unset, .unset, .unset, .unset, .unset] [(.ref b13)])) rfl (by rw [hml]; rfl) (Steps.refl _) (argsL := []) (rest := []) (lenOf pd_5 rfl) rfl (by show 2 * 0 + _ ≤ _; exact Nat.le_of_eq rfl) (hb hby at_146) (fun _ _ => ⟨rfl, k166, (by decide : 17 + 2 ≤ _), (by decide : 116 + 14 ≤ _)⟩)
        dsimp only [Pt.U, Pt.locs, Pt.cells, Pt.slots] at X168 l168 y168 z168 st168 hQ168
        subst l168 y168 z168
        obtain ⟨x181, rfl, N182, k183, f184, f185, f186⟩ := hQ168
        have N187 := Fr.app N167 N182
        have ge188 : n0 ≤ x181 := by rw [← O163.1]; exact Nat.le_trans O163.2.1 f184
        have ne189 : b13 ≠ x181 := Nat.ne_of_lt (Nat.lt_of_lt_of_le (Exa.lt f169) f184)
        have f190 := (Exa.keep f120 k150)
        have ne191 : x20 ≠ x181 := Nat.ne_of_lt (Nat.lt_of_lt_of_le (Exa.lt f190) f184)
        have f192 := (Exa.keep f128 k150)
        have ne193 : x21 ≠ x181 := Nat.ne_of_lt (Nat.lt_of_lt_of_le (Exa.lt f192) f184)
        have ne194 : x23 ≠ x181 := Nat.ne_of_lt (Nat.lt_of_lt_of_le (Exa.lt f171) f184)
        have ne195 : x24 ≠ x181 := Nat.ne_of_lt (Nat.lt_of_lt_of_le (Exa.lt f179) f184)
        have f196 := (Exa.keep f161 k150)
        have ne197 : x74 ≠ x181 := Nat.ne_of_lt (Nat.lt_of_lt_of_le (Exa.lt f196) f184)
        have ne198 : x148 ≠ x181 := Nat.ne_of_lt (Nat.lt_of_lt_of_le (Exa.lt f152) f184)
        have O199 := O163.keep k183 all0
        obtain ⟨cq200, kq200, q200a, q200b, q200c⟩ := isOf hZ rfl f185
        obtain ⟨_, _, ⟨T200, L200, k200, n200⟩, -, X200, ⟨Lc200, hQ200, l200, y200, z200⟩, st200⟩ := X168.virtualBack hx (y := (⟨"com/example/sluice/sluice/WaitStatistics", "startedAtOnce", "()J"⟩ : MethodName)) (z := (⟨"com/example/sluice/sluice/WaitStatistics", "startedAtOnce", "()J"⟩ : MethodName)) hown (mvT hZ (own_w hw 124 rfl)) (mvT hZ (own_w hw 125 rfl)) (notFace_of_selects (args := #[]) (mvT hZ (own_w hw 127 rfl))) (mvT hZ (own_w hw 127 rfl)) (mvT hZ (own_w hw 126 rfl)) (by decide) (backOf (W := 0) (rm_get l Z a0 hw [] x181 ((0 : Int64) + pc_) T168.heap n0 O199 f186) hZ (own_w hw 128 rfl) (own_w hw 94 rfl) (by decide) (by decide)) q200a q200c (g := (mkF m 149 #[.val (.long raw), .second, .val (.long nw), .second, .val (.long lt), .second, .val (.long pc_), .second, .val (.int fl), .val (.long x2), .second, .val (.int (0 : Int32)), .val (.int (0 : Int32)), .val (.int (0 : Int32)), .val (.ref b13), .val (.long nw), .second, .val (.long (0 : Int64)), .second, .val (.long ((0 : Int64) + pc_)), .second, .unset, .unset, .unset, .unset, .unset, .unset, .unset, .unset, .unset] [(.ref x181)])) rfl (by rw [hml]; rfl) (Steps.refl _) (argsL := []) (rest := []) (lenOf pd_8 rfl) rfl (by show 2 * 0 + _ ≤ _; exact Nat.le_of_eq rfl) (hb hby at_149) (fun _ _ => ⟨rfl, rfl, (by decide : 19 + 0 ≤ _), (by decide : 130 + 0 ≤ _)⟩)
        dsimp only [Pt.U, Pt.locs, Pt.cells, Pt.slots] at X200 l200 y200 z200 st200 hQ200
        subst l200 y200 z200
        obtain ⟨rfl, N201, k202⟩ := hQ200
        have N203 := Fr.app N187 N201
        have S204 : ∀ t, Steps p.tables e below (T200.setTop (mkF m 271 #[.val (.long raw), .second, .val (.long nw), .second, .val (.long lt), .second, .val (.long pc_), .second, .val (.int fl), .val (.long x2), .second, .val (.int (0 : Int32)), .val (.int (0 : Int32)), .val (.int (0 : Int32)), .val (.ref b13), .val (.long nw), .second, .val (.long (0 : Int64)), .second, .val (.long ((0 : Int64) + pc_)), .second, .val (.long ((0 : Int64) + pc_)), .second, .val (.long (0 : Int64)), .second, .val (.long (0 : Int64)), .second, .val (.int (1 : Int32)), .val (.long ((0 : Int64) + pc_)), .second] [(.int (1 : Int32))])) t → Steps p.tables e below (s₁.setTop (mkF m 0 #[.val (.long raw), .second, .val (.long nw), .second, .val (.long lt), .second, .val (.long pc_), .second, .val (.int fl), .unset, .unset, .unset, .unset, .unset, .unset, .unset, .unset, .unset, .unset, .unset, .unset, .unset, .unset, .unset, .unset, .unset, .unset, .unset, .unset, .unset] [])) t := by
          intro t kt
          refine S11 t ?_
          refine XS.ifYes X1.here hx rfl (pc0 := 43) (pc' := 50) rfl (hb hby at_43) rfl ((if0 _ _).trans (teq (c12 : (fl &&& (4 : Int32)) = (0 : Int32))).1) (by decide) (by decide) ?_
          refine XS.iconst X1.here hx rfl (hb hby at_50) ?_
          refine XS.istore X1.here hx rfl (hb hby at_51) rfl (l' := #[.val (.long raw), .second, .val (.long nw), .second, .val (.long lt), .second, .val (.long pc_), .second, .val (.int fl), .val (.long x2), .second, .val (.int (0 : Int32)), .val (.int (0 : Int32)), .val (.int (0 : Int32)), .unset, .unset, .unset, .unset, .unset, .unset, .unset, .unset, .unset, .unset, .unset, .unset, .unset, .unset, .unset, .unset]) rfl ?_
          show Steps p.tables e below (T1.setTop (mkF m 53 #[.val (.long raw), .second, .val (.long nw), .second, .val (.long lt), .second, .val (.long pc_), .second, .val (.int fl), .val (.long x2), .second, .val (.int (0 : Int32)), .val (.int (0 : Int32)), .val (.int (0 : Int32)), .unset, .unset, .unset, .unset, .unset, .unset, .unset, .unset, .unset, .unset, .unset, .unset, .unset, .unset, .unset, .unset] [])) _
          refine st13 _ ?_
          refine XS.dup X13.here hx rfl (hb hby at_56) rfl rfl ?_
          refine XS.lload X13.here hx rfl (hb hby at_57) rfl ?_
          refine XS.lloadN X13.here hx rfl (hb hby at_59) rfl ?_
          show Steps p.tables e below (T13.setTop (mkF m 60 #[.val (.long raw), .second, .val (.long nw), .second, .val (.long lt), .second, .val (.long pc_), .second, .val (.int fl), .val (.long x2), .second, .val (.int (0 : Int32)), .val (.int (0 : Int32)), .val (.int (0 : Int32)), .unset, .unset, .unset, .unset, .unset, .unset, .unset, .unset, .unset, .unset, .unset, .unset, .unset, .unset, .unset, .unset] [(.long nw), (.long x2), (.ref b13), (.ref b13)])) _
          refine st19.trans ?_
          refine XS.astore X19.here hx rfl (hb hby at_63) rfl rfl (l' := #[.val (.long raw), .second, .val (.long nw), .second, .val (.long lt), .second, .val (.long pc_), .second, .val (.int fl), .val (.long x2), .second, .val (.int (0 : Int32)), .val (.int (0 : Int32)), .val (.int (0 : Int32)), .val (.ref b13), .unset, .unset, .unset, .unset, .unset, .unset, .unset, .unset, .unset, .unset, .unset, .unset, .unset, .unset, .unset]) rfl ?_
          refine XS.iload X19.here hx rfl (hb hby at_65) rfl ?_
          refine XS.ifYes X19.here hx rfl (pc0 := 67) (pc' := 76) rfl (hb hby at_67) rfl ((if0 _ _).trans (teq ((by decide) : (0 : Int32) = (0 : Int32))).1) (by decide) (by decide) ?_
          refine XS.iload X19.here hx rfl (hb hby at_76) rfl ?_
          refine XS.ifYes X19.here hx rfl (pc0 := 78) (pc' := 88) rfl (hb hby at_78) rfl ((if0 _ _).trans (teq ((by decide) : (0 : Int32) = (0 : Int32))).1) (by decide) (by decide) ?_
          show Steps p.tables e below (T19.setTop (mkF m 88 #[.val (.long raw), .second, .val (.long nw), .second, .val (.long lt), .second, .val (.long pc_), .second, .val (.int fl), .val (.long x2), .second, .val (.int (0 : Int32)), .val (.int (0 : Int32)), .val (.int (0 : Int32)), .val (.ref b13), .unset, .unset, .unset, .unset, .unset, .unset, .unset, .unset, .unset, .unset, .unset, .unset, .unset, .unset, .unset] [])) _
          refine XS.iload X19.here hx rfl (hb hby at_88) rfl ?_
          refine XS.ifYes X19.here hx rfl (pc0 := 90) (pc' := 100) rfl (hb hby at_90) rfl ((if0 _ _).trans (teq ((by decide) : (0 : Int32) = (0 : Int32))).1) (by decide) (by decide) ?_
          refine XS.iload X19.here hx rfl (hb hby at_100) rfl ?_
          refine XS.ifYes X19.here hx rfl (pc0 := 102) (pc' := 110) rfl (hb hby at_102) rfl ((if0 _ _).trans (teq ((by decide) : (0 : Int32) = (0 : Int32))).1) (by decide) (by decide) ?_
          refine XS.lloadN X19.here hx rfl (hb hby at_110) rfl ?_
          refine XS.lstore X19.here hx rfl (hb hby at_111) rfl (l' := #[.val (.long raw), .second, .val (.long nw), .second, .val (.long lt), .second, .val (.long pc_), .second, .val (.int fl), .val (.long x2), .second, .val (.int (0 : Int32)), .val (.int (0 : Int32)), .val (.int (0 : Int32)), .val (.ref b13), .val (.long nw), .second, .unset, .unset, .unset, .unset, .unset, .unset, .unset, .unset, .unset, .unset, .unset, .unset, .unset]) rfl ?_
          show Steps p.tables e below (T19.setTop (mkF m 113 #[.val (.long raw), .second, .val (.long nw), .second, .val (.long lt), .second, .val (.long pc_), .second, .val (.int fl), .val (.long x2), .second, .val (.int (0 : Int32)), .val (.int (0 : Int32)), .val (.int (0 : Int32)), .val (.ref b13), .val (.long nw), .second, .unset, .unset, .unset, .unset, .unset, .unset, .unset, .unset, .unset, .unset, .unset, .unset, .unset] [])) _
          refine XS.aload X19.here hx rfl (hb hby at_113) rfl rfl ?_
          refine XS.lload X19.here hx rfl (hb hby at_115) rfl ?_
          show Steps p.tables e below (T19.setTop (mkF m 117 #[.val (.long raw), .second, .val (.long nw), .second, .val (.long lt), .second, .val (.long pc_), .second, .val (.int fl), .val (.long x2), .second, .val (.int (0 : Int32)), .val (.int (0 : Int32)), .val (.int (0 : Int32)), .val (.ref b13), .val (.long nw), .second, .unset, .unset, .unset, .unset, .unset, .unset, .unset, .unset, .unset, .unset, .unset, .unset, .unset] [(.long nw), (.ref b13)])) _
          refine st73.trans ?_
          show Steps p.tables e below (T73.setTop (mkF m 120 #[.val (.long raw), .second, .val (.long nw), .second, .val (.long lt), .second, .val (.long pc_), .second, .val (.int fl), .val (.long x2), .second, .val (.int (0 : Int32)), .val (.int (0 : Int32)), .val (.int (0 : Int32)), .val (.ref b13), .val (.long nw), .second, .unset, .unset, .unset, .unset, .unset, .unset, .unset, .unset, .unset, .unset, .unset, .unset, .unset] [(.ref x74)])) _
          refine st88.trans ?_
          refine XS.lstore X88.here hx rfl (hb hby at_123) rfl (l' := #[.val (.long raw), .second, .val (.long nw), .second, .val (.long lt), .second, .val (.long pc_), .second, .val (.int fl), .val (.long x2), .second, .val (.int (0 : Int32)), .val (.int (0 : Int32)), .val (.int (0 : Int32)), .val (.ref b13), .val (.long nw), .second, .val (.long (0 : Int64)), .second, .unset, .unset, .unset, .unset, .unset, .unset, .unset, .unset, .unset, .unset, .unset]) rfl ?_
          refine XS.aload X88.here hx rfl (hb hby at_125) rfl rfl ?_
          refine XS.lload X88.here hx rfl (hb hby at_127) rfl ?_
          show Steps p.tables e below (T88.setTop (mkF m 129 #[.val (.long raw), .second, .val (.long nw), .second, .val (.long lt), .second, .val (.long pc_), .second, .val (.int fl), .val (.long x2), .second, .val (.int (0 : Int32)), .val (.int (0 : Int32)), .val (.int (0 : Int32)), .val (.ref b13), .val (.long nw), .second, .val (.long (0 : Int64)), .second, .unset, .unset, .unset, .unset, .unset, .unset, .unset, .unset, .unset, .unset, .unset] [(.long pc_), (.ref b13)])) _
          refine st92.trans ?_
          refine XS.aload X92.here hx rfl (hb hby at_132) rfl rfl ?_
          refine XS.lload X92.here hx rfl (hb hby at_134) rfl ?_
          show Steps p.tables e below (T92.setTop (mkF m 136 #[.val (.long raw), .second, .val (.long nw), .second, .val (.long lt), .second, .val (.long pc_), .second, .val (.int fl), .val (.long x2), .second, .val (.int (0 : Int32)), .val (.int (0 : Int32)), .val (.int (0 : Int32)), .val (.ref b13), .val (.long nw), .second, .val (.long (0 : Int64)), .second, .unset, .unset, .unset, .unset, .unset, .unset, .unset, .unset, .unset, .unset, .unset] [(.long nw), (.ref b13)])) _
          refine st142.trans ?_
          show Steps p.tables e below (T142.setTop (mkF m 139 #[.val (.long raw), .second, .val (.long nw), .second, .val (.long lt), .second, .val (.long pc_), .second, .val (.int fl), .val (.long x2), .second, .val (.int (0 : Int32)), .val (.int (0 : Int32)), .val (.int (0 : Int32)), .val (.ref b13), .val (.long nw), .second, .val (.long (0 : Int64)), .second, .unset, .unset, .unset, .unset, .unset, .unset, .unset, .unset, .unset, .unset, .unset] [(.ref x148)])) _
          refine st164.trans ?_
          refine XS.lstore X164.here hx rfl (hb hby at_142) rfl (l' := #[.val (.long raw), .second, .val (.long nw), .second, .val (.long lt), .second, .val (.long pc_), .second, .val (.int fl), .val (.long x2), .second, .val (.int (0 : Int32)), .val (.int (0 : Int32)), .val (.int (0 : Int32)), .val (.ref b13), .val (.long nw), .second, .val (.long (0 : Int64)), .second, .val (.long ((0 : Int64) + pc_)), .second, .unset, .unset, .unset, .unset, .unset, .unset, .unset, .unset, .unset]) rfl ?_
          refine XS.aload X164.here hx rfl (hb hby at_144) rfl rfl ?_
          show Steps p.tables e below (T164.setTop (mkF m 146 #[.val (.long raw), .second, .val (.long nw), .second, .val (.long lt), .second, .val (.long pc_), .second, .val (.int fl), .val (.long x2), .second, .val (.int (0 : Int32)), .val (.int (0 : Int32)), .val (.int (0 : Int32)), .val (.ref b13), .val (.long nw), .second, .val (.long (0 : Int64)), .second, .val (.long ((0 : Int64) + pc_)), .second, .unset, .unset, .unset, .unset, .unset, .unset, .unset, .unset, .unset] [(.ref b13)])) _
          refine st168.trans ?_
          show Steps p.tables e below (T168.setTop (mkF m 149 #[.val (.long raw), .second, .val (.long nw), .second, .val (.long lt), .second, .val (.long pc_), .second, .val (.int fl), .val (.long x2), .second, .val (.int (0 : Int32)), .val (.int (0 : Int32)), .val (.int (0 : Int32)), .val (.ref b13), .val (.long nw), .second, .val (.long (0 : Int64)), .second, .val (.long ((0 : Int64) + pc_)), .second, .unset, .unset, .unset, .unset, .unset, .unset, .unset, .unset, .unset] [(.ref x181)])) _
          refine st200.trans ?_
          refine XS.lstore X200.here hx rfl (hb hby at_152) rfl (l' := #[.val (.long raw), .second, .val (.long nw), .second, .val (.long lt), .second, .val (.long pc_), .second, .val (.int fl), .val (.long x2), .second, .val (.int (0 : Int32)), .val (.int (0 : Int32)), .val (.int (0 : Int32)), .val (.ref b13), .val (.long nw), .second, .val (.long (0 : Int64)), .second, .val (.long ((0 : Int64) + pc_)), .second, .val (.long ((0 : Int64) + pc_)), .second, .unset, .unset, .unset, .unset, .unset, .unset, .unset]) rfl ?_
          refine XS.iload X200.here hx rfl (hb hby at_154) rfl ?_
          refine XS.ifYes X200.here hx rfl (pc0 := 156) (pc' := 163) rfl (hb hby at_156) rfl ((if0 _ _).trans (teq ((by decide) : (0 : Int32) = (0 : Int32))).1) (by decide) (by decide) ?_
          refine XS.lconst X200.here hx rfl (hb hby at_163) ?_
          refine XS.lstore X200.here hx rfl (hb hby at_164) rfl (l' := #[.val (.long raw), .second, .val (.long nw), .second, .val (.long lt), .second, .val (.long pc_), .second, .val (.int fl), .val (.long x2), .second, .val (.int (0 : Int32)), .val (.int (0 : Int32)), .val (.int (0 : Int32)), .val (.ref b13), .val (.long nw), .second, .val (.long (0 : Int64)), .second, .val (.long ((0 : Int64) + pc_)), .second, .val (.long ((0 : Int64) + pc_)), .second, .val (.long (0 : Int64)), .second, .unset, .unset, .unset, .unset, .unset]) rfl ?_
          show Steps p.tables e below (T200.setTop (mkF m 166 #[.val (.long raw), .second, .val (.long nw), .second, .val (.long lt), .second, .val (.long pc_), .second, .val (.int fl), .val (.long x2), .second, .val (.int (0 : Int32)), .val (.int (0 : Int32)), .val (.int (0 : Int32)), .val (.ref b13), .val (.long nw), .second, .val (.long (0 : Int64)), .second, .val (.long ((0 : Int64) + pc_)), .second, .val (.long ((0 : Int64) + pc_)), .second, .val (.long (0 : Int64)), .second, .unset, .unset, .unset, .unset, .unset] [])) _
          refine XS.iload X200.here hx rfl (hb hby at_166) rfl ?_
          refine XS.ifYes X200.here hx rfl (pc0 := 168) (pc' := 175) rfl (hb hby at_168) rfl ((if0 _ _).trans (teq ((by decide) : (0 : Int32) = (0 : Int32))).1) (by decide) (by decide) ?_
          refine XS.lconst X200.here hx rfl (hb hby at_175) ?_
          refine XS.lstore X200.here hx rfl (hb hby at_176) rfl (l' := #[.val (.long raw), .second, .val (.long nw), .second, .val (.long lt), .second, .val (.long pc_), .second, .val (.int fl), .val (.long x2), .second, .val (.int (0 : Int32)), .val (.int (0 : Int32)), .val (.int (0 : Int32)), .val (.ref b13), .val (.long nw), .second, .val (.long (0 : Int64)), .second, .val (.long ((0 : Int64) + pc_)), .second, .val (.long ((0 : Int64) + pc_)), .second, .val (.long (0 : Int64)), .second, .val (.long (0 : Int64)), .second, .unset, .unset, .unset]) rfl ?_
          refine XS.iload X200.here hx rfl (hb hby at_178) rfl ?_
          refine XS.ifYes X200.here hx rfl (pc0 := 180) (pc' := 208) rfl (hb hby at_180) rfl ((if0 _ _).trans (teq ((by decide) : (0 : Int32) = (0 : Int32))).1) (by decide) (by decide) ?_
          show Steps p.tables e below (T200.setTop (mkF m 208 #[.val (.long raw), .second, .val (.long nw), .second, .val (.long lt), .second, .val (.long pc_), .second, .val (.int fl), .val (.long x2), .second, .val (.int (0 : Int32)), .val (.int (0 : Int32)), .val (.int (0 : Int32)), .val (.ref b13), .val (.long nw), .second, .val (.long (0 : Int64)), .second, .val (.long ((0 : Int64) + pc_)), .second, .val (.long ((0 : Int64) + pc_)), .second, .val (.long (0 : Int64)), .second, .val (.long (0 : Int64)), .second, .unset, .unset, .unset] [])) _
          refine XS.lload X200.here hx rfl (hb hby at_208) rfl ?_
          refine XS.lload X200.here hx rfl (hb hby at_210) rfl ?_
          refine XS.lcmp X200.here hx rfl (hb hby at_212) rfl ?_
          refine XS.ifNo X200.here hx rfl (hb hby at_213) rfl ((if0 _ _).trans (teq ((lw_eq (0 : Int64) (0 : Int64)).mpr ((by decide) : (0 : Int64) = (0 : Int64)) : (lcmpW (0 : Int64) (0 : Int64)) = (0 : Int32))).2) ?_
          refine XS.iconst X200.here hx rfl (hb hby at_216) ?_
          refine XS.goto X200.here hx rfl (pc0 := 217) (pc' := 221) rfl (hb hby at_217) (by decide) (by decide) ?_
          show Steps p.tables e below (T200.setTop (mkF m 221 #[.val (.long raw), .second, .val (.long nw), .second, .val (.long lt), .second, .val (.long pc_), .second, .val (.int fl), .val (.long x2), .second, .val (.int (0 : Int32)), .val (.int (0 : Int32)), .val (.int (0 : Int32)), .val (.ref b13), .val (.long nw), .second, .val (.long (0 : Int64)), .second, .val (.long ((0 : Int64) + pc_)), .second, .val (.long ((0 : Int64) + pc_)), .second, .val (.long (0 : Int64)), .second, .val (.long (0 : Int64)), .second, .unset, .unset, .unset] [(.int (1 : Int32))])) _
          refine XS.istore X200.here hx rfl (hb hby at_221) rfl (l' := #[.val (.long raw), .second, .val (.long nw), .second, .val (.long lt), .second, .val (.long pc_), .second, .val (.int fl), .val (.long x2), .second, .val (.int (0 : Int32)), .val (.int (0 : Int32)), .val (.int (0 : Int32)), .val (.ref b13), .val (.long nw), .second, .val (.long (0 : Int64)), .second, .val (.long ((0 : Int64) + pc_)), .second, .val (.long ((0 : Int64) + pc_)), .second, .val (.long (0 : Int64)), .second, .val (.long (0 : Int64)), .second, .val (.int (1 : Int32)), .unset, .unset]) rfl ?_
          refine XS.iload X200.here hx rfl (hb hby at_223) rfl ?_
          refine XS.ifYes X200.here hx rfl (pc0 := 225) (pc' := 232) rfl (hb hby at_225) rfl ((if0 _ _).trans (teq ((by decide) : (0 : Int32) = (0 : Int32))).1) (by decide) (by decide) ?_
          refine XS.lload X200.here hx rfl (hb hby at_232) rfl ?_
          refine XS.lload X200.here hx rfl (hb hby at_234) rfl ?_
          refine XS.ladd X200.here hx rfl (hb hby at_236) rfl ?_
          show Steps p.tables e below (T200.setTop (mkF m 237 #[.val (.long raw), .second, .val (.long nw), .second, .val (.long lt), .second, .val (.long pc_), .second, .val (.int fl), .val (.long x2), .second, .val (.int (0 : Int32)), .val (.int (0 : Int32)), .val (.int (0 : Int32)), .val (.ref b13), .val (.long nw), .second, .val (.long (0 : Int64)), .second, .val (.long ((0 : Int64) + pc_)), .second, .val (.long ((0 : Int64) + pc_)), .second, .val (.long (0 : Int64)), .second, .val (.long (0 : Int64)), .second, .val (.int (1 : Int32)), .unset, .unset] [(.long (0 : Int64))])) _
          refine XS.lload X200.here hx rfl (hb hby at_237) rfl ?_
          refine XS.ladd X200.here hx rfl (hb hby at_239) rfl ?_
          refine XS.lstore X200.here hx rfl (hb hby at_240) rfl (l' := #[.val (.long raw), .second, .val (.long nw), .second, .val (.long lt), .second, .val (.long pc_), .second, .val (.int fl), .val (.long x2), .second, .val (.int (0 : Int32)), .val (.int (0 : Int32)), .val (.int (0 : Int32)), .val (.ref b13), .val (.long nw), .second, .val (.long (0 : Int64)), .second, .val (.long ((0 : Int64) + pc_)), .second, .val (.long ((0 : Int64) + pc_)), .second, .val (.long (0 : Int64)), .second, .val (.long (0 : Int64)), .second, .val (.int (1 : Int32)), .val (.long ((0 : Int64) + pc_)), .second]) rfl ?_
          refine XS.iload X200.here hx rfl (hb hby at_242) rfl ?_
          refine XS.ifNo X200.here hx rfl (hb hby at_244) rfl ((if0 _ _).trans (feq ((by decide) : ¬ ((1 : Int32) = (0 : Int32)))).1) ?_
          refine XS.lload X200.here hx rfl (hb hby at_247) rfl ?_
          show Steps p.tables e below (T200.setTop (mkF m 249 #[.val (.long raw), .second, .val (.long nw), .second, .val (.long lt), .second, .val (.long pc_), .second, .val (.int fl), .val (.long x2), .second, .val (.int (0 : Int32)), .val (.int (0 : Int32)), .val (.int (0 : Int32)), .val (.ref b13), .val (.long nw), .second, .val (.long (0 : Int64)), .second, .val (.long ((0 : Int64) + pc_)), .second, .val (.long ((0 : Int64) + pc_)), .second, .val (.long (0 : Int64)), .second, .val (.long (0 : Int64)), .second, .val (.int (1 : Int32)), .val (.long ((0 : Int64) + pc_)), .second] [(.long ((0 : Int64) + pc_))])) _
          refine XS.lload X200.here hx rfl (hb hby at_249) rfl ?_
          refine XS.lload X200.here hx rfl (hb hby at_251) rfl ?_
          refine XS.ladd X200.here hx rfl (hb hby at_253) rfl ?_
          refine XS.lcmp X200.here hx rfl (hb hby at_254) rfl ?_
          refine XS.ifNo X200.here hx rfl (hb hby at_255) rfl ((if0 _ _).trans (teq ((lw_eq ((0 : Int64) + pc_) ((0 : Int64) + pc_)).mpr (rfl : ((0 : Int64) + pc_) = ((0 : Int64) + pc_)) : (lcmpW ((0 : Int64) + pc_) ((0 : Int64) + pc_)) = (0 : Int32))).2) ?_
          refine XS.lload X200.here hx rfl (hb hby at_258) rfl ?_
          show Steps p.tables e below (T200.setTop (mkF m 260 #[.val (.long raw), .second, .val (.long nw), .second, .val (.long lt), .second, .val (.long pc_), .second, .val (.int fl), .val (.long x2), .second, .val (.int (0 : Int32)), .val (.int (0 : Int32)), .val (.int (0 : Int32)), .val (.ref b13), .val (.long nw), .second, .val (.long (0 : Int64)), .second, .val (.long ((0 : Int64) + pc_)), .second, .val (.long ((0 : Int64) + pc_)), .second, .val (.long (0 : Int64)), .second, .val (.long (0 : Int64)), .second, .val (.int (1 : Int32)), .val (.long ((0 : Int64) + pc_)), .second] [(.long ((0 : Int64) + pc_))])) _
          refine XS.lload X200.here hx rfl (hb hby at_260) rfl ?_
          refine XS.lcmp X200.here hx rfl (hb hby at_262) rfl ?_
          refine XS.ifNo X200.here hx rfl (hb hby at_263) rfl ((if0 _ _).trans (teq ((lw_eq ((0 : Int64) + pc_) ((0 : Int64) + pc_)).mpr (rfl : ((0 : Int64) + pc_) = ((0 : Int64) + pc_)) : (lcmpW ((0 : Int64) + pc_) ((0 : Int64) + pc_)) = (0 : Int32))).2) ?_
          refine XS.iconst X200.here hx rfl (hb hby at_266) ?_
          refine XS.goto X200.here hx rfl (pc0 := 267) (pc' := 271) rfl (hb hby at_267) (by decide) (by decide) ?_
          exact kt
        obtain ⟨fs, hr, hrun, hended, hW, hsame⟩ := X200.leave (v := some (.int (1 : Int32))) (fun h => by rw [Bd.returns] at h; cases h)
        refine ⟨_, _, pre0 _ (S204 _ ?_), hrun, hended, _, _, rfl, ?_, ⟨_, rfl⟩, hW, hsame.mono (by decide) (by decide)⟩
        · exact retN X200 hx (t := .boolean) Bd.returns (by simp) (hb hby at_271) hr
        · show Q_rm_law Z raw nw lt pc_ fl wV kV vV h0 n0 _ T200.heap _
          rw [k202]
          exact ⟨rfl, N203⟩
      · obtain ⟨T205, h205, X205, e205, E205, A205, D205, -, st205⟩ := newO X1 hx hZ hown (own_w hw 5 rfl) (own_w hw 6 rfl) (own_w hw 7 rfl) k5 (g := (mkF m 53 #[.val (.long raw), .second, .val (.long nw), .second, .val (.long lt), .second, .val (.long pc_), .second, .val (.int fl), .val (.long x2), .second, .val (.int (0 : Int32)), .val (.int (0 : Int32)), .val (.int (1 : Int32)), .unset, .unset, .unset, .unset, .unset, .unset, .unset, .unset, .unset, .unset, .unset, .unset, .unset, .unset, .unset, .unset] [])) rfl (hb hby at_53) (by decide) (by decide)
        obtain ⟨b205, g205⟩ : ∃ z, z = h0.size := ⟨_, rfl⟩
        have ge_b205 : n0 ≤ b205 := by rw [g205, ← O0.1]; exact O0.2.1
        rw [← g205] at A205 D205 st205
        have O206 := O0.ext E205
        have F207 : Fld Z h205 b205 "com/example/sluice/sluice/WaitRecorder" "intervalMillis" "J" (.long (0 : Int64)) := D205 (Or.inr (own_w hw 15 rfl)) (ty := .long) (by decide)
        have F208 : Fld Z h205 b205 "com/example/sluice/sluice/WaitRecorder" "intervalIndex" "J" (.long (0 : Int64)) := D205 (Or.inl (own_w hw 20 rfl)) (ty := .long) (by decide)
        have F209 : Fld Z h205 b205 "com/example/sluice/sluice/WaitRecorder" "interval" "Lcom/example/sluice/sluice/WaitRecorder$Tally;" .null := D205 (Or.inl (own_w hw 63 rfl)) (ty := (.object "com/example/sluice/sluice/WaitRecorder$Tally")) (by decide)
        have F210 : Fld Z h205 b205 "com/example/sluice/sluice/WaitRecorder" "sinceReset" "Lcom/example/sluice/sluice/WaitRecorder$Tally;" .null := D205 (Or.inl (own_w hw 65 rfl)) (ty := (.object "com/example/sluice/sluice/WaitRecorder$Tally")) (by decide)
        obtain ⟨_, _, ⟨T211, L211, k211, n211⟩, -, X211, ⟨Lc211, hQ211, l211, y211, z211⟩, st211⟩ := X205.specialBack hx (y := (⟨"com/example/sluice/sluice/WaitRecorder", "<init>", "(JJ)V"⟩ : MethodName)) rfl hown (mvT hZ (own_w hw 8 rfl)) (mvT hZ (own_w hw 9 rfl)) (mvT hZ (own_w hw 10 rfl)) (by decide) (backOf (W := 1) (rm_rinit l Z a0 hw [] b205 x2 nw wV kV vV h205 n0 O206 A205 ge_b205 F207 F208 F209 F210 S_V E_V A_V hlen) hZ (own_w hw 10 rfl) (own_w hw 7 rfl) (by decide) (by decide)) (g := (mkF m 60 #[.val (.long raw), .second, .val (.long nw), .second, .val (.long lt), .second, .val (.long pc_), .second, .val (.int fl), .val (.long x2), .second, .val (.int (0 : Int32)), .val (.int (0 : Int32)), .val (.int (1 : Int32)), .unset, .unset, .unset, .unset, .unset, .unset, .unset, .unset, .unset, .unset, .unset, .unset, .unset, .unset, .unset, .unset] [(.long nw), (.long x2), (.ref b205), (.ref b205)])) rfl (by rw [hml]; rfl) (Steps.refl _) (a := b205) (argsL := [(.long x2), (.long nw)]) (rest := [(.ref b205)]) (lenOf pd_6 rfl) rfl (by show 2 * 0 + _ ≤ _; exact Nat.le_of_eq rfl) (hb hby at_60) (fun _ _ => ⟨rfl, e205, (by decide : 1 + 6 ≤ _), (by decide : 4 + 42 ≤ _)⟩)
        dsimp only [Pt.U, Pt.locs, Pt.cells, Pt.slots] at X211 l211 y211 z211 st211 hQ211
        subst l211 y211 z211
        obtain ⟨x212, x213, x214, x215, x216, x217, rfl, N218, k219, f220, f221, f222, f223, f224, f225, f226, f227, f228, f229, f230, f231, f232, f233, f234, f235, f236, f237, f238, f239, f240, f241, f242, f243, f244, f245, f246, f247, f248, f249, f250, f251, f252, f253, f254⟩ := hQ211
        have N255 := Fr.app N6 N218
        have ge256 : n0 ≤ x212 := by rw [← O206.1]; exact Nat.le_trans O206.2.1 f220
        have ne257 : b205 ≠ x212 := Nat.ne_of_lt (Nat.lt_of_lt_of_le (Exa.lt A205) f220)
        have ge258 : n0 ≤ x213 := by rw [← O206.1]; exact Nat.le_trans O206.2.1 f221
        have ne259 : b205 ≠ x213 := Nat.ne_of_lt (Nat.lt_of_lt_of_le (Exa.lt A205) f221)
        have ge260 : n0 ≤ x215 := by rw [← O206.1]; exact Nat.le_trans O206.2.1 f222
        have ne261 : b205 ≠ x215 := Nat.ne_of_lt (Nat.lt_of_lt_of_le (Exa.lt A205) f222)
        have ge262 : n0 ≤ x216 := by rw [← O206.1]; exact Nat.le_trans O206.2.1 f223
        have ne263 : b205 ≠ x216 := Nat.ne_of_lt (Nat.lt_of_lt_of_le (Exa.lt A205) f223)
        have O264 := O206.keep k219 (allS ge_b205 all0)
        obtain ⟨cq265, kq265, q265a, q265b, q265c⟩ := isOf hZ rfl f230
        obtain ⟨_, _, ⟨T265, L265, k265, n265⟩, -, X265, ⟨Lc265, hQ265, l265, y265, z265⟩, st265⟩ := X211.virtualBack hx (y := (⟨"com/example/sluice/sluice/WaitRecorder", "startedAtOnce", "(J)V"⟩ : MethodName)) (z := (⟨"com/example/sluice/sluice/WaitRecorder", "startedAtOnce", "(J)V"⟩ : MethodName)) hown (mvT hZ (own_w hw 66 rfl)) (mvT hZ (own_w hw 67 rfl)) (notFace_of_selects (args := #[]) (mvT hZ (own_w hw 69 rfl))) (mvT hZ (own_w hw 69 rfl)) (mvT hZ (own_w hw 68 rfl)) (by decide) (backOf (W := 0) (rm_sao l Z a0 hw [] b205 lt x2 (own_fd nw x2) x212 x213 x214 x215 x216 x217 ((own_fd nw x2) * x2) (0 : Int64) nw (0 : Int64) wV kV vV T211.heap n0 O264 f230 f231 f232 f233 f234 f235 f236 f237 f238 f239 f240 f241 f242 f243 f244 f245 f246 f247 f248 f249 f250 f251 f252 f253 f254 ge_b205 ge256 ge260 ne257 ne259 ne261 ne263 f224 f225 f226 f227 f228 f229 S_V E_V A_V hlen) hZ (own_w hw 70 rfl) (own_w hw 7 rfl) (by decide) (by decide)) q265a q265c (g := (mkF m 85 #[.val (.long raw), .second, .val (.long nw), .second, .val (.long lt), .second, .val (.long pc_), .second, .val (.int fl), .val (.long x2), .second, .val (.int (0 : Int32)), .val (.int (0 : Int32)), .val (.int (1 : Int32)), .val (.ref b205), .unset, .unset, .unset, .unset, .unset, .unset, .unset, .unset, .unset, .unset, .unset, .unset, .unset, .unset, .unset] [(.long lt), (.ref b205)])) rfl (by rw [hml]; rfl) (Steps.refl _) (argsL := [(.long lt)]) (rest := []) (lenOf pd_2 rfl) rfl (by show 2 * 0 + _ ≤ _; exact Nat.le_of_eq rfl) (hb hby at_85) (fun _ _ => ⟨rfl, rfl, (by decide : 7 + 3 ≤ _), (by decide : 46 + 21 ≤ _)⟩)
        dsimp only [Pt.U, Pt.locs, Pt.cells, Pt.slots] at X265 l265 y265 z265 st265 hQ265
        subst l265 y265 z265
        rcases hQ265 with ⟨c266, rfl, N267, k268, f269, f270, f271, f272, f273, f274, f275, f276, f277, f278, f279, f280, f281, f282, f283, f284, f285, f286, f287, f288, f289, f290, f291, f292, f293⟩ | ⟨x294, x295, x296, c297, rfl, N298, k299, f300, f301, f302, f303, f304, f305, f306, f307, f308, f309, f310, f311, f312, f313, f314, f315, f316, f317, f318, f319, f320, f321, f322, f323, f324, f325, f326, f327⟩
        · have N328 := Fr.app N255 N267
          have O329 := O264.keep k268 (allS ge_b205 (allS ge256 (allS ge260 all0)))
          obtain ⟨cq330, kq330, q330a, q330b, q330c⟩ := isOf hZ rfl f269
          obtain ⟨_, _, ⟨T330, L330, k330, n330⟩, -, X330, ⟨Lc330, hQ330, l330, y330, z330⟩, st330⟩ := X265.virtualBack hx (y := (⟨"com/example/sluice/sluice/WaitRecorder", "intervalSnapshot", "(J)Lcom/example/sluice/sluice/WaitStatistics;"⟩ : MethodName)) (z := (⟨"com/example/sluice/sluice/WaitRecorder", "intervalSnapshot", "(J)Lcom/example/sluice/sluice/WaitStatistics;"⟩ : MethodName)) hown (mvT hZ (own_w hw 82 rfl)) (mvT hZ (own_w hw 83 rfl)) (notFace_of_selects (args := #[]) (mvT hZ (own_w hw 85 rfl))) (mvT hZ (own_w hw 85 rfl)) (mvT hZ (own_w hw 84 rfl)) (by decide) (backOf (W := 0) (rm_isnap l Z a0 hw [] b205 lt x2 (own_fd nw x2) x212 x213 x214 x215 x216 x217 ((own_fd nw x2) * x2) ((0 : Int64) + (1 : Int64)) nw ((0 : Int64) + (1 : Int64)) wV kV vV T265.heap n0 O329 f269 f270 f271 f272 f273 f274 f275 f276 f277 f278 f279 f280 f281 f282 f283 f284 f285 f286 f287 f288 f289 f290 f291 f292 f293 ge_b205 ge256 ge260 ne257 ne259 ne261 ne263 f224 f225 f226 f227 f228 f229 S_V E_V A_V hlen c266) hZ (own_w hw 86 rfl) (own_w hw 7 rfl) (by decide) (by decide)) q330a q330c (g := (mkF m 117 #[.val (.long raw), .second, .val (.long nw), .second, .val (.long lt), .second, .val (.long pc_), .second, .val (.int fl), .val (.long x2), .second, .val (.int (0 : Int32)), .val (.int (0 : Int32)), .val (.int (1 : Int32)), .val (.ref b205), .val (.long lt), .second, .unset, .unset, .unset, .unset, .unset, .unset, .unset, .unset, .unset, .unset, .unset, .unset, .unset] [(.long lt), (.ref b205)])) rfl (by rw [hml]; rfl) (Steps.refl _) (argsL := [(.long lt)]) (rest := []) (lenOf pd_7 rfl) rfl (by show 2 * 0 + _ ≤ _; exact Nat.le_of_eq rfl) (hb hby at_117) (fun _ _ => ⟨rfl, rfl, (by decide : 10 + 5 ≤ _), (by decide : 67 + 35 ≤ _)⟩)
          dsimp only [Pt.U, Pt.locs, Pt.cells, Pt.slots] at X330 l330 y330 z330 st330 hQ330
          subst l330 y330 z330
          obtain ⟨x331, rfl, N332, k333, f334, f335, f336⟩ := hQ330
          have N337 := Fr.app N328 N332
          have ge338 : n0 ≤ x331 := by rw [← O329.1]; exact Nat.le_trans O329.2.1 f334
          have ne339 : b205 ≠ x331 := Nat.ne_of_lt (Nat.lt_of_lt_of_le (Exa.lt f269) f334)
          have ne340 : x212 ≠ x331 := Nat.ne_of_lt (Nat.lt_of_lt_of_le (Exa.lt f274) f334)
          have ne341 : x213 ≠ x331 := Nat.ne_of_lt (Nat.lt_of_lt_of_le (Exa.lt f282) f334)
          have ne342 : x215 ≠ x331 := Nat.ne_of_lt (Nat.lt_of_lt_of_le (Exa.lt f284) f334)
          have ne343 : x216 ≠ x331 := Nat.ne_of_lt (Nat.lt_of_lt_of_le (Exa.lt f292) f334)
          have O344 := O329.keep k333 all0
          obtain ⟨cq345, kq345, q345a, q345b, q345c⟩ := isOf hZ rfl f335
          obtain ⟨_, _, ⟨T345, L345, k345, n345⟩, -, X345, ⟨Lc345, hQ345, l345, y345, z345⟩, st345⟩ := X330.virtualBack hx (y := (⟨"com/example/sluice/sluice/WaitStatistics", "startedAtOnce", "()J"⟩ : MethodName)) (z := (⟨"com/example/sluice/sluice/WaitStatistics", "startedAtOnce", "()J"⟩ : MethodName)) hown (mvT hZ (own_w hw 124 rfl)) (mvT hZ (own_w hw 125 rfl)) (notFace_of_selects (args := #[]) (mvT hZ (own_w hw 127 rfl))) (mvT hZ (own_w hw 127 rfl)) (mvT hZ (own_w hw 126 rfl)) (by decide) (backOf (W := 0) (rm_get l Z a0 hw [] x331 ((0 : Int64) + (1 : Int64)) T330.heap n0 O344 f336) hZ (own_w hw 128 rfl) (own_w hw 94 rfl) (by decide) (by decide)) q345a q345c (g := (mkF m 120 #[.val (.long raw), .second, .val (.long nw), .second, .val (.long lt), .second, .val (.long pc_), .second, .val (.int fl), .val (.long x2), .second, .val (.int (0 : Int32)), .val (.int (0 : Int32)), .val (.int (1 : Int32)), .val (.ref b205), .val (.long lt), .second, .unset, .unset, .unset, .unset, .unset, .unset, .unset, .unset, .unset, .unset, .unset, .unset, .unset] [(.ref x331)])) rfl (by rw [hml]; rfl) (Steps.refl _) (argsL := []) (rest := []) (lenOf pd_8 rfl) rfl (by show 2 * 0 + _ ≤ _; exact Nat.le_of_eq rfl) (hb hby at_120) (fun _ _ => ⟨rfl, rfl, (by decide : 15 + 0 ≤ _), (by decide : 102 + 0 ≤ _)⟩)
          dsimp only [Pt.U, Pt.locs, Pt.cells, Pt.slots] at X345 l345 y345 z345 st345 hQ345
          subst l345 y345 z345
          obtain ⟨rfl, N346, k347⟩ := hQ345
          have N348 := Fr.app N337 N346
          have f350 := (Exa.keep f269 k333)
          have f351 := (Fld.keep f270 k333 nin0)
          have f352 := (Fld.keep f271 k333 nin0)
          have f353 := (Fld.keep f272 k333 nin0)
          have f354 := (Fld.keep f273 k333 nin0)
          have f355 := (Exa.keep f274 k333)
          have f356 := (Fld.keep f275 k333 nin0)
          have f357 := (Fld.keep f276 k333 nin0)
          have f358 := (Fld.keep f277 k333 nin0)
          have f359 := (Fld.keep f278 k333 nin0)
          have f360 := (Fld.keep f279 k333 nin0)
          have f361 := (Fld.keep f280 k333 nin0)
          have f362 := (Fld.keep f281 k333 nin0)
          have f363 := (Exa.keep f282 k333)
          have f364 := (Arv.keep f283 k333 nin0)
          have f365 := (Exa.keep f284 k333)
          have f366 := (Fld.keep f285 k333 nin0)
          have f367 := (Fld.keep f286 k333 nin0)
          have f368 := (Fld.keep f287 k333 nin0)
          have f369 := (Fld.keep f288 k333 nin0)
          have f370 := (Fld.keep f289 k333 nin0)
          have f371 := (Fld.keep f290 k333 nin0)
          have f372 := (Fld.keep f291 k333 nin0)
          have f373 := (Exa.keep f292 k333)
          have f374 := (Arv.keep f293 k333 nin0)
          obtain ⟨cq349, kq349, q349a, q349b, q349c⟩ := isOf hZ k347 f350
          obtain ⟨_, _, ⟨T349, L349, k349, n349⟩, -, X349, ⟨Lc349, hQ349, l349, y349, z349⟩, st349⟩ := X345.virtualBack hx (y := (⟨"com/example/sluice/sluice/WaitRecorder", "startedAtOnceEarlier", "(J)V"⟩ : MethodName)) (z := (⟨"com/example/sluice/sluice/WaitRecorder", "startedAtOnceEarlier", "(J)V"⟩ : MethodName)) hown (mvT hZ (own_w hw 129 rfl)) (mvT hZ (own_w hw 130 rfl)) (notFace_of_selects (args := #[]) (mvT hZ (own_w hw 132 rfl))) (mvT hZ (own_w hw 132 rfl)) (mvT hZ (own_w hw 131 rfl)) (by decide) (backOf (W := 0) (rm_sae l Z a0 hw [] b205 pc_ x2 (own_fd nw x2) x212 x213 x214 x215 x216 x217 ((own_fd nw x2) * x2) ((0 : Int64) + (1 : Int64)) nw ((0 : Int64) + (1 : Int64)) T330.heap n0 O344 f350 f351 f352 f353 f354 f355 f356 f357 f358 f359 f360 f361 f362 f363 f364 f365 f366 f367 f368 f369 f370 f371 f372 f373 f374 ge_b205 ge256 ge260 ne257 ne259 ne261 ne263 f224 f225 f226 f227 f228 f229) hZ (own_w hw 133 rfl) (own_w hw 7 rfl) (by decide) (by decide)) q349a q349c (g := (mkF m 129 #[.val (.long raw), .second, .val (.long nw), .second, .val (.long lt), .second, .val (.long pc_), .second, .val (.int fl), .val (.long x2), .second, .val (.int (0 : Int32)), .val (.int (0 : Int32)), .val (.int (1 : Int32)), .val (.ref b205), .val (.long lt), .second, .val (.long ((0 : Int64) + (1 : Int64))), .second, .unset, .unset, .unset, .unset, .unset, .unset, .unset, .unset, .unset, .unset, .unset] [(.long pc_), (.ref b205)])) rfl (by rw [hml]; rfl) (Steps.refl _) (argsL := [(.long pc_)]) (rest := []) (lenOf pd_2 rfl) rfl (by show 2 * 0 + _ ≤ _; exact Nat.le_of_eq rfl) (hb hby at_129) (fun _ _ => ⟨rfl, k347, (by decide : 15 + 0 ≤ _), (by decide : 102 + 0 ≤ _)⟩)
          dsimp only [Pt.U, Pt.locs, Pt.cells, Pt.slots] at X349 l349 y349 z349 st349 hQ349
          subst l349 y349 z349
          obtain ⟨rfl, N375, k376, f377, f378, f379, f380, f381, f382, f383, f384, f385, f386, f387, f388, f389, f390, f391, f392, f393, f394, f395, f396⟩ := hQ349
          have N397 := Fr.app N348 N375
          have O398 := O344.keep k376 (allS ge256 (allS ge260 all0))
          have f400 := (Exa.keep f350 k376)
          have f401 := (Fld.keep f351 k376 (ninS ne257 (ninS ne261 nin0)))
          have f402 := (Fld.keep f352 k376 (ninS ne257 (ninS ne261 nin0)))
          have f403 := (Fld.keep f353 k376 (ninS ne257 (ninS ne261 nin0)))
          have f404 := (Fld.keep f354 k376 (ninS ne257 (ninS ne261 nin0)))
          obtain ⟨cq399, kq399, q399a, q399b, q399c⟩ := isOf hZ rfl f400
          obtain ⟨_, _, ⟨T399, L399, k399, n399⟩, -, X399, ⟨Lc399, hQ399, l399, y399, z399⟩, st399⟩ := X349.virtualBack hx (y := (⟨"com/example/sluice/sluice/WaitRecorder", "intervalSnapshot", "(J)Lcom/example/sluice/sluice/WaitStatistics;"⟩ : MethodName)) (z := (⟨"com/example/sluice/sluice/WaitRecorder", "intervalSnapshot", "(J)Lcom/example/sluice/sluice/WaitStatistics;"⟩ : MethodName)) hown (mvT hZ (own_w hw 82 rfl)) (mvT hZ (own_w hw 83 rfl)) (notFace_of_selects (args := #[]) (mvT hZ (own_w hw 85 rfl))) (mvT hZ (own_w hw 85 rfl)) (mvT hZ (own_w hw 84 rfl)) (by decide) (backOf (W := 0) (rm_isnap l Z a0 hw [] b205 lt x2 (own_fd nw x2) x212 x213 x214 x215 x216 x217 ((own_fd nw x2) * x2) (((0 : Int64) + (1 : Int64)) + pc_) nw (((0 : Int64) + (1 : Int64)) + pc_) wV kV vV T349.heap n0 O398 f400 f401 f402 f403 f404 f377 f378 f379 f380 f381 f382 f383 f384 f385 f386 f387 f388 f389 f390 f391 f392 f393 f394 f395 f396 ge_b205 ge256 ge260 ne257 ne259 ne261 ne263 f224 f225 f226 f227 f228 f229 S_V E_V A_V hlen c266) hZ (own_w hw 86 rfl) (own_w hw 7 rfl) (by decide) (by decide)) q399a q399c (g := (mkF m 136 #[.val (.long raw), .second, .val (.long nw), .second, .val (.long lt), .second, .val (.long pc_), .second, .val (.int fl), .val (.long x2), .second, .val (.int (0 : Int32)), .val (.int (0 : Int32)), .val (.int (1 : Int32)), .val (.ref b205), .val (.long lt), .second, .val (.long ((0 : Int64) + (1 : Int64))), .second, .unset, .unset, .unset, .unset, .unset, .unset, .unset, .unset, .unset, .unset, .unset] [(.long lt), (.ref b205)])) rfl (by rw [hml]; rfl) (Steps.refl _) (argsL := [(.long lt)]) (rest := []) (lenOf pd_7 rfl) rfl (by show 2 * 0 + _ ≤ _; exact Nat.le_of_eq rfl) (hb hby at_136) (fun _ _ => ⟨rfl, rfl, (by decide : 15 + 5 ≤ _), (by decide : 102 + 35 ≤ _)⟩)
          dsimp only [Pt.U, Pt.locs, Pt.cells, Pt.slots] at X399 l399 y399 z399 st399 hQ399
          subst l399 y399 z399
          obtain ⟨x405, rfl, N406, k407, f408, f409, f410⟩ := hQ399
          have N411 := Fr.app N397 N406
          have ge412 : n0 ≤ x405 := by rw [← O398.1]; exact Nat.le_trans O398.2.1 f408
          have ne413 : b205 ≠ x405 := Nat.ne_of_lt (Nat.lt_of_lt_of_le (Exa.lt f400) f408)
          have ne414 : x212 ≠ x405 := Nat.ne_of_lt (Nat.lt_of_lt_of_le (Exa.lt f377) f408)
          have ne415 : x213 ≠ x405 := Nat.ne_of_lt (Nat.lt_of_lt_of_le (Exa.lt f385) f408)
          have ne416 : x215 ≠ x405 := Nat.ne_of_lt (Nat.lt_of_lt_of_le (Exa.lt f387) f408)
          have ne417 : x216 ≠ x405 := Nat.ne_of_lt (Nat.lt_of_lt_of_le (Exa.lt f395) f408)
          have f418 := (Exa.keep f335 k376)
          have ne419 : x331 ≠ x405 := Nat.ne_of_lt (Nat.lt_of_lt_of_le (Exa.lt f418) f408)
          have O420 := O398.keep k407 all0
          obtain ⟨cq421, kq421, q421a, q421b, q421c⟩ := isOf hZ rfl f409
          obtain ⟨_, _, ⟨T421, L421, k421, n421⟩, -, X421, ⟨Lc421, hQ421, l421, y421, z421⟩, st421⟩ := X399.virtualBack hx (y := (⟨"com/example/sluice/sluice/WaitStatistics", "startedAtOnce", "()J"⟩ : MethodName)) (z := (⟨"com/example/sluice/sluice/WaitStatistics", "startedAtOnce", "()J"⟩ : MethodName)) hown (mvT hZ (own_w hw 124 rfl)) (mvT hZ (own_w hw 125 rfl)) (notFace_of_selects (args := #[]) (mvT hZ (own_w hw 127 rfl))) (mvT hZ (own_w hw 127 rfl)) (mvT hZ (own_w hw 126 rfl)) (by decide) (backOf (W := 0) (rm_get l Z a0 hw [] x405 (((0 : Int64) + (1 : Int64)) + pc_) T399.heap n0 O420 f410) hZ (own_w hw 128 rfl) (own_w hw 94 rfl) (by decide) (by decide)) q421a q421c (g := (mkF m 139 #[.val (.long raw), .second, .val (.long nw), .second, .val (.long lt), .second, .val (.long pc_), .second, .val (.int fl), .val (.long x2), .second, .val (.int (0 : Int32)), .val (.int (0 : Int32)), .val (.int (1 : Int32)), .val (.ref b205), .val (.long lt), .second, .val (.long ((0 : Int64) + (1 : Int64))), .second, .unset, .unset, .unset, .unset, .unset, .unset, .unset, .unset, .unset, .unset, .unset] [(.ref x405)])) rfl (by rw [hml]; rfl) (Steps.refl _) (argsL := []) (rest := []) (lenOf pd_8 rfl) rfl (by show 2 * 0 + _ ≤ _; exact Nat.le_of_eq rfl) (hb hby at_139) (fun _ _ => ⟨rfl, rfl, (by decide : 20 + 0 ≤ _), (by decide : 137 + 0 ≤ _)⟩)
          dsimp only [Pt.U, Pt.locs, Pt.cells, Pt.slots] at X421 l421 y421 z421 st421 hQ421
          subst l421 y421 z421
          obtain ⟨rfl, N422, k423⟩ := hQ421
          have N424 := Fr.app N411 N422
          have f426 := (Exa.keep f400 k407)
          have f427 := (Fld.keep f404 k407 nin0)
          have f428 := (Exa.keep f387 k407)
          have f429 := (Fld.keep f388 k407 nin0)
          have f430 := (Fld.keep f389 k407 nin0)
          have f431 := (Fld.keep f390 k407 nin0)
          have f432 := (Fld.keep f391 k407 nin0)
          have f433 := (Fld.keep f392 k407 nin0)
          have f434 := (Fld.keep f393 k407 nin0)
          have f435 := (Fld.keep f394 k407 nin0)
          have f436 := (Exa.keep f395 k407)
          have f437 := (Arv.keep f396 k407 nin0)
          obtain ⟨cq425, kq425, q425a, q425b, q425c⟩ := isOf hZ k423 f426
          obtain ⟨_, _, ⟨T425, L425, k425, n425⟩, -, X425, ⟨Lc425, hQ425, l425, y425, z425⟩, st425⟩ := X421.virtualBack hx (y := (⟨"com/example/sluice/sluice/WaitRecorder", "sinceResetSnapshot", "()Lcom/example/sluice/sluice/WaitStatistics;"⟩ : MethodName)) (z := (⟨"com/example/sluice/sluice/WaitRecorder", "sinceResetSnapshot", "()Lcom/example/sluice/sluice/WaitStatistics;"⟩ : MethodName)) hown (mvT hZ (own_w hw 134 rfl)) (mvT hZ (own_w hw 135 rfl)) (notFace_of_selects (args := #[]) (mvT hZ (own_w hw 137 rfl))) (mvT hZ (own_w hw 137 rfl)) (mvT hZ (own_w hw 136 rfl)) (by decide) (backOf (W := 0) (rm_ssnap l Z a0 hw [] b205 x215 nw (((0 : Int64) + (1 : Int64)) + pc_) x216 x217 T399.heap n0 O420 f427 f428 f429 f430 f431 f432 f433 f434 f435 f436 f437) hZ (own_w hw 138 rfl) (own_w hw 7 rfl) (by decide) (by decide)) q425a q425c (g := (mkF m 146 #[.val (.long raw), .second, .val (.long nw), .second, .val (.long lt), .second, .val (.long pc_), .second, .val (.int fl), .val (.long x2), .second, .val (.int (0 : Int32)), .val (.int (0 : Int32)), .val (.int (1 : Int32)), .val (.ref b205), .val (.long lt), .second, .val (.long ((0 : Int64) + (1 : Int64))), .second, .val (.long (((0 : Int64) + (1 : Int64)) + pc_)), .second, .unset, .unset, .unset, .unset, .unset, .unset, .unset, .unset, .unset] [(.ref b205)])) rfl (by rw [hml]; rfl) (Steps.refl _) (argsL := []) (rest := []) (lenOf pd_5 rfl) rfl (by show 2 * 0 + _ ≤ _; exact Nat.le_of_eq rfl) (hb hby at_146) (fun _ _ => ⟨rfl, k423, (by decide : 20 + 2 ≤ _), (by decide : 137 + 14 ≤ _)⟩)
          dsimp only [Pt.U, Pt.locs, Pt.cells, Pt.slots] at X425 l425 y425 z425 st425 hQ425
          subst l425 y425 z425
          obtain ⟨x438, rfl, N439, k440, f441, f442, f443⟩ := hQ425
          have N444 := Fr.app N424 N439
          have ge445 : n0 ≤ x438 := by rw [← O420.1]; exact Nat.le_trans O420.2.1 f441
          have ne446 : b205 ≠ x438 := Nat.ne_of_lt (Nat.lt_of_lt_of_le (Exa.lt f426) f441)
          have f447 := (Exa.keep f377 k407)
          have ne448 : x212 ≠ x438 := Nat.ne_of_lt (Nat.lt_of_lt_of_le (Exa.lt f447) f441)
          have f449 := (Exa.keep f385 k407)
          have ne450 : x213 ≠ x438 := Nat.ne_of_lt (Nat.lt_of_lt_of_le (Exa.lt f449) f441)
          have ne451 : x215 ≠ x438 := Nat.ne_of_lt (Nat.lt_of_lt_of_le (Exa.lt f428) f441)
          have ne452 : x216 ≠ x438 := Nat.ne_of_lt (Nat.lt_of_lt_of_le (Exa.lt f436) f441)
          have f453 := (Exa.keep f418 k407)
          have ne454 : x331 ≠ x438 := Nat.ne_of_lt (Nat.lt_of_lt_of_le (Exa.lt f453) f441)
          have ne455 : x405 ≠ x438 := Nat.ne_of_lt (Nat.lt_of_lt_of_le (Exa.lt f409) f441)
          have O456 := O420.keep k440 all0
          obtain ⟨cq457, kq457, q457a, q457b, q457c⟩ := isOf hZ rfl f442
          obtain ⟨_, _, ⟨T457, L457, k457, n457⟩, -, X457, ⟨Lc457, hQ457, l457, y457, z457⟩, st457⟩ := X425.virtualBack hx (y := (⟨"com/example/sluice/sluice/WaitStatistics", "startedAtOnce", "()J"⟩ : MethodName)) (z := (⟨"com/example/sluice/sluice/WaitStatistics", "startedAtOnce", "()J"⟩ : MethodName)) hown (mvT hZ (own_w hw 124 rfl)) (mvT hZ (own_w hw 125 rfl)) (notFace_of_selects (args := #[]) (mvT hZ (own_w hw 127 rfl))) (mvT hZ (own_w hw 127 rfl)) (mvT hZ (own_w hw 126 rfl)) (by decide) (backOf (W := 0) (rm_get l Z a0 hw [] x438 (((0 : Int64) + (1 : Int64)) + pc_) T425.heap n0 O456 f443) hZ (own_w hw 128 rfl) (own_w hw 94 rfl) (by decide) (by decide)) q457a q457c (g := (mkF m 149 #[.val (.long raw), .second, .val (.long nw), .second, .val (.long lt), .second, .val (.long pc_), .second, .val (.int fl), .val (.long x2), .second, .val (.int (0 : Int32)), .val (.int (0 : Int32)), .val (.int (1 : Int32)), .val (.ref b205), .val (.long lt), .second, .val (.long ((0 : Int64) + (1 : Int64))), .second, .val (.long (((0 : Int64) + (1 : Int64)) + pc_)), .second, .unset, .unset, .unset, .unset, .unset, .unset, .unset, .unset, .unset] [(.ref x438)])) rfl (by rw [hml]; rfl) (Steps.refl _) (argsL := []) (rest := []) (lenOf pd_8 rfl) rfl (by show 2 * 0 + _ ≤ _; exact Nat.le_of_eq rfl) (hb hby at_149) (fun _ _ => ⟨rfl, rfl, (by decide : 22 + 0 ≤ _), (by decide : 151 + 0 ≤ _)⟩)
          dsimp only [Pt.U, Pt.locs, Pt.cells, Pt.slots] at X457 l457 y457 z457 st457 hQ457
          subst l457 y457 z457
          obtain ⟨rfl, N458, k459⟩ := hQ457
          have N460 := Fr.app N444 N458
          have S461 : ∀ t, Steps p.tables e below (T457.setTop (mkF m 271 #[.val (.long raw), .second, .val (.long nw), .second, .val (.long lt), .second, .val (.long pc_), .second, .val (.int fl), .val (.long x2), .second, .val (.int (0 : Int32)), .val (.int (0 : Int32)), .val (.int (1 : Int32)), .val (.ref b205), .val (.long lt), .second, .val (.long ((0 : Int64) + (1 : Int64))), .second, .val (.long (((0 : Int64) + (1 : Int64)) + pc_)), .second, .val (.long (((0 : Int64) + (1 : Int64)) + pc_)), .second, .val (.long (0 : Int64)), .second, .val (.long (1 : Int64)), .second, .val (.int (1 : Int32)), .val (.long ((1 : Int64) + pc_)), .second] [(.int (1 : Int32))])) t → Steps p.tables e below (s₁.setTop (mkF m 0 #[.val (.long raw), .second, .val (.long nw), .second, .val (.long lt), .second, .val (.long pc_), .second, .val (.int fl), .unset, .unset, .unset, .unset, .unset, .unset, .unset, .unset, .unset, .unset, .unset, .unset, .unset, .unset, .unset, .unset, .unset, .unset, .unset, .unset, .unset] [])) t := by
            intro t kt
            refine S11 t ?_
            refine XS.ifNo X1.here hx rfl (hb hby at_43) rfl ((if0 _ _).trans (feq (c12 : ¬ ((fl &&& (4 : Int32)) = (0 : Int32)))).1) ?_
            refine XS.iconst X1.here hx rfl (hb hby at_46) ?_
            refine XS.goto X1.here hx rfl (pc0 := 47) (pc' := 51) rfl (hb hby at_47) (by decide) (by decide) ?_
            refine XS.istore X1.here hx rfl (hb hby at_51) rfl (l' := #[.val (.long raw), .second, .val (.long nw), .second, .val (.long lt), .second, .val (.long pc_), .second, .val (.int fl), .val (.long x2), .second, .val (.int (0 : Int32)), .val (.int (0 : Int32)), .val (.int (1 : Int32)), .unset, .unset, .unset, .unset, .unset, .unset, .unset, .unset, .unset, .unset, .unset, .unset, .unset, .unset, .unset, .unset]) rfl ?_
            show Steps p.tables e below (T1.setTop (mkF m 53 #[.val (.long raw), .second, .val (.long nw), .second, .val (.long lt), .second, .val (.long pc_), .second, .val (.int fl), .val (.long x2), .second, .val (.int (0 : Int32)), .val (.int (0 : Int32)), .val (.int (1 : Int32)), .unset, .unset, .unset, .unset, .unset, .unset, .unset, .unset, .unset, .unset, .unset, .unset, .unset, .unset, .unset, .unset] [])) _
            refine st205 _ ?_
            refine XS.dup X205.here hx rfl (hb hby at_56) rfl rfl ?_
            refine XS.lload X205.here hx rfl (hb hby at_57) rfl ?_
            refine XS.lloadN X205.here hx rfl (hb hby at_59) rfl ?_
            show Steps p.tables e below (T205.setTop (mkF m 60 #[.val (.long raw), .second, .val (.long nw), .second, .val (.long lt), .second, .val (.long pc_), .second, .val (.int fl), .val (.long x2), .second, .val (.int (0 : Int32)), .val (.int (0 : Int32)), .val (.int (1 : Int32)), .unset, .unset, .unset, .unset, .unset, .unset, .unset, .unset, .unset, .unset, .unset, .unset, .unset, .unset, .unset, .unset] [(.long nw), (.long x2), (.ref b205), (.ref b205)])) _
            refine st211.trans ?_
            refine XS.astore X211.here hx rfl (hb hby at_63) rfl rfl (l' := #[.val (.long raw), .second, .val (.long nw), .second, .val (.long lt), .second, .val (.long pc_), .second, .val (.int fl), .val (.long x2), .second, .val (.int (0 : Int32)), .val (.int (0 : Int32)), .val (.int (1 : Int32)), .val (.ref b205), .unset, .unset, .unset, .unset, .unset, .unset, .unset, .unset, .unset, .unset, .unset, .unset, .unset, .unset, .unset]) rfl ?_
            refine XS.iload X211.here hx rfl (hb hby at_65) rfl ?_
            refine XS.ifYes X211.here hx rfl (pc0 := 67) (pc' := 76) rfl (hb hby at_67) rfl ((if0 _ _).trans (teq ((by decide) : (0 : Int32) = (0 : Int32))).1) (by decide) (by decide) ?_
            refine XS.iload X211.here hx rfl (hb hby at_76) rfl ?_
            refine XS.ifNo X211.here hx rfl (hb hby at_78) rfl ((if0 _ _).trans (feq ((by decide) : ¬ ((1 : Int32) = (0 : Int32)))).1) ?_
            show Steps p.tables e below (T211.setTop (mkF m 81 #[.val (.long raw), .second, .val (.long nw), .second, .val (.long lt), .second, .val (.long pc_), .second, .val (.int fl), .val (.long x2), .second, .val (.int (0 : Int32)), .val (.int (0 : Int32)), .val (.int (1 : Int32)), .val (.ref b205), .unset, .unset, .unset, .unset, .unset, .unset, .unset, .unset, .unset, .unset, .unset, .unset, .unset, .unset, .unset] [])) _
            refine XS.aload X211.here hx rfl (hb hby at_81) rfl rfl ?_
            refine XS.lload X211.here hx rfl (hb hby at_83) rfl ?_
            show Steps p.tables e below (T211.setTop (mkF m 85 #[.val (.long raw), .second, .val (.long nw), .second, .val (.long lt), .second, .val (.long pc_), .second, .val (.int fl), .val (.long x2), .second, .val (.int (0 : Int32)), .val (.int (0 : Int32)), .val (.int (1 : Int32)), .val (.ref b205), .unset, .unset, .unset, .unset, .unset, .unset, .unset, .unset, .unset, .unset, .unset, .unset, .unset, .unset, .unset] [(.long lt), (.ref b205)])) _
            refine st265.trans ?_
            refine XS.iload X265.here hx rfl (hb hby at_88) rfl ?_
            refine XS.ifYes X265.here hx rfl (pc0 := 90) (pc' := 100) rfl (hb hby at_90) rfl ((if0 _ _).trans (teq ((by decide) : (0 : Int32) = (0 : Int32))).1) (by decide) (by decide) ?_
            refine XS.iload X265.here hx rfl (hb hby at_100) rfl ?_
            refine XS.ifNo X265.here hx rfl (hb hby at_102) rfl ((if0 _ _).trans (feq ((by decide) : ¬ ((1 : Int32) = (0 : Int32)))).1) ?_
            refine XS.lload X265.here hx rfl (hb hby at_105) rfl ?_
            show Steps p.tables e below (T265.setTop (mkF m 107 #[.val (.long raw), .second, .val (.long nw), .second, .val (.long lt), .second, .val (.long pc_), .second, .val (.int fl), .val (.long x2), .second, .val (.int (0 : Int32)), .val (.int (0 : Int32)), .val (.int (1 : Int32)), .val (.ref b205), .unset, .unset, .unset, .unset, .unset, .unset, .unset, .unset, .unset, .unset, .unset, .unset, .unset, .unset, .unset] [(.long lt)])) _
            refine XS.goto X265.here hx rfl (pc0 := 107) (pc' := 111) rfl (hb hby at_107) (by decide) (by decide) ?_
            refine XS.lstore X265.here hx rfl (hb hby at_111) rfl (l' := #[.val (.long raw), .second, .val (.long nw), .second, .val (.long lt), .second, .val (.long pc_), .second, .val (.int fl), .val (.long x2), .second, .val (.int (0 : Int32)), .val (.int (0 : Int32)), .val (.int (1 : Int32)), .val (.ref b205), .val (.long lt), .second, .unset, .unset, .unset, .unset, .unset, .unset, .unset, .unset, .unset, .unset, .unset, .unset, .unset]) rfl ?_
            refine XS.aload X265.here hx rfl (hb hby at_113) rfl rfl ?_
            refine XS.lload X265.here hx rfl (hb hby at_115) rfl ?_
            show Steps p.tables e below (T265.setTop (mkF m 117 #[.val (.long raw), .second, .val (.long nw), .second, .val (.long lt), .second, .val (.long pc_), .second, .val (.int fl), .val (.long x2), .second, .val (.int (0 : Int32)), .val (.int (0 : Int32)), .val (.int (1 : Int32)), .val (.ref b205), .val (.long lt), .second, .unset, .unset, .unset, .unset, .unset, .unset, .unset, .unset, .unset, .unset, .unset, .unset, .unset] [(.long lt), (.ref b205)])) _
            refine st330.trans ?_
            show Steps p.tables e below (T330.setTop (mkF m 120 #[.val (.long raw), .second, .val (.long nw), .second, .val (.long lt), .second, .val (.long pc_), .second, .val (.int fl), .val (.long x2), .second, .val (.int (0 : Int32)), .val (.int (0 : Int32)), .val (.int (1 : Int32)), .val (.ref b205), .val (.long lt), .second, .unset, .unset, .unset, .unset, .unset, .unset, .unset, .unset, .unset, .unset, .unset, .unset, .unset] [(.ref x331)])) _
            refine st345.trans ?_
            refine XS.lstore X345.here hx rfl (hb hby at_123) rfl (l' := #[.val (.long raw), .second, .val (.long nw), .second, .val (.long lt), .second, .val (.long pc_), .second, .val (.int fl), .val (.long x2), .second, .val (.int (0 : Int32)), .val (.int (0 : Int32)), .val (.int (1 : Int32)), .val (.ref b205), .val (.long lt), .second, .val (.long ((0 : Int64) + (1 : Int64))), .second, .unset, .unset, .unset, .unset, .unset, .unset, .unset, .unset, .unset, .unset, .unset]) rfl ?_
            refine XS.aload X345.here hx rfl (hb hby at_125) rfl rfl ?_
            refine XS.lload X345.here hx rfl (hb hby at_127) rfl ?_
            show Steps p.tables e below (T345.setTop (mkF m 129 #[.val (.long raw), .second, .val (.long nw), .second, .val (.long lt), .second, .val (.long pc_), .second, .val (.int fl), .val (.long x2), .second, .val (.int (0 : Int32)), .val (.int (0 : Int32)), .val (.int (1 : Int32)), .val (.ref b205), .val (.long lt), .second, .val (.long ((0 : Int64) + (1 : Int64))), .second, .unset, .unset, .unset, .unset, .unset, .unset, .unset, .unset, .unset, .unset, .unset] [(.long pc_), (.ref b205)])) _
            refine st349.trans ?_
            refine XS.aload X349.here hx rfl (hb hby at_132) rfl rfl ?_
            refine XS.lload X349.here hx rfl (hb hby at_134) rfl ?_
            show Steps p.tables e below (T349.setTop (mkF m 136 #[.val (.long raw), .second, .val (.long nw), .second, .val (.long lt), .second, .val (.long pc_), .second, .val (.int fl), .val (.long x2), .second, .val (.int (0 : Int32)), .val (.int (0 : Int32)), .val (.int (1 : Int32)), .val (.ref b205), .val (.long lt), .second, .val (.long ((0 : Int64) + (1 : Int64))), .second, .unset, .unset, .unset, .unset, .unset, .unset, .unset, .unset, .unset, .unset, .unset] [(.long lt), (.ref b205)])) _
            refine st399.trans ?_
            show Steps p.tables e below (T399.setTop (mkF m 139 #[.val (.long raw), .second, .val (.long nw), .second, .val (.long lt), .second, .val (.long pc_), .second, .val (.int fl), .val (.long x2), .second, .val (.int (0 : Int32)), .val (.int (0 : Int32)), .val (.int (1 : Int32)), .val (.ref b205), .val (.long lt), .second, .val (.long ((0 : Int64) + (1 : Int64))), .second, .unset, .unset, .unset, .unset, .unset, .unset, .unset, .unset, .unset, .unset, .unset] [(.ref x405)])) _
            refine st421.trans ?_
            refine XS.lstore X421.here hx rfl (hb hby at_142) rfl (l' := #[.val (.long raw), .second, .val (.long nw), .second, .val (.long lt), .second, .val (.long pc_), .second, .val (.int fl), .val (.long x2), .second, .val (.int (0 : Int32)), .val (.int (0 : Int32)), .val (.int (1 : Int32)), .val (.ref b205), .val (.long lt), .second, .val (.long ((0 : Int64) + (1 : Int64))), .second, .val (.long (((0 : Int64) + (1 : Int64)) + pc_)), .second, .unset, .unset, .unset, .unset, .unset, .unset, .unset, .unset, .unset]) rfl ?_
            refine XS.aload X421.here hx rfl (hb hby at_144) rfl rfl ?_
            show Steps p.tables e below (T421.setTop (mkF m 146 #[.val (.long raw), .second, .val (.long nw), .second, .val (.long lt), .second, .val (.long pc_), .second, .val (.int fl), .val (.long x2), .second, .val (.int (0 : Int32)), .val (.int (0 : Int32)), .val (.int (1 : Int32)), .val (.ref b205), .val (.long lt), .second, .val (.long ((0 : Int64) + (1 : Int64))), .second, .val (.long (((0 : Int64) + (1 : Int64)) + pc_)), .second, .unset, .unset, .unset, .unset, .unset, .unset, .unset, .unset, .unset] [(.ref b205)])) _
            refine st425.trans ?_
            show Steps p.tables e below (T425.setTop (mkF m 149 #[.val (.long raw), .second, .val (.long nw), .second, .val (.long lt), .second, .val (.long pc_), .second, .val (.int fl), .val (.long x2), .second, .val (.int (0 : Int32)), .val (.int (0 : Int32)), .val (.int (1 : Int32)), .val (.ref b205), .val (.long lt), .second, .val (.long ((0 : Int64) + (1 : Int64))), .second, .val (.long (((0 : Int64) + (1 : Int64)) + pc_)), .second, .unset, .unset, .unset, .unset, .unset, .unset, .unset, .unset, .unset] [(.ref x438)])) _
            refine st457.trans ?_
            refine XS.lstore X457.here hx rfl (hb hby at_152) rfl (l' := #[.val (.long raw), .second, .val (.long nw), .second, .val (.long lt), .second, .val (.long pc_), .second, .val (.int fl), .val (.long x2), .second, .val (.int (0 : Int32)), .val (.int (0 : Int32)), .val (.int (1 : Int32)), .val (.ref b205), .val (.long lt), .second, .val (.long ((0 : Int64) + (1 : Int64))), .second, .val (.long (((0 : Int64) + (1 : Int64)) + pc_)), .second, .val (.long (((0 : Int64) + (1 : Int64)) + pc_)), .second, .unset, .unset, .unset, .unset, .unset, .unset, .unset]) rfl ?_
            refine XS.iload X457.here hx rfl (hb hby at_154) rfl ?_
            refine XS.ifYes X457.here hx rfl (pc0 := 156) (pc' := 163) rfl (hb hby at_156) rfl ((if0 _ _).trans (teq ((by decide) : (0 : Int32) = (0 : Int32))).1) (by decide) (by decide) ?_
            refine XS.lconst X457.here hx rfl (hb hby at_163) ?_
            refine XS.lstore X457.here hx rfl (hb hby at_164) rfl (l' := #[.val (.long raw), .second, .val (.long nw), .second, .val (.long lt), .second, .val (.long pc_), .second, .val (.int fl), .val (.long x2), .second, .val (.int (0 : Int32)), .val (.int (0 : Int32)), .val (.int (1 : Int32)), .val (.ref b205), .val (.long lt), .second, .val (.long ((0 : Int64) + (1 : Int64))), .second, .val (.long (((0 : Int64) + (1 : Int64)) + pc_)), .second, .val (.long (((0 : Int64) + (1 : Int64)) + pc_)), .second, .val (.long (0 : Int64)), .second, .unset, .unset, .unset, .unset, .unset]) rfl ?_
            show Steps p.tables e below (T457.setTop (mkF m 166 #[.val (.long raw), .second, .val (.long nw), .second, .val (.long lt), .second, .val (.long pc_), .second, .val (.int fl), .val (.long x2), .second, .val (.int (0 : Int32)), .val (.int (0 : Int32)), .val (.int (1 : Int32)), .val (.ref b205), .val (.long lt), .second, .val (.long ((0 : Int64) + (1 : Int64))), .second, .val (.long (((0 : Int64) + (1 : Int64)) + pc_)), .second, .val (.long (((0 : Int64) + (1 : Int64)) + pc_)), .second, .val (.long (0 : Int64)), .second, .unset, .unset, .unset, .unset, .unset] [])) _
            refine XS.iload X457.here hx rfl (hb hby at_166) rfl ?_
            refine XS.ifNo X457.here hx rfl (hb hby at_168) rfl ((if0 _ _).trans (feq ((by decide) : ¬ ((1 : Int32) = (0 : Int32)))).1) ?_
            refine XS.lconst X457.here hx rfl (hb hby at_171) ?_
            refine XS.goto X457.here hx rfl (pc0 := 172) (pc' := 176) rfl (hb hby at_172) (by decide) (by decide) ?_
            refine XS.lstore X457.here hx rfl (hb hby at_176) rfl (l' := #[.val (.long raw), .second, .val (.long nw), .second, .val (.long lt), .second, .val (.long pc_), .second, .val (.int fl), .val (.long x2), .second, .val (.int (0 : Int32)), .val (.int (0 : Int32)), .val (.int (1 : Int32)), .val (.ref b205), .val (.long lt), .second, .val (.long ((0 : Int64) + (1 : Int64))), .second, .val (.long (((0 : Int64) + (1 : Int64)) + pc_)), .second, .val (.long (((0 : Int64) + (1 : Int64)) + pc_)), .second, .val (.long (0 : Int64)), .second, .val (.long (1 : Int64)), .second, .unset, .unset, .unset]) rfl ?_
            refine XS.iload X457.here hx rfl (hb hby at_178) rfl ?_
            show Steps p.tables e below (T457.setTop (mkF m 180 #[.val (.long raw), .second, .val (.long nw), .second, .val (.long lt), .second, .val (.long pc_), .second, .val (.int fl), .val (.long x2), .second, .val (.int (0 : Int32)), .val (.int (0 : Int32)), .val (.int (1 : Int32)), .val (.ref b205), .val (.long lt), .second, .val (.long ((0 : Int64) + (1 : Int64))), .second, .val (.long (((0 : Int64) + (1 : Int64)) + pc_)), .second, .val (.long (((0 : Int64) + (1 : Int64)) + pc_)), .second, .val (.long (0 : Int64)), .second, .val (.long (1 : Int64)), .second, .unset, .unset, .unset] [(.int (1 : Int32))])) _
            refine XS.ifNo X457.here hx rfl (hb hby at_180) rfl ((if0 _ _).trans (feq ((by decide) : ¬ ((1 : Int32) = (0 : Int32)))).1) ?_
            refine XS.lload X457.here hx rfl (hb hby at_183) rfl ?_
            refine XS.lconst X457.here hx rfl (hb hby at_185) ?_
            refine XS.lcmp X457.here hx rfl (hb hby at_186) rfl ?_
            refine XS.ifYes X457.here hx rfl (pc0 := 187) (pc' := 200) rfl (hb hby at_187) rfl ((if0 _ _).trans (teq ((lw_eq ((0 : Int64) + (1 : Int64)) (1 : Int64)).mpr ((by decide) : ((0 : Int64) + (1 : Int64)) = (1 : Int64)) : (lcmpW ((0 : Int64) + (1 : Int64)) (1 : Int64)) = (0 : Int32))).1) (by decide) (by decide) ?_
            refine XS.iconst X457.here hx rfl (hb hby at_200) ?_
            show Steps p.tables e below (T457.setTop (mkF m 201 #[.val (.long raw), .second, .val (.long nw), .second, .val (.long lt), .second, .val (.long pc_), .second, .val (.int fl), .val (.long x2), .second, .val (.int (0 : Int32)), .val (.int (0 : Int32)), .val (.int (1 : Int32)), .val (.ref b205), .val (.long lt), .second, .val (.long ((0 : Int64) + (1 : Int64))), .second, .val (.long (((0 : Int64) + (1 : Int64)) + pc_)), .second, .val (.long (((0 : Int64) + (1 : Int64)) + pc_)), .second, .val (.long (0 : Int64)), .second, .val (.long (1 : Int64)), .second, .unset, .unset, .unset] [(.int (1 : Int32))])) _
            refine XS.goto X457.here hx rfl (pc0 := 201) (pc' := 221) rfl (hb hby at_201) (by decide) (by decide) ?_
            refine XS.istore X457.here hx rfl (hb hby at_221) rfl (l' := #[.val (.long raw), .second, .val (.long nw), .second, .val (.long lt), .second, .val (.long pc_), .second, .val (.int fl), .val (.long x2), .second, .val (.int (0 : Int32)), .val (.int (0 : Int32)), .val (.int (1 : Int32)), .val (.ref b205), .val (.long lt), .second, .val (.long ((0 : Int64) + (1 : Int64))), .second, .val (.long (((0 : Int64) + (1 : Int64)) + pc_)), .second, .val (.long (((0 : Int64) + (1 : Int64)) + pc_)), .second, .val (.long (0 : Int64)), .second, .val (.long (1 : Int64)), .second, .val (.int (1 : Int32)), .unset, .unset]) rfl ?_
            refine XS.iload X457.here hx rfl (hb hby at_223) rfl ?_
            refine XS.ifYes X457.here hx rfl (pc0 := 225) (pc' := 232) rfl (hb hby at_225) rfl ((if0 _ _).trans (teq ((by decide) : (0 : Int32) = (0 : Int32))).1) (by decide) (by decide) ?_
            refine XS.lload X457.here hx rfl (hb hby at_232) rfl ?_
            refine XS.lload X457.here hx rfl (hb hby at_234) rfl ?_
            show Steps p.tables e below (T457.setTop (mkF m 236 #[.val (.long raw), .second, .val (.long nw), .second, .val (.long lt), .second, .val (.long pc_), .second, .val (.int fl), .val (.long x2), .second, .val (.int (0 : Int32)), .val (.int (0 : Int32)), .val (.int (1 : Int32)), .val (.ref b205), .val (.long lt), .second, .val (.long ((0 : Int64) + (1 : Int64))), .second, .val (.long (((0 : Int64) + (1 : Int64)) + pc_)), .second, .val (.long (((0 : Int64) + (1 : Int64)) + pc_)), .second, .val (.long (0 : Int64)), .second, .val (.long (1 : Int64)), .second, .val (.int (1 : Int32)), .unset, .unset] [(.long (1 : Int64)), (.long (0 : Int64))])) _
            refine XS.ladd X457.here hx rfl (hb hby at_236) rfl ?_
            refine XS.lload X457.here hx rfl (hb hby at_237) rfl ?_
            refine XS.ladd X457.here hx rfl (hb hby at_239) rfl ?_
            refine XS.lstore X457.here hx rfl (hb hby at_240) rfl (l' := #[.val (.long raw), .second, .val (.long nw), .second, .val (.long lt), .second, .val (.long pc_), .second, .val (.int fl), .val (.long x2), .second, .val (.int (0 : Int32)), .val (.int (0 : Int32)), .val (.int (1 : Int32)), .val (.ref b205), .val (.long lt), .second, .val (.long ((0 : Int64) + (1 : Int64))), .second, .val (.long (((0 : Int64) + (1 : Int64)) + pc_)), .second, .val (.long (((0 : Int64) + (1 : Int64)) + pc_)), .second, .val (.long (0 : Int64)), .second, .val (.long (1 : Int64)), .second, .val (.int (1 : Int32)), .val (.long ((1 : Int64) + pc_)), .second]) rfl ?_
            refine XS.iload X457.here hx rfl (hb hby at_242) rfl ?_
            refine XS.ifNo X457.here hx rfl (hb hby at_244) rfl ((if0 _ _).trans (feq ((by decide) : ¬ ((1 : Int32) = (0 : Int32)))).1) ?_
            show Steps p.tables e below (T457.setTop (mkF m 247 #[.val (.long raw), .second, .val (.long nw), .second, .val (.long lt), .second, .val (.long pc_), .second, .val (.int fl), .val (.long x2), .second, .val (.int (0 : Int32)), .val (.int (0 : Int32)), .val (.int (1 : Int32)), .val (.ref b205), .val (.long lt), .second, .val (.long ((0 : Int64) + (1 : Int64))), .second, .val (.long (((0 : Int64) + (1 : Int64)) + pc_)), .second, .val (.long (((0 : Int64) + (1 : Int64)) + pc_)), .second, .val (.long (0 : Int64)), .second, .val (.long (1 : Int64)), .second, .val (.int (1 : Int32)), .val (.long ((1 : Int64) + pc_)), .second] [])) _
            refine XS.lload X457.here hx rfl (hb hby at_247) rfl ?_
            refine XS.lload X457.here hx rfl (hb hby at_249) rfl ?_
            refine XS.lload X457.here hx rfl (hb hby at_251) rfl ?_
            refine XS.ladd X457.here hx rfl (hb hby at_253) rfl ?_
            refine XS.lcmp X457.here hx rfl (hb hby at_254) rfl ?_
            refine XS.ifNo X457.here hx rfl (hb hby at_255) rfl ((if0 _ _).trans (teq ((lw_eq (((0 : Int64) + (1 : Int64)) + pc_) (((0 : Int64) + (1 : Int64)) + pc_)).mpr (rfl : (((0 : Int64) + (1 : Int64)) + pc_) = (((0 : Int64) + (1 : Int64)) + pc_)) : (lcmpW (((0 : Int64) + (1 : Int64)) + pc_) (((0 : Int64) + (1 : Int64)) + pc_)) = (0 : Int32))).2) ?_
            show Steps p.tables e below (T457.setTop (mkF m 258 #[.val (.long raw), .second, .val (.long nw), .second, .val (.long lt), .second, .val (.long pc_), .second, .val (.int fl), .val (.long x2), .second, .val (.int (0 : Int32)), .val (.int (0 : Int32)), .val (.int (1 : Int32)), .val (.ref b205), .val (.long lt), .second, .val (.long ((0 : Int64) + (1 : Int64))), .second, .val (.long (((0 : Int64) + (1 : Int64)) + pc_)), .second, .val (.long (((0 : Int64) + (1 : Int64)) + pc_)), .second, .val (.long (0 : Int64)), .second, .val (.long (1 : Int64)), .second, .val (.int (1 : Int32)), .val (.long ((1 : Int64) + pc_)), .second] [])) _
            refine XS.lload X457.here hx rfl (hb hby at_258) rfl ?_
            refine XS.lload X457.here hx rfl (hb hby at_260) rfl ?_
            refine XS.lcmp X457.here hx rfl (hb hby at_262) rfl ?_
            refine XS.ifNo X457.here hx rfl (hb hby at_263) rfl ((if0 _ _).trans (teq ((lw_eq (((0 : Int64) + (1 : Int64)) + pc_) ((1 : Int64) + pc_)).mpr ((congrArg (· + pc_) (by decide : ((0 : Int64) + (1 : Int64)) = (1 : Int64))) : (((0 : Int64) + (1 : Int64)) + pc_) = ((1 : Int64) + pc_)) : (lcmpW (((0 : Int64) + (1 : Int64)) + pc_) ((1 : Int64) + pc_)) = (0 : Int32))).2) ?_
            refine XS.iconst X457.here hx rfl (hb hby at_266) ?_
            refine XS.goto X457.here hx rfl (pc0 := 267) (pc' := 271) rfl (hb hby at_267) (by decide) (by decide) ?_
            exact kt
          obtain ⟨fs, hr, hrun, hended, hW, hsame⟩ := X457.leave (v := some (.int (1 : Int32))) (fun h => by rw [Bd.returns] at h; cases h)
          refine ⟨_, _, pre0 _ (S461 _ ?_), hrun, hended, _, _, rfl, ?_, ⟨_, rfl⟩, hW, hsame.mono (by decide) (by decide)⟩
          · exact retN X457 hx (t := .boolean) Bd.returns (by simp) (hb hby at_271) hr
          · show Q_rm_law Z raw nw lt pc_ fl wV kV vV h0 n0 _ T457.heap _
            rw [k459]
            exact ⟨rfl, N460⟩
        · have N462 := Fr.app N255 N298
          have ge463 : n0 ≤ x294 := by rw [← O264.1]; exact Nat.le_trans O264.2.1 f300
          have ne464 : b205 ≠ x294 := Nat.ne_of_lt (Nat.lt_of_lt_of_le (Exa.lt f230) f300)
          have ne465 : x212 ≠ x294 := Nat.ne_of_lt (Nat.lt_of_lt_of_le (Exa.lt f235) f300)
          have ne466 : x213 ≠ x294 := Nat.ne_of_lt (Nat.lt_of_lt_of_le (Exa.lt f243) f300)
          have ne467 : x215 ≠ x294 := Nat.ne_of_lt (Nat.lt_of_lt_of_le (Exa.lt f245) f300)
          have ne468 : x216 ≠ x294 := Nat.ne_of_lt (Nat.lt_of_lt_of_le (Exa.lt f253) f300)
          have ge469 : n0 ≤ x295 := by rw [← O264.1]; exact Nat.le_trans O264.2.1 f301
          have ne470 : b205 ≠ x295 := Nat.ne_of_lt (Nat.lt_of_lt_of_le (Exa.lt f230) f301)
          have ne471 : x212 ≠ x295 := Nat.ne_of_lt (Nat.lt_of_lt_of_le (Exa.lt f235) f301)
          have ne472 : x213 ≠ x295 := Nat.ne_of_lt (Nat.lt_of_lt_of_le (Exa.lt f243) f301)
          have ne473 : x215 ≠ x295 := Nat.ne_of_lt (Nat.lt_of_lt_of_le (Exa.lt f245) f301)
          have ne474 : x216 ≠ x295 := Nat.ne_of_lt (Nat.lt_of_lt_of_le (Exa.lt f253) f301)
          have O475 := O264.keep k299 (allS ge_b205 (allS ge256 (allS ge260 all0)))
          obtain ⟨cq476, kq476, q476a, q476b, q476c⟩ := isOf hZ rfl f303
          obtain ⟨_, _, ⟨T476, L476, k476, n476⟩, -, X476, ⟨Lc476, hQ476, l476, y476, z476⟩, st476⟩ := X265.virtualBack hx (y := (⟨"com/example/sluice/sluice/WaitRecorder", "intervalSnapshot", "(J)Lcom/example/sluice/sluice/WaitStatistics;"⟩ : MethodName)) (z := (⟨"com/example/sluice/sluice/WaitRecorder", "intervalSnapshot", "(J)Lcom/example/sluice/sluice/WaitStatistics;"⟩ : MethodName)) hown (mvT hZ (own_w hw 82 rfl)) (mvT hZ (own_w hw 83 rfl)) (notFace_of_selects (args := #[]) (mvT hZ (own_w hw 85 rfl))) (mvT hZ (own_w hw 85 rfl)) (mvT hZ (own_w hw 84 rfl)) (by decide) (backOf (W := 0) (rm_isnap l Z a0 hw [] b205 lt x2 (own_fd lt x2) x294 x295 x296 x215 x216 x217 ((own_fd lt x2) * x2) ((0 : Int64) + (1 : Int64)) nw ((0 : Int64) + (1 : Int64)) wV kV vV T265.heap n0 O475 f303 f304 f305 f306 f307 f308 f309 f310 f311 f312 f313 f314 f315 f316 f317 f318 f319 f320 f321 f322 f323 f324 f325 f326 f327 ge_b205 ge463 ge260 ne464 ne470 ne261 ne263 f302 (Ne.symm ne467) (Ne.symm ne468) (Ne.symm ne473) (Ne.symm ne474) f229 S_V E_V A_V hlen rfl) hZ (own_w hw 86 rfl) (own_w hw 7 rfl) (by decide) (by decide)) q476a q476c (g := (mkF m 117 #[.val (.long raw), .second, .val (.long nw), .second, .val (.long lt), .second, .val (.long pc_), .second, .val (.int fl), .val (.long x2), .second, .val (.int (0 : Int32)), .val (.int (0 : Int32)), .val (.int (1 : Int32)), .val (.ref b205), .val (.long lt), .second, .unset, .unset, .unset, .unset, .unset, .unset, .unset, .unset, .unset, .unset, .unset, .unset, .unset] [(.long lt), (.ref b205)])) rfl (by rw [hml]; rfl) (Steps.refl _) (argsL := [(.long lt)]) (rest := []) (lenOf pd_7 rfl) rfl (by show 2 * 0 + _ ≤ _; exact Nat.le_of_eq rfl) (hb hby at_117) (fun _ _ => ⟨rfl, rfl, (by decide : 10 + 5 ≤ _), (by decide : 67 + 35 ≤ _)⟩)
          dsimp only [Pt.U, Pt.locs, Pt.cells, Pt.slots] at X476 l476 y476 z476 st476 hQ476
          subst l476 y476 z476
          obtain ⟨x477, rfl, N478, k479, f480, f481, f482⟩ := hQ476
          have N483 := Fr.app N462 N478
          have ge484 : n0 ≤ x477 := by rw [← O475.1]; exact Nat.le_trans O475.2.1 f480
          have ne485 : b205 ≠ x477 := Nat.ne_of_lt (Nat.lt_of_lt_of_le (Exa.lt f303) f480)
          have f486 := (Exa.keep f235 k299)
          have ne487 : x212 ≠ x477 := Nat.ne_of_lt (Nat.lt_of_lt_of_le (Exa.lt f486) f480)
          have f488 := (Exa.keep f243 k299)
          have ne489 : x213 ≠ x477 := Nat.ne_of_lt (Nat.lt_of_lt_of_le (Exa.lt f488) f480)
          have ne490 : x215 ≠ x477 := Nat.ne_of_lt (Nat.lt_of_lt_of_le (Exa.lt f318) f480)
          have ne491 : x216 ≠ x477 := Nat.ne_of_lt (Nat.lt_of_lt_of_le (Exa.lt f326) f480)
          have ne492 : x294 ≠ x477 := Nat.ne_of_lt (Nat.lt_of_lt_of_le (Exa.lt f308) f480)
          have ne493 : x295 ≠ x477 := Nat.ne_of_lt (Nat.lt_of_lt_of_le (Exa.lt f316) f480)
          have O494 := O475.keep k479 all0
          obtain ⟨cq495, kq495, q495a, q495b, q495c⟩ := isOf hZ rfl f481
          obtain ⟨_, _, ⟨T495, L495, k495, n495⟩, -, X495, ⟨Lc495, hQ495, l495, y495, z495⟩, st495⟩ := X476.virtualBack hx (y := (⟨"com/example/sluice/sluice/WaitStatistics", "startedAtOnce", "()J"⟩ : MethodName)) (z := (⟨"com/example/sluice/sluice/WaitStatistics", "startedAtOnce", "()J"⟩ : MethodName)) hown (mvT hZ (own_w hw 124 rfl)) (mvT hZ (own_w hw 125 rfl)) (notFace_of_selects (args := #[]) (mvT hZ (own_w hw 127 rfl))) (mvT hZ (own_w hw 127 rfl)) (mvT hZ (own_w hw 126 rfl)) (by decide) (backOf (W := 0) (rm_get l Z a0 hw [] x477 ((0 : Int64) + (1 : Int64)) T476.heap n0 O494 f482) hZ (own_w hw 128 rfl) (own_w hw 94 rfl) (by decide) (by decide)) q495a q495c (g := (mkF m 120 #[.val (.long raw), .second, .val (.long nw), .second, .val (.long lt), .second, .val (.long pc_), .second, .val (.int fl), .val (.long x2), .second, .val (.int (0 : Int32)), .val (.int (0 : Int32)), .val (.int (1 : Int32)), .val (.ref b205), .val (.long lt), .second, .unset, .unset, .unset, .unset, .unset, .unset, .unset, .unset, .unset, .unset, .unset, .unset, .unset] [(.ref x477)])) rfl (by rw [hml]; rfl) (Steps.refl _) (argsL := []) (rest := []) (lenOf pd_8 rfl) rfl (by show 2 * 0 + _ ≤ _; exact Nat.le_of_eq rfl) (hb hby at_120) (fun _ _ => ⟨rfl, rfl, (by decide : 15 + 0 ≤ _), (by decide : 102 + 0 ≤ _)⟩)
          dsimp only [Pt.U, Pt.locs, Pt.cells, Pt.slots] at X495 l495 y495 z495 st495 hQ495
          subst l495 y495 z495
          obtain ⟨rfl, N496, k497⟩ := hQ495
          have N498 := Fr.app N483 N496
          have f500 := (Exa.keep f303 k479)
          have f501 := (Fld.keep f304 k479 nin0)
          have f502 := (Fld.keep f305 k479 nin0)
          have f503 := (Fld.keep f306 k479 nin0)
          have f504 := (Fld.keep f307 k479 nin0)
          have f505 := (Exa.keep f308 k479)
          have f506 := (Fld.keep f309 k479 nin0)
          have f507 := (Fld.keep f310 k479 nin0)
          have f508 := (Fld.keep f311 k479 nin0)
          have f509 := (Fld.keep f312 k479 nin0)
          have f510 := (Fld.keep f313 k479 nin0)
          have f511 := (Fld.keep f314 k479 nin0)
          have f512 := (Fld.keep f315 k479 nin0)
          have f513 := (Exa.keep f316 k479)
          have f514 := (Arv.keep f317 k479 nin0)
          have f515 := (Exa.keep f318 k479)
          have f516 := (Fld.keep f319 k479 nin0)
          have f517 := (Fld.keep f320 k479 nin0)
          have f518 := (Fld.keep f321 k479 nin0)
          have f519 := (Fld.keep f322 k479 nin0)
          have f520 := (Fld.keep f323 k479 nin0)
          have f521 := (Fld.keep f324 k479 nin0)
          have f522 := (Fld.keep f325 k479 nin0)
          have f523 := (Exa.keep f326 k479)
          have f524 := (Arv.keep f327 k479 nin0)
          obtain ⟨cq499, kq499, q499a, q499b, q499c⟩ := isOf hZ k497 f500
          obtain ⟨_, _, ⟨T499, L499, k499, n499⟩, -, X499, ⟨Lc499, hQ499, l499, y499, z499⟩, st499⟩ := X495.virtualBack hx (y := (⟨"com/example/sluice/sluice/WaitRecorder", "startedAtOnceEarlier", "(J)V"⟩ : MethodName)) (z := (⟨"com/example/sluice/sluice/WaitRecorder", "startedAtOnceEarlier", "(J)V"⟩ : MethodName)) hown (mvT hZ (own_w hw 129 rfl)) (mvT hZ (own_w hw 130 rfl)) (notFace_of_selects (args := #[]) (mvT hZ (own_w hw 132 rfl))) (mvT hZ (own_w hw 132 rfl)) (mvT hZ (own_w hw 131 rfl)) (by decide) (backOf (W := 0) (rm_sae l Z a0 hw [] b205 pc_ x2 (own_fd lt x2) x294 x295 x296 x215 x216 x217 ((own_fd lt x2) * x2) ((0 : Int64) + (1 : Int64)) nw ((0 : Int64) + (1 : Int64)) T476.heap n0 O494 f500 f501 f502 f503 f504 f505 f506 f507 f508 f509 f510 f511 f512 f513 f514 f515 f516 f517 f518 f519 f520 f521 f522 f523 f524 ge_b205 ge463 ge260 ne464 ne470 ne261 ne263 f302 (Ne.symm ne467) (Ne.symm ne468) (Ne.symm ne473) (Ne.symm ne474) f229) hZ (own_w hw 133 rfl) (own_w hw 7 rfl) (by decide) (by decide)) q499a q499c (g := (mkF m 129 #[.val (.long raw), .second, .val (.long nw), .second, .val (.long lt), .second, .val (.long pc_), .second, .val (.int fl), .val (.long x2), .second, .val (.int (0 : Int32)), .val (.int (0 : Int32)), .val (.int (1 : Int32)), .val (.ref b205), .val (.long lt), .second, .val (.long ((0 : Int64) + (1 : Int64))), .second, .unset, .unset, .unset, .unset, .unset, .unset, .unset, .unset, .unset, .unset, .unset] [(.long pc_), (.ref b205)])) rfl (by rw [hml]; rfl) (Steps.refl _) (argsL := [(.long pc_)]) (rest := []) (lenOf pd_2 rfl) rfl (by show 2 * 0 + _ ≤ _; exact Nat.le_of_eq rfl) (hb hby at_129) (fun _ _ => ⟨rfl, k497, (by decide : 15 + 0 ≤ _), (by decide : 102 + 0 ≤ _)⟩)
          dsimp only [Pt.U, Pt.locs, Pt.cells, Pt.slots] at X499 l499 y499 z499 st499 hQ499
          subst l499 y499 z499
          obtain ⟨rfl, N525, k526, f527, f528, f529, f530, f531, f532, f533, f534, f535, f536, f537, f538, f539, f540, f541, f542, f543, f544, f545, f546⟩ := hQ499
          have N547 := Fr.app N498 N525
          have O548 := O494.keep k526 (allS ge463 (allS ge260 all0))
          have f550 := (Exa.keep f500 k526)
          have f551 := (Fld.keep f501 k526 (ninS ne464 (ninS ne261 nin0)))
          have f552 := (Fld.keep f502 k526 (ninS ne464 (ninS ne261 nin0)))
          have f553 := (Fld.keep f503 k526 (ninS ne464 (ninS ne261 nin0)))
          have f554 := (Fld.keep f504 k526 (ninS ne464 (ninS ne261 nin0)))
          obtain ⟨cq549, kq549, q549a, q549b, q549c⟩ := isOf hZ rfl f550
          obtain ⟨_, _, ⟨T549, L549, k549, n549⟩, -, X549, ⟨Lc549, hQ549, l549, y549, z549⟩, st549⟩ := X499.virtualBack hx (y := (⟨"com/example/sluice/sluice/WaitRecorder", "intervalSnapshot", "(J)Lcom/example/sluice/sluice/WaitStatistics;"⟩ : MethodName)) (z := (⟨"com/example/sluice/sluice/WaitRecorder", "intervalSnapshot", "(J)Lcom/example/sluice/sluice/WaitStatistics;"⟩ : MethodName)) hown (mvT hZ (own_w hw 82 rfl)) (mvT hZ (own_w hw 83 rfl)) (notFace_of_selects (args := #[]) (mvT hZ (own_w hw 85 rfl))) (mvT hZ (own_w hw 85 rfl)) (mvT hZ (own_w hw 84 rfl)) (by decide) (backOf (W := 0) (rm_isnap l Z a0 hw [] b205 lt x2 (own_fd lt x2) x294 x295 x296 x215 x216 x217 ((own_fd lt x2) * x2) (((0 : Int64) + (1 : Int64)) + pc_) nw (((0 : Int64) + (1 : Int64)) + pc_) wV kV vV T499.heap n0 O548 f550 f551 f552 f553 f554 f527 f528 f529 f530 f531 f532 f533 f534 f535 f536 f537 f538 f539 f540 f541 f542 f543 f544 f545 f546 ge_b205 ge463 ge260 ne464 ne470 ne261 ne263 f302 (Ne.symm ne467) (Ne.symm ne468) (Ne.symm ne473) (Ne.symm ne474) f229 S_V E_V A_V hlen rfl) hZ (own_w hw 86 rfl) (own_w hw 7 rfl) (by decide) (by decide)) q549a q549c (g := (mkF m 136 #[.val (.long raw), .second, .val (.long nw), .second, .val (.long lt), .second, .val (.long pc_), .second, .val (.int fl), .val (.long x2), .second, .val (.int (0 : Int32)), .val (.int (0 : Int32)), .val (.int (1 : Int32)), .val (.ref b205), .val (.long lt), .second, .val (.long ((0 : Int64) + (1 : Int64))), .second, .unset, .unset, .unset, .unset, .unset, .unset, .unset, .unset, .unset, .unset, .unset] [(.long lt), (.ref b205)])) rfl (by rw [hml]; rfl) (Steps.refl _) (argsL := [(.long lt)]) (rest := []) (lenOf pd_7 rfl) rfl (by show 2 * 0 + _ ≤ _; exact Nat.le_of_eq rfl) (hb hby at_136) (fun _ _ => ⟨rfl, rfl, (by decide : 15 + 5 ≤ _), (by decide : 102 + 35 ≤ _)⟩)
          dsimp only [Pt.U, Pt.locs, Pt.cells, Pt.slots] at X549 l549 y549 z549 st549 hQ549
          subst l549 y549 z549
          obtain ⟨x555, rfl, N556, k557, f558, f559, f560⟩ := hQ549
          have N561 := Fr.app N547 N556
          have ge562 : n0 ≤ x555 := by rw [← O548.1]; exact Nat.le_trans O548.2.1 f558
          have ne563 : b205 ≠ x555 := Nat.ne_of_lt (Nat.lt_of_lt_of_le (Exa.lt f550) f558)
          have f564 := (Exa.keep (Exa.keep f486 k479) k526)
          have ne565 : x212 ≠ x555 := Nat.ne_of_lt (Nat.lt_of_lt_of_le (Exa.lt f564) f558)
          have f566 := (Exa.keep (Exa.keep f488 k479) k526)
          have ne567 : x213 ≠ x555 := Nat.ne_of_lt (Nat.lt_of_lt_of_le (Exa.lt f566) f558)
          have ne568 : x215 ≠ x555 := Nat.ne_of_lt (Nat.lt_of_lt_of_le (Exa.lt f537) f558)
          have ne569 : x216 ≠ x555 := Nat.ne_of_lt (Nat.lt_of_lt_of_le (Exa.lt f545) f558)
          have ne570 : x294 ≠ x555 := Nat.ne_of_lt (Nat.lt_of_lt_of_le (Exa.lt f527) f558)
          have ne571 : x295 ≠ x555 := Nat.ne_of_lt (Nat.lt_of_lt_of_le (Exa.lt f535) f558)
          have f572 := (Exa.keep f481 k526)
          have ne573 : x477 ≠ x555 := Nat.ne_of_lt (Nat.lt_of_lt_of_le (Exa.lt f572) f558)
          have O574 := O548.keep k557 all0
          obtain ⟨cq575, kq575, q575a, q575b, q575c⟩ := isOf hZ rfl f559
          obtain ⟨_, _, ⟨T575, L575, k575, n575⟩, -, X575, ⟨Lc575, hQ575, l575, y575, z575⟩, st575⟩ := X549.virtualBack hx (y := (⟨"com/example/sluice/sluice/WaitStatistics", "startedAtOnce", "()J"⟩ : MethodName)) (z := (⟨"com/example/sluice/sluice/WaitStatistics", "startedAtOnce", "()J"⟩ : MethodName)) hown (mvT hZ (own_w hw 124 rfl)) (mvT hZ (own_w hw 125 rfl)) (notFace_of_selects (args := #[]) (mvT hZ (own_w hw 127 rfl))) (mvT hZ (own_w hw 127 rfl)) (mvT hZ (own_w hw 126 rfl)) (by decide) (backOf (W := 0) (rm_get l Z a0 hw [] x555 (((0 : Int64) + (1 : Int64)) + pc_) T549.heap n0 O574 f560) hZ (own_w hw 128 rfl) (own_w hw 94 rfl) (by decide) (by decide)) q575a q575c (g := (mkF m 139 #[.val (.long raw), .second, .val (.long nw), .second, .val (.long lt), .second, .val (.long pc_), .second, .val (.int fl), .val (.long x2), .second, .val (.int (0 : Int32)), .val (.int (0 : Int32)), .val (.int (1 : Int32)), .val (.ref b205), .val (.long lt), .second, .val (.long ((0 : Int64) + (1 : Int64))), .second, .unset, .unset, .unset, .unset, .unset, .unset, .unset, .unset, .unset, .unset, .unset] [(.ref x555)])) rfl (by rw [hml]; rfl) (Steps.refl _) (argsL := []) (rest := []) (lenOf pd_8 rfl) rfl (by show 2 * 0 + _ ≤ _; exact Nat.le_of_eq rfl) (hb hby at_139) (fun _ _ => ⟨rfl, rfl, (by decide : 20 + 0 ≤ _), (by decide : 137 + 0 ≤ _)⟩)
          dsimp only [Pt.U, Pt.locs, Pt.cells, Pt.slots] at X575 l575 y575 z575 st575 hQ575
          subst l575 y575 z575
          obtain ⟨rfl, N576, k577⟩ := hQ575
          have N578 := Fr.app N561 N576
          have f580 := (Exa.keep f550 k557)
          have f581 := (Fld.keep f554 k557 nin0)
          have f582 := (Exa.keep f537 k557)
          have f583 := (Fld.keep f538 k557 nin0)
          have f584 := (Fld.keep f539 k557 nin0)
          have f585 := (Fld.keep f540 k557 nin0)
          have f586 := (Fld.keep f541 k557 nin0)
          have f587 := (Fld.keep f542 k557 nin0)
          have f588 := (Fld.keep f543 k557 nin0)
          have f589 := (Fld.keep f544 k557 nin0)
          have f590 := (Exa.keep f545 k557)
          have f591 := (Arv.keep f546 k557 nin0)
          obtain ⟨cq579, kq579, q579a, q579b, q579c⟩ := isOf hZ k577 f580
          obtain ⟨_, _, ⟨T579, L579, k579, n579⟩, -, X579, ⟨Lc579, hQ579, l579, y579, z579⟩, st579⟩ := X575.virtualBack hx (y := (⟨"com/example/sluice/sluice/WaitRecorder", "sinceResetSnapshot", "()Lcom/example/sluice/sluice/WaitStatistics;"⟩ : MethodName)) (z := (⟨"com/example/sluice/sluice/WaitRecorder", "sinceResetSnapshot", "()Lcom/example/sluice/sluice/WaitStatistics;"⟩ : MethodName)) hown (mvT hZ (own_w hw 134 rfl)) (mvT hZ (own_w hw 135 rfl)) (notFace_of_selects (args := #[]) (mvT hZ (own_w hw 137 rfl))) (mvT hZ (own_w hw 137 rfl)) (mvT hZ (own_w hw 136 rfl)) (by decide) (backOf (W := 0) (rm_ssnap l Z a0 hw [] b205 x215 nw (((0 : Int64) + (1 : Int64)) + pc_) x216 x217 T549.heap n0 O574 f581 f582 f583 f584 f585 f586 f587 f588 f589 f590 f591) hZ (own_w hw 138 rfl) (own_w hw 7 rfl) (by decide) (by decide)) q579a q579c (g := (mkF m 146 #[.val (.long raw), .second, .val (.long nw), .second, .val (.long lt), .second, .val (.long pc_), .second, .val (.int fl), .val (.long x2), .second, .val (.int (0 : Int32)), .val (.int (0 : Int32)), .val (.int (1 : Int32)), .val (.ref b205), .val (.long lt), .second, .val (.long ((0 : Int64) + (1 : Int64))), .second, .val (.long (((0 : Int64) + (1 : Int64)) + pc_)), .second, .unset, .unset, .unset, .unset, .unset, .unset, .unset, .unset, .unset] [(.ref b205)])) rfl (by rw [hml]; rfl) (Steps.refl _) (argsL := []) (rest := []) (lenOf pd_5 rfl) rfl (by show 2 * 0 + _ ≤ _; exact Nat.le_of_eq rfl) (hb hby at_146) (fun _ _ => ⟨rfl, k577, (by decide : 20 + 2 ≤ _), (by decide : 137 + 14 ≤ _)⟩)
          dsimp only [Pt.U, Pt.locs, Pt.cells, Pt.slots] at X579 l579 y579 z579 st579 hQ579
          subst l579 y579 z579
          obtain ⟨x592, rfl, N593, k594, f595, f596, f597⟩ := hQ579
          have N598 := Fr.app N578 N593
          have ge599 : n0 ≤ x592 := by rw [← O574.1]; exact Nat.le_trans O574.2.1 f595
          have ne600 : b205 ≠ x592 := Nat.ne_of_lt (Nat.lt_of_lt_of_le (Exa.lt f580) f595)
          have f601 := (Exa.keep f564 k557)
          have ne602 : x212 ≠ x592 := Nat.ne_of_lt (Nat.lt_of_lt_of_le (Exa.lt f601) f595)
          have f603 := (Exa.keep f566 k557)
          have ne604 : x213 ≠ x592 := Nat.ne_of_lt (Nat.lt_of_lt_of_le (Exa.lt f603) f595)
          have ne605 : x215 ≠ x592 := Nat.ne_of_lt (Nat.lt_of_lt_of_le (Exa.lt f582) f595)
          have ne606 : x216 ≠ x592 := Nat.ne_of_lt (Nat.lt_of_lt_of_le (Exa.lt f590) f595)
          have f607 := (Exa.keep f527 k557)
          have ne608 : x294 ≠ x592 := Nat.ne_of_lt (Nat.lt_of_lt_of_le (Exa.lt f607) f595)
          have f609 := (Exa.keep f535 k557)
          have ne610 : x295 ≠ x592 := Nat.ne_of_lt (Nat.lt_of_lt_of_le (Exa.lt f609) f595)
          have f611 := (Exa.keep f572 k557)
          have ne612 : x477 ≠ x592 := Nat.ne_of_lt (Nat.lt_of_lt_of_le (Exa.lt f611) f595)
          have ne613 : x555 ≠ x592 := Nat.ne_of_lt (Nat.lt_of_lt_of_le (Exa.lt f559) f595)
          have O614 := O574.keep k594 all0
          obtain ⟨cq615, kq615, q615a, q615b, q615c⟩ := isOf hZ rfl f596
          obtain ⟨_, _, ⟨T615, L615, k615, n615⟩, -, X615, ⟨Lc615, hQ615, l615, y615, z615⟩, st615⟩ := X579.virtualBack hx (y := (⟨"com/example/sluice/sluice/WaitStatistics", "startedAtOnce", "()J"⟩ : MethodName)) (z := (⟨"com/example/sluice/sluice/WaitStatistics", "startedAtOnce", "()J"⟩ : MethodName)) hown (mvT hZ (own_w hw 124 rfl)) (mvT hZ (own_w hw 125 rfl)) (notFace_of_selects (args := #[]) (mvT hZ (own_w hw 127 rfl))) (mvT hZ (own_w hw 127 rfl)) (mvT hZ (own_w hw 126 rfl)) (by decide) (backOf (W := 0) (rm_get l Z a0 hw [] x592 (((0 : Int64) + (1 : Int64)) + pc_) T579.heap n0 O614 f597) hZ (own_w hw 128 rfl) (own_w hw 94 rfl) (by decide) (by decide)) q615a q615c (g := (mkF m 149 #[.val (.long raw), .second, .val (.long nw), .second, .val (.long lt), .second, .val (.long pc_), .second, .val (.int fl), .val (.long x2), .second, .val (.int (0 : Int32)), .val (.int (0 : Int32)), .val (.int (1 : Int32)), .val (.ref b205), .val (.long lt), .second, .val (.long ((0 : Int64) + (1 : Int64))), .second, .val (.long (((0 : Int64) + (1 : Int64)) + pc_)), .second, .unset, .unset, .unset, .unset, .unset, .unset, .unset, .unset, .unset] [(.ref x592)])) rfl (by rw [hml]; rfl) (Steps.refl _) (argsL := []) (rest := []) (lenOf pd_8 rfl) rfl (by show 2 * 0 + _ ≤ _; exact Nat.le_of_eq rfl) (hb hby at_149) (fun _ _ => ⟨rfl, rfl, (by decide : 22 + 0 ≤ _), (by decide : 151 + 0 ≤ _)⟩)
          dsimp only [Pt.U, Pt.locs, Pt.cells, Pt.slots] at X615 l615 y615 z615 st615 hQ615
          subst l615 y615 z615
          obtain ⟨rfl, N616, k617⟩ := hQ615
          have N618 := Fr.app N598 N616
          have S619 : ∀ t, Steps p.tables e below (T615.setTop (mkF m 271 #[.val (.long raw), .second, .val (.long nw), .second, .val (.long lt), .second, .val (.long pc_), .second, .val (.int fl), .val (.long x2), .second, .val (.int (0 : Int32)), .val (.int (0 : Int32)), .val (.int (1 : Int32)), .val (.ref b205), .val (.long lt), .second, .val (.long ((0 : Int64) + (1 : Int64))), .second, .val (.long (((0 : Int64) + (1 : Int64)) + pc_)), .second, .val (.long (((0 : Int64) + (1 : Int64)) + pc_)), .second, .val (.long (0 : Int64)), .second, .val (.long (1 : Int64)), .second, .val (.int (1 : Int32)), .val (.long ((1 : Int64) + pc_)), .second] [(.int (1 : Int32))])) t → Steps p.tables e below (s₁.setTop (mkF m 0 #[.val (.long raw), .second, .val (.long nw), .second, .val (.long lt), .second, .val (.long pc_), .second, .val (.int fl), .unset, .unset, .unset, .unset, .unset, .unset, .unset, .unset, .unset, .unset, .unset, .unset, .unset, .unset, .unset, .unset, .unset, .unset, .unset, .unset, .unset] [])) t := by
            intro t kt
            refine S11 t ?_
            refine XS.ifNo X1.here hx rfl (hb hby at_43) rfl ((if0 _ _).trans (feq (c12 : ¬ ((fl &&& (4 : Int32)) = (0 : Int32)))).1) ?_
            refine XS.iconst X1.here hx rfl (hb hby at_46) ?_
            refine XS.goto X1.here hx rfl (pc0 := 47) (pc' := 51) rfl (hb hby at_47) (by decide) (by decide) ?_
            refine XS.istore X1.here hx rfl (hb hby at_51) rfl (l' := #[.val (.long raw), .second, .val (.long nw), .second, .val (.long lt), .second, .val (.long pc_), .second, .val (.int fl), .val (.long x2), .second, .val (.int (0 : Int32)), .val (.int (0 : Int32)), .val (.int (1 : Int32)), .unset, .unset, .unset, .unset, .unset, .unset, .unset, .unset, .unset, .unset, .unset, .unset, .unset, .unset, .unset, .unset]) rfl ?_
            show Steps p.tables e below (T1.setTop (mkF m 53 #[.val (.long raw), .second, .val (.long nw), .second, .val (.long lt), .second, .val (.long pc_), .second, .val (.int fl), .val (.long x2), .second, .val (.int (0 : Int32)), .val (.int (0 : Int32)), .val (.int (1 : Int32)), .unset, .unset, .unset, .unset, .unset, .unset, .unset, .unset, .unset, .unset, .unset, .unset, .unset, .unset, .unset, .unset] [])) _
            refine st205 _ ?_
            refine XS.dup X205.here hx rfl (hb hby at_56) rfl rfl ?_
            refine XS.lload X205.here hx rfl (hb hby at_57) rfl ?_
            refine XS.lloadN X205.here hx rfl (hb hby at_59) rfl ?_
            show Steps p.tables e below (T205.setTop (mkF m 60 #[.val (.long raw), .second, .val (.long nw), .second, .val (.long lt), .second, .val (.long pc_), .second, .val (.int fl), .val (.long x2), .second, .val (.int (0 : Int32)), .val (.int (0 : Int32)), .val (.int (1 : Int32)), .unset, .unset, .unset, .unset, .unset, .unset, .unset, .unset, .unset, .unset, .unset, .unset, .unset, .unset, .unset, .unset] [(.long nw), (.long x2), (.ref b205), (.ref b205)])) _
            refine st211.trans ?_
            refine XS.astore X211.here hx rfl (hb hby at_63) rfl rfl (l' := #[.val (.long raw), .second, .val (.long nw), .second, .val (.long lt), .second, .val (.long pc_), .second, .val (.int fl), .val (.long x2), .second, .val (.int (0 : Int32)), .val (.int (0 : Int32)), .val (.int (1 : Int32)), .val (.ref b205), .unset, .unset, .unset, .unset, .unset, .unset, .unset, .unset, .unset, .unset, .unset, .unset, .unset, .unset, .unset]) rfl ?_
            refine XS.iload X211.here hx rfl (hb hby at_65) rfl ?_
            refine XS.ifYes X211.here hx rfl (pc0 := 67) (pc' := 76) rfl (hb hby at_67) rfl ((if0 _ _).trans (teq ((by decide) : (0 : Int32) = (0 : Int32))).1) (by decide) (by decide) ?_
            refine XS.iload X211.here hx rfl (hb hby at_76) rfl ?_
            refine XS.ifNo X211.here hx rfl (hb hby at_78) rfl ((if0 _ _).trans (feq ((by decide) : ¬ ((1 : Int32) = (0 : Int32)))).1) ?_
            show Steps p.tables e below (T211.setTop (mkF m 81 #[.val (.long raw), .second, .val (.long nw), .second, .val (.long lt), .second, .val (.long pc_), .second, .val (.int fl), .val (.long x2), .second, .val (.int (0 : Int32)), .val (.int (0 : Int32)), .val (.int (1 : Int32)), .val (.ref b205), .unset, .unset, .unset, .unset, .unset, .unset, .unset, .unset, .unset, .unset, .unset, .unset, .unset, .unset, .unset] [])) _
            refine XS.aload X211.here hx rfl (hb hby at_81) rfl rfl ?_
            refine XS.lload X211.here hx rfl (hb hby at_83) rfl ?_
            show Steps p.tables e below (T211.setTop (mkF m 85 #[.val (.long raw), .second, .val (.long nw), .second, .val (.long lt), .second, .val (.long pc_), .second, .val (.int fl), .val (.long x2), .second, .val (.int (0 : Int32)), .val (.int (0 : Int32)), .val (.int (1 : Int32)), .val (.ref b205), .unset, .unset, .unset, .unset, .unset, .unset, .unset, .unset, .unset, .unset, .unset, .unset, .unset, .unset, .unset] [(.long lt), (.ref b205)])) _
            refine st265.trans ?_
            refine XS.iload X265.here hx rfl (hb hby at_88) rfl ?_
            refine XS.ifYes X265.here hx rfl (pc0 := 90) (pc' := 100) rfl (hb hby at_90) rfl ((if0 _ _).trans (teq ((by decide) : (0 : Int32) = (0 : Int32))).1) (by decide) (by decide) ?_
            refine XS.iload X265.here hx rfl (hb hby at_100) rfl ?_
            refine XS.ifNo X265.here hx rfl (hb hby at_102) rfl ((if0 _ _).trans (feq ((by decide) : ¬ ((1 : Int32) = (0 : Int32)))).1) ?_
            refine XS.lload X265.here hx rfl (hb hby at_105) rfl ?_
            show Steps p.tables e below (T265.setTop (mkF m 107 #[.val (.long raw), .second, .val (.long nw), .second, .val (.long lt), .second, .val (.long pc_), .second, .val (.int fl), .val (.long x2), .second, .val (.int (0 : Int32)), .val (.int (0 : Int32)), .val (.int (1 : Int32)), .val (.ref b205), .unset, .unset, .unset, .unset, .unset, .unset, .unset, .unset, .unset, .unset, .unset, .unset, .unset, .unset, .unset] [(.long lt)])) _
            refine XS.goto X265.here hx rfl (pc0 := 107) (pc' := 111) rfl (hb hby at_107) (by decide) (by decide) ?_
            refine XS.lstore X265.here hx rfl (hb hby at_111) rfl (l' := #[.val (.long raw), .second, .val (.long nw), .second, .val (.long lt), .second, .val (.long pc_), .second, .val (.int fl), .val (.long x2), .second, .val (.int (0 : Int32)), .val (.int (0 : Int32)), .val (.int (1 : Int32)), .val (.ref b205), .val (.long lt), .second, .unset, .unset, .unset, .unset, .unset, .unset, .unset, .unset, .unset, .unset, .unset, .unset, .unset]) rfl ?_
            refine XS.aload X265.here hx rfl (hb hby at_113) rfl rfl ?_
            refine XS.lload X265.here hx rfl (hb hby at_115) rfl ?_
            show Steps p.tables e below (T265.setTop (mkF m 117 #[.val (.long raw), .second, .val (.long nw), .second, .val (.long lt), .second, .val (.long pc_), .second, .val (.int fl), .val (.long x2), .second, .val (.int (0 : Int32)), .val (.int (0 : Int32)), .val (.int (1 : Int32)), .val (.ref b205), .val (.long lt), .second, .unset, .unset, .unset, .unset, .unset, .unset, .unset, .unset, .unset, .unset, .unset, .unset, .unset] [(.long lt), (.ref b205)])) _
            refine st476.trans ?_
            show Steps p.tables e below (T476.setTop (mkF m 120 #[.val (.long raw), .second, .val (.long nw), .second, .val (.long lt), .second, .val (.long pc_), .second, .val (.int fl), .val (.long x2), .second, .val (.int (0 : Int32)), .val (.int (0 : Int32)), .val (.int (1 : Int32)), .val (.ref b205), .val (.long lt), .second, .unset, .unset, .unset, .unset, .unset, .unset, .unset, .unset, .unset, .unset, .unset, .unset, .unset] [(.ref x477)])) _
            refine st495.trans ?_
            refine XS.lstore X495.here hx rfl (hb hby at_123) rfl (l' := #[.val (.long raw), .second, .val (.long nw), .second, .val (.long lt), .second, .val (.long pc_), .second, .val (.int fl), .val (.long x2), .second, .val (.int (0 : Int32)), .val (.int (0 : Int32)), .val (.int (1 : Int32)), .val (.ref b205), .val (.long lt), .second, .val (.long ((0 : Int64) + (1 : Int64))), .second, .unset, .unset, .unset, .unset, .unset, .unset, .unset, .unset, .unset, .unset, .unset]) rfl ?_
            refine XS.aload X495.here hx rfl (hb hby at_125) rfl rfl ?_
            refine XS.lload X495.here hx rfl (hb hby at_127) rfl ?_
            show Steps p.tables e below (T495.setTop (mkF m 129 #[.val (.long raw), .second, .val (.long nw), .second, .val (.long lt), .second, .val (.long pc_), .second, .val (.int fl), .val (.long x2), .second, .val (.int (0 : Int32)), .val (.int (0 : Int32)), .val (.int (1 : Int32)), .val (.ref b205), .val (.long lt), .second, .val (.long ((0 : Int64) + (1 : Int64))), .second, .unset, .unset, .unset, .unset, .unset, .unset, .unset, .unset, .unset, .unset, .unset] [(.long pc_), (.ref b205)])) _
            refine st499.trans ?_
            refine XS.aload X499.here hx rfl (hb hby at_132) rfl rfl ?_
            refine XS.lload X499.here hx rfl (hb hby at_134) rfl ?_
            show Steps p.tables e below (T499.setTop (mkF m 136 #[.val (.long raw), .second, .val (.long nw), .second, .val (.long lt), .second, .val (.long pc_), .second, .val (.int fl), .val (.long x2), .second, .val (.int (0 : Int32)), .val (.int (0 : Int32)), .val (.int (1 : Int32)), .val (.ref b205), .val (.long lt), .second, .val (.long ((0 : Int64) + (1 : Int64))), .second, .unset, .unset, .unset, .unset, .unset, .unset, .unset, .unset, .unset, .unset, .unset] [(.long lt), (.ref b205)])) _
            refine st549.trans ?_
            show Steps p.tables e below (T549.setTop (mkF m 139 #[.val (.long raw), .second, .val (.long nw), .second, .val (.long lt), .second, .val (.long pc_), .second, .val (.int fl), .val (.long x2), .second, .val (.int (0 : Int32)), .val (.int (0 : Int32)), .val (.int (1 : Int32)), .val (.ref b205), .val (.long lt), .second, .val (.long ((0 : Int64) + (1 : Int64))), .second, .unset, .unset, .unset, .unset, .unset, .unset, .unset, .unset, .unset, .unset, .unset] [(.ref x555)])) _
            refine st575.trans ?_
            refine XS.lstore X575.here hx rfl (hb hby at_142) rfl (l' := #[.val (.long raw), .second, .val (.long nw), .second, .val (.long lt), .second, .val (.long pc_), .second, .val (.int fl), .val (.long x2), .second, .val (.int (0 : Int32)), .val (.int (0 : Int32)), .val (.int (1 : Int32)), .val (.ref b205), .val (.long lt), .second, .val (.long ((0 : Int64) + (1 : Int64))), .second, .val (.long (((0 : Int64) + (1 : Int64)) + pc_)), .second, .unset, .unset, .unset, .unset, .unset, .unset, .unset, .unset, .unset]) rfl ?_
            refine XS.aload X575.here hx rfl (hb hby at_144) rfl rfl ?_
            show Steps p.tables e below (T575.setTop (mkF m 146 #[.val (.long raw), .second, .val (.long nw), .second, .val (.long lt), .second, .val (.long pc_), .second, .val (.int fl), .val (.long x2), .second, .val (.int (0 : Int32)), .val (.int (0 : Int32)), .val (.int (1 : Int32)), .val (.ref b205), .val (.long lt), .second, .val (.long ((0 : Int64) + (1 : Int64))), .second, .val (.long (((0 : Int64) + (1 : Int64)) + pc_)), .second, .unset, .unset, .unset, .unset, .unset, .unset, .unset, .unset, .unset] [(.ref b205)])) _
            refine st579.trans ?_
            show Steps p.tables e below (T579.setTop (mkF m 149 #[.val (.long raw), .second, .val (.long nw), .second, .val (.long lt), .second, .val (.long pc_), .second, .val (.int fl), .val (.long x2), .second, .val (.int (0 : Int32)), .val (.int (0 : Int32)), .val (.int (1 : Int32)), .val (.ref b205), .val (.long lt), .second, .val (.long ((0 : Int64) + (1 : Int64))), .second, .val (.long (((0 : Int64) + (1 : Int64)) + pc_)), .second, .unset, .unset, .unset, .unset, .unset, .unset, .unset, .unset, .unset] [(.ref x592)])) _
            refine st615.trans ?_
            refine XS.lstore X615.here hx rfl (hb hby at_152) rfl (l' := #[.val (.long raw), .second, .val (.long nw), .second, .val (.long lt), .second, .val (.long pc_), .second, .val (.int fl), .val (.long x2), .second, .val (.int (0 : Int32)), .val (.int (0 : Int32)), .val (.int (1 : Int32)), .val (.ref b205), .val (.long lt), .second, .val (.long ((0 : Int64) + (1 : Int64))), .second, .val (.long (((0 : Int64) + (1 : Int64)) + pc_)), .second, .val (.long (((0 : Int64) + (1 : Int64)) + pc_)), .second, .unset, .unset, .unset, .unset, .unset, .unset, .unset]) rfl ?_
            refine XS.iload X615.here hx rfl (hb hby at_154) rfl ?_
            refine XS.ifYes X615.here hx rfl (pc0 := 156) (pc' := 163) rfl (hb hby at_156) rfl ((if0 _ _).trans (teq ((by decide) : (0 : Int32) = (0 : Int32))).1) (by decide) (by decide) ?_
            refine XS.lconst X615.here hx rfl (hb hby at_163) ?_
            refine XS.lstore X615.here hx rfl (hb hby at_164) rfl (l' := #[.val (.long raw), .second, .val (.long nw), .second, .val (.long lt), .second, .val (.long pc_), .second, .val (.int fl), .val (.long x2), .second, .val (.int (0 : Int32)), .val (.int (0 : Int32)), .val (.int (1 : Int32)), .val (.ref b205), .val (.long lt), .second, .val (.long ((0 : Int64) + (1 : Int64))), .second, .val (.long (((0 : Int64) + (1 : Int64)) + pc_)), .second, .val (.long (((0 : Int64) + (1 : Int64)) + pc_)), .second, .val (.long (0 : Int64)), .second, .unset, .unset, .unset, .unset, .unset]) rfl ?_
            show Steps p.tables e below (T615.setTop (mkF m 166 #[.val (.long raw), .second, .val (.long nw), .second, .val (.long lt), .second, .val (.long pc_), .second, .val (.int fl), .val (.long x2), .second, .val (.int (0 : Int32)), .val (.int (0 : Int32)), .val (.int (1 : Int32)), .val (.ref b205), .val (.long lt), .second, .val (.long ((0 : Int64) + (1 : Int64))), .second, .val (.long (((0 : Int64) + (1 : Int64)) + pc_)), .second, .val (.long (((0 : Int64) + (1 : Int64)) + pc_)), .second, .val (.long (0 : Int64)), .second, .unset, .unset, .unset, .unset, .unset] [])) _
            refine XS.iload X615.here hx rfl (hb hby at_166) rfl ?_
            refine XS.ifNo X615.here hx rfl (hb hby at_168) rfl ((if0 _ _).trans (feq ((by decide) : ¬ ((1 : Int32) = (0 : Int32)))).1) ?_
            refine XS.lconst X615.here hx rfl (hb hby at_171) ?_
            refine XS.goto X615.here hx rfl (pc0 := 172) (pc' := 176) rfl (hb hby at_172) (by decide) (by decide) ?_
            refine XS.lstore X615.here hx rfl (hb hby at_176) rfl (l' := #[.val (.long raw), .second, .val (.long nw), .second, .val (.long lt), .second, .val (.long pc_), .second, .val (.int fl), .val (.long x2), .second, .val (.int (0 : Int32)), .val (.int (0 : Int32)), .val (.int (1 : Int32)), .val (.ref b205), .val (.long lt), .second, .val (.long ((0 : Int64) + (1 : Int64))), .second, .val (.long (((0 : Int64) + (1 : Int64)) + pc_)), .second, .val (.long (((0 : Int64) + (1 : Int64)) + pc_)), .second, .val (.long (0 : Int64)), .second, .val (.long (1 : Int64)), .second, .unset, .unset, .unset]) rfl ?_
            refine XS.iload X615.here hx rfl (hb hby at_178) rfl ?_
            show Steps p.tables e below (T615.setTop (mkF m 180 #[.val (.long raw), .second, .val (.long nw), .second, .val (.long lt), .second, .val (.long pc_), .second, .val (.int fl), .val (.long x2), .second, .val (.int (0 : Int32)), .val (.int (0 : Int32)), .val (.int (1 : Int32)), .val (.ref b205), .val (.long lt), .second, .val (.long ((0 : Int64) + (1 : Int64))), .second, .val (.long (((0 : Int64) + (1 : Int64)) + pc_)), .second, .val (.long (((0 : Int64) + (1 : Int64)) + pc_)), .second, .val (.long (0 : Int64)), .second, .val (.long (1 : Int64)), .second, .unset, .unset, .unset] [(.int (1 : Int32))])) _
            refine XS.ifNo X615.here hx rfl (hb hby at_180) rfl ((if0 _ _).trans (feq ((by decide) : ¬ ((1 : Int32) = (0 : Int32)))).1) ?_
            refine XS.lload X615.here hx rfl (hb hby at_183) rfl ?_
            refine XS.lconst X615.here hx rfl (hb hby at_185) ?_
            refine XS.lcmp X615.here hx rfl (hb hby at_186) rfl ?_
            refine XS.ifYes X615.here hx rfl (pc0 := 187) (pc' := 200) rfl (hb hby at_187) rfl ((if0 _ _).trans (teq ((lw_eq ((0 : Int64) + (1 : Int64)) (1 : Int64)).mpr ((by decide) : ((0 : Int64) + (1 : Int64)) = (1 : Int64)) : (lcmpW ((0 : Int64) + (1 : Int64)) (1 : Int64)) = (0 : Int32))).1) (by decide) (by decide) ?_
            refine XS.iconst X615.here hx rfl (hb hby at_200) ?_
            show Steps p.tables e below (T615.setTop (mkF m 201 #[.val (.long raw), .second, .val (.long nw), .second, .val (.long lt), .second, .val (.long pc_), .second, .val (.int fl), .val (.long x2), .second, .val (.int (0 : Int32)), .val (.int (0 : Int32)), .val (.int (1 : Int32)), .val (.ref b205), .val (.long lt), .second, .val (.long ((0 : Int64) + (1 : Int64))), .second, .val (.long (((0 : Int64) + (1 : Int64)) + pc_)), .second, .val (.long (((0 : Int64) + (1 : Int64)) + pc_)), .second, .val (.long (0 : Int64)), .second, .val (.long (1 : Int64)), .second, .unset, .unset, .unset] [(.int (1 : Int32))])) _
            refine XS.goto X615.here hx rfl (pc0 := 201) (pc' := 221) rfl (hb hby at_201) (by decide) (by decide) ?_
            refine XS.istore X615.here hx rfl (hb hby at_221) rfl (l' := #[.val (.long raw), .second, .val (.long nw), .second, .val (.long lt), .second, .val (.long pc_), .second, .val (.int fl), .val (.long x2), .second, .val (.int (0 : Int32)), .val (.int (0 : Int32)), .val (.int (1 : Int32)), .val (.ref b205), .val (.long lt), .second, .val (.long ((0 : Int64) + (1 : Int64))), .second, .val (.long (((0 : Int64) + (1 : Int64)) + pc_)), .second, .val (.long (((0 : Int64) + (1 : Int64)) + pc_)), .second, .val (.long (0 : Int64)), .second, .val (.long (1 : Int64)), .second, .val (.int (1 : Int32)), .unset, .unset]) rfl ?_
            refine XS.iload X615.here hx rfl (hb hby at_223) rfl ?_
            refine XS.ifYes X615.here hx rfl (pc0 := 225) (pc' := 232) rfl (hb hby at_225) rfl ((if0 _ _).trans (teq ((by decide) : (0 : Int32) = (0 : Int32))).1) (by decide) (by decide) ?_
            refine XS.lload X615.here hx rfl (hb hby at_232) rfl ?_
            refine XS.lload X615.here hx rfl (hb hby at_234) rfl ?_
            show Steps p.tables e below (T615.setTop (mkF m 236 #[.val (.long raw), .second, .val (.long nw), .second, .val (.long lt), .second, .val (.long pc_), .second, .val (.int fl), .val (.long x2), .second, .val (.int (0 : Int32)), .val (.int (0 : Int32)), .val (.int (1 : Int32)), .val (.ref b205), .val (.long lt), .second, .val (.long ((0 : Int64) + (1 : Int64))), .second, .val (.long (((0 : Int64) + (1 : Int64)) + pc_)), .second, .val (.long (((0 : Int64) + (1 : Int64)) + pc_)), .second, .val (.long (0 : Int64)), .second, .val (.long (1 : Int64)), .second, .val (.int (1 : Int32)), .unset, .unset] [(.long (1 : Int64)), (.long (0 : Int64))])) _
            refine XS.ladd X615.here hx rfl (hb hby at_236) rfl ?_
            refine XS.lload X615.here hx rfl (hb hby at_237) rfl ?_
            refine XS.ladd X615.here hx rfl (hb hby at_239) rfl ?_
            refine XS.lstore X615.here hx rfl (hb hby at_240) rfl (l' := #[.val (.long raw), .second, .val (.long nw), .second, .val (.long lt), .second, .val (.long pc_), .second, .val (.int fl), .val (.long x2), .second, .val (.int (0 : Int32)), .val (.int (0 : Int32)), .val (.int (1 : Int32)), .val (.ref b205), .val (.long lt), .second, .val (.long ((0 : Int64) + (1 : Int64))), .second, .val (.long (((0 : Int64) + (1 : Int64)) + pc_)), .second, .val (.long (((0 : Int64) + (1 : Int64)) + pc_)), .second, .val (.long (0 : Int64)), .second, .val (.long (1 : Int64)), .second, .val (.int (1 : Int32)), .val (.long ((1 : Int64) + pc_)), .second]) rfl ?_
            refine XS.iload X615.here hx rfl (hb hby at_242) rfl ?_
            refine XS.ifNo X615.here hx rfl (hb hby at_244) rfl ((if0 _ _).trans (feq ((by decide) : ¬ ((1 : Int32) = (0 : Int32)))).1) ?_
            show Steps p.tables e below (T615.setTop (mkF m 247 #[.val (.long raw), .second, .val (.long nw), .second, .val (.long lt), .second, .val (.long pc_), .second, .val (.int fl), .val (.long x2), .second, .val (.int (0 : Int32)), .val (.int (0 : Int32)), .val (.int (1 : Int32)), .val (.ref b205), .val (.long lt), .second, .val (.long ((0 : Int64) + (1 : Int64))), .second, .val (.long (((0 : Int64) + (1 : Int64)) + pc_)), .second, .val (.long (((0 : Int64) + (1 : Int64)) + pc_)), .second, .val (.long (0 : Int64)), .second, .val (.long (1 : Int64)), .second, .val (.int (1 : Int32)), .val (.long ((1 : Int64) + pc_)), .second] [])) _
            refine XS.lload X615.here hx rfl (hb hby at_247) rfl ?_
            refine XS.lload X615.here hx rfl (hb hby at_249) rfl ?_
            refine XS.lload X615.here hx rfl (hb hby at_251) rfl ?_
            refine XS.ladd X615.here hx rfl (hb hby at_253) rfl ?_
            refine XS.lcmp X615.here hx rfl (hb hby at_254) rfl ?_
            refine XS.ifNo X615.here hx rfl (hb hby at_255) rfl ((if0 _ _).trans (teq ((lw_eq (((0 : Int64) + (1 : Int64)) + pc_) (((0 : Int64) + (1 : Int64)) + pc_)).mpr (rfl : (((0 : Int64) + (1 : Int64)) + pc_) = (((0 : Int64) + (1 : Int64)) + pc_)) : (lcmpW (((0 : Int64) + (1 : Int64)) + pc_) (((0 : Int64) + (1 : Int64)) + pc_)) = (0 : Int32))).2) ?_
            show Steps p.tables e below (T615.setTop (mkF m 258 #[.val (.long raw), .second, .val (.long nw), .second, .val (.long lt), .second, .val (.long pc_), .second, .val (.int fl), .val (.long x2), .second, .val (.int (0 : Int32)), .val (.int (0 : Int32)), .val (.int (1 : Int32)), .val (.ref b205), .val (.long lt), .second, .val (.long ((0 : Int64) + (1 : Int64))), .second, .val (.long (((0 : Int64) + (1 : Int64)) + pc_)), .second, .val (.long (((0 : Int64) + (1 : Int64)) + pc_)), .second, .val (.long (0 : Int64)), .second, .val (.long (1 : Int64)), .second, .val (.int (1 : Int32)), .val (.long ((1 : Int64) + pc_)), .second] [])) _
            refine XS.lload X615.here hx rfl (hb hby at_258) rfl ?_
            refine XS.lload X615.here hx rfl (hb hby at_260) rfl ?_
            refine XS.lcmp X615.here hx rfl (hb hby at_262) rfl ?_
            refine XS.ifNo X615.here hx rfl (hb hby at_263) rfl ((if0 _ _).trans (teq ((lw_eq (((0 : Int64) + (1 : Int64)) + pc_) ((1 : Int64) + pc_)).mpr ((congrArg (· + pc_) (by decide : ((0 : Int64) + (1 : Int64)) = (1 : Int64))) : (((0 : Int64) + (1 : Int64)) + pc_) = ((1 : Int64) + pc_)) : (lcmpW (((0 : Int64) + (1 : Int64)) + pc_) ((1 : Int64) + pc_)) = (0 : Int32))).2) ?_
            refine XS.iconst X615.here hx rfl (hb hby at_266) ?_
            refine XS.goto X615.here hx rfl (pc0 := 267) (pc' := 271) rfl (hb hby at_267) (by decide) (by decide) ?_
            exact kt
          obtain ⟨fs, hr, hrun, hended, hW, hsame⟩ := X615.leave (v := some (.int (1 : Int32))) (fun h => by rw [Bd.returns] at h; cases h)
          refine ⟨_, _, pre0 _ (S619 _ ?_), hrun, hended, _, _, rfl, ?_, ⟨_, rfl⟩, hW, hsame.mono (by decide) (by decide)⟩
          · exact retN X615 hx (t := .boolean) Bd.returns (by simp) (hb hby at_271) hr
          · show Q_rm_law Z raw nw lt pc_ fl wV kV vV h0 n0 _ T615.heap _
            rw [k617]
            exact ⟨rfl, N618⟩
    · have S620 : ∀ t, Steps p.tables e below (T1.setTop (mkF m 43 #[.val (.long raw), .second, .val (.long nw), .second, .val (.long lt), .second, .val (.long pc_), .second, .val (.int fl), .val (.long x2), .second, .val (.int (0 : Int32)), .val (.int (1 : Int32)), .unset, .unset, .unset, .unset, .unset, .unset, .unset, .unset, .unset, .unset, .unset, .unset, .unset, .unset, .unset, .unset, .unset] [(.int (fl &&& (4 : Int32)))])) t → Steps p.tables e below (s₁.setTop (mkF m 0 #[.val (.long raw), .second, .val (.long nw), .second, .val (.long lt), .second, .val (.long pc_), .second, .val (.int fl), .unset, .unset, .unset, .unset, .unset, .unset, .unset, .unset, .unset, .unset, .unset, .unset, .unset, .unset, .unset, .unset, .unset, .unset, .unset, .unset, .unset] [])) t := by
        intro t kt
        refine S9 t ?_
        refine XS.ifNo X1.here hx rfl (hb hby at_29) rfl ((if0 _ _).trans (feq (c10 : ¬ ((fl &&& (2 : Int32)) = (0 : Int32)))).1) ?_
        refine XS.iconst X1.here hx rfl (hb hby at_32) ?_
        refine XS.goto X1.here hx rfl (pc0 := 33) (pc' := 37) rfl (hb hby at_33) (by decide) (by decide) ?_
        refine XS.istore X1.here hx rfl (hb hby at_37) rfl (l' := #[.val (.long raw), .second, .val (.long nw), .second, .val (.long lt), .second, .val (.long pc_), .second, .val (.int fl), .val (.long x2), .second, .val (.int (0 : Int32)), .val (.int (1 : Int32)), .unset, .unset, .unset, .unset, .unset, .unset, .unset, .unset, .unset, .unset, .unset, .unset, .unset, .unset, .unset, .unset, .unset]) rfl ?_
        refine XS.iload X1.here hx rfl (hb hby at_39) rfl ?_
        refine XS.iconst X1.here hx rfl (hb hby at_41) ?_
        show Steps p.tables e below (T1.setTop (mkF m 42 #[.val (.long raw), .second, .val (.long nw), .second, .val (.long lt), .second, .val (.long pc_), .second, .val (.int fl), .val (.long x2), .second, .val (.int (0 : Int32)), .val (.int (1 : Int32)), .unset, .unset, .unset, .unset, .unset, .unset, .unset, .unset, .unset, .unset, .unset, .unset, .unset, .unset, .unset, .unset, .unset] [(.int (4 : Int32)), (.int fl)])) _
        refine XS.iand X1.here hx rfl (hb hby at_42) rfl ?_
        exact kt
      rcases Decidable.em ((fl &&& (4 : Int32)) = (0 : Int32)) with c621 | c621
      · obtain ⟨T622, h622, X622, e622, E622, A622, D622, -, st622⟩ := newO X1 hx hZ hown (own_w hw 5 rfl) (own_w hw 6 rfl) (own_w hw 7 rfl) k5 (g := (mkF m 53 #[.val (.long raw), .second, .val (.long nw), .second, .val (.long lt), .second, .val (.long pc_), .second, .val (.int fl), .val (.long x2), .second, .val (.int (0 : Int32)), .val (.int (1 : Int32)), .val (.int (0 : Int32)), .unset, .unset, .unset, .unset, .unset, .unset, .unset, .unset, .unset, .unset, .unset, .unset, .unset, .unset, .unset, .unset] [])) rfl (hb hby at_53) (by decide) (by decide)
        obtain ⟨b622, g622⟩ : ∃ z, z = h0.size := ⟨_, rfl⟩
        have ge_b622 : n0 ≤ b622 := by rw [g622, ← O0.1]; exact O0.2.1
        rw [← g622] at A622 D622 st622
        have O623 := O0.ext E622
        have F624 : Fld Z h622 b622 "com/example/sluice/sluice/WaitRecorder" "intervalMillis" "J" (.long (0 : Int64)) := D622 (Or.inr (own_w hw 15 rfl)) (ty := .long) (by decide)
        have F625 : Fld Z h622 b622 "com/example/sluice/sluice/WaitRecorder" "intervalIndex" "J" (.long (0 : Int64)) := D622 (Or.inl (own_w hw 20 rfl)) (ty := .long) (by decide)
        have F626 : Fld Z h622 b622 "com/example/sluice/sluice/WaitRecorder" "interval" "Lcom/example/sluice/sluice/WaitRecorder$Tally;" .null := D622 (Or.inl (own_w hw 63 rfl)) (ty := (.object "com/example/sluice/sluice/WaitRecorder$Tally")) (by decide)
        have F627 : Fld Z h622 b622 "com/example/sluice/sluice/WaitRecorder" "sinceReset" "Lcom/example/sluice/sluice/WaitRecorder$Tally;" .null := D622 (Or.inl (own_w hw 65 rfl)) (ty := (.object "com/example/sluice/sluice/WaitRecorder$Tally")) (by decide)
        obtain ⟨_, _, ⟨T628, L628, k628, n628⟩, -, X628, ⟨Lc628, hQ628, l628, y628, z628⟩, st628⟩ := X622.specialBack hx (y := (⟨"com/example/sluice/sluice/WaitRecorder", "<init>", "(JJ)V"⟩ : MethodName)) rfl hown (mvT hZ (own_w hw 8 rfl)) (mvT hZ (own_w hw 9 rfl)) (mvT hZ (own_w hw 10 rfl)) (by decide) (backOf (W := 1) (rm_rinit l Z a0 hw [] b622 x2 nw wV kV vV h622 n0 O623 A622 ge_b622 F624 F625 F626 F627 S_V E_V A_V hlen) hZ (own_w hw 10 rfl) (own_w hw 7 rfl) (by decide) (by decide)) (g := (mkF m 60 #[.val (.long raw), .second, .val (.long nw), .second, .val (.long lt), .second, .val (.long pc_), .second, .val (.int fl), .val (.long x2), .second, .val (.int (0 : Int32)), .val (.int (1 : Int32)), .val (.int (0 : Int32)), .unset, .unset, .unset, .unset, .unset, .unset, .unset, .unset, .unset, .unset, .unset, .unset, .unset, .unset, .unset, .unset] [(.long nw), (.long x2), (.ref b622), (.ref b622)])) rfl (by rw [hml]; rfl) (Steps.refl _) (a := b622) (argsL := [(.long x2), (.long nw)]) (rest := [(.ref b622)]) (lenOf pd_6 rfl) rfl (by show 2 * 0 + _ ≤ _; exact Nat.le_of_eq rfl) (hb hby at_60) (fun _ _ => ⟨rfl, e622, (by decide : 1 + 6 ≤ _), (by decide : 4 + 42 ≤ _)⟩)
        dsimp only [Pt.U, Pt.locs, Pt.cells, Pt.slots] at X628 l628 y628 z628 st628 hQ628
        subst l628 y628 z628
        obtain ⟨x629, x630, x631, x632, x633, x634, rfl, N635, k636, f637, f638, f639, f640, f641, f642, f643, f644, f645, f646, f647, f648, f649, f650, f651, f652, f653, f654, f655, f656, f657, f658, f659, f660, f661, f662, f663, f664, f665, f666, f667, f668, f669, f670, f671⟩ := hQ628
        have N672 := Fr.app N6 N635
        have ge673 : n0 ≤ x629 := by rw [← O623.1]; exact Nat.le_trans O623.2.1 f637
        have ne674 : b622 ≠ x629 := Nat.ne_of_lt (Nat.lt_of_lt_of_le (Exa.lt A622) f637)
        have ge675 : n0 ≤ x630 := by rw [← O623.1]; exact Nat.le_trans O623.2.1 f638
        have ne676 : b622 ≠ x630 := Nat.ne_of_lt (Nat.lt_of_lt_of_le (Exa.lt A622) f638)
        have ge677 : n0 ≤ x632 := by rw [← O623.1]; exact Nat.le_trans O623.2.1 f639
        have ne678 : b622 ≠ x632 := Nat.ne_of_lt (Nat.lt_of_lt_of_le (Exa.lt A622) f639)
        have ge679 : n0 ≤ x633 := by rw [← O623.1]; exact Nat.le_trans O623.2.1 f640
        have ne680 : b622 ≠ x633 := Nat.ne_of_lt (Nat.lt_of_lt_of_le (Exa.lt A622) f640)
        have O681 := O623.keep k636 (allS ge_b622 all0)
        obtain ⟨cq682, kq682, q682a, q682b, q682c⟩ := isOf hZ rfl f647
        obtain ⟨_, _, ⟨T682, L682, k682, n682⟩, -, X682, ⟨Lc682, hQ682, l682, y682, z682⟩, st682⟩ := X628.virtualBack hx (y := (⟨"com/example/sluice/sluice/WaitRecorder", "reset", "(J)V"⟩ : MethodName)) (z := (⟨"com/example/sluice/sluice/WaitRecorder", "reset", "(J)V"⟩ : MethodName)) hown (mvT hZ (own_w hw 77 rfl)) (mvT hZ (own_w hw 78 rfl)) (notFace_of_selects (args := #[]) (mvT hZ (own_w hw 80 rfl))) (mvT hZ (own_w hw 80 rfl)) (mvT hZ (own_w hw 79 rfl)) (by decide) (backOf (W := 0) (rm_reset l Z a0 hw [] b622 lt x2 (own_fd nw x2) x629 x630 x631 x632 x633 x634 ((own_fd nw x2) * x2) (0 : Int64) nw (0 : Int64) wV kV vV T628.heap n0 O681 f647 f648 f649 f650 f651 f652 f653 f654 f655 f656 f657 f658 f659 f660 f661 f662 f663 f664 f665 f666 f667 f668 f669 f670 f671 ge_b622 ge673 ge677 ne674 ne676 ne678 ne680 f641 f642 f643 f644 f645 f646 S_V E_V A_V) hZ (own_w hw 81 rfl) (own_w hw 7 rfl) (by decide) (by decide)) q682a q682c (g := (mkF m 97 #[.val (.long raw), .second, .val (.long nw), .second, .val (.long lt), .second, .val (.long pc_), .second, .val (.int fl), .val (.long x2), .second, .val (.int (0 : Int32)), .val (.int (1 : Int32)), .val (.int (0 : Int32)), .val (.ref b622), .unset, .unset, .unset, .unset, .unset, .unset, .unset, .unset, .unset, .unset, .unset, .unset, .unset, .unset, .unset] [(.long lt), (.ref b622)])) rfl (by rw [hml]; rfl) (Steps.refl _) (argsL := [(.long lt)]) (rest := []) (lenOf pd_2 rfl) rfl (by show 2 * 0 + _ ≤ _; exact Nat.le_of_eq rfl) (hb hby at_97) (fun _ _ => ⟨rfl, rfl, (by decide : 7 + 3 ≤ _), (by decide : 46 + 21 ≤ _)⟩)
        dsimp only [Pt.U, Pt.locs, Pt.cells, Pt.slots] at X682 l682 y682 z682 st682 hQ682
        subst l682 y682 z682
        obtain ⟨x683, x684, x685, rfl, N686, k687, f688, f689, f690, f691, f692, f693, f694, f695, f696, f697, f698, f699, f700, f701, f702, f703, f704, f705⟩ := hQ682
        have N706 := Fr.app N672 N686
        have ge707 : n0 ≤ x683 := by rw [← O681.1]; exact Nat.le_trans O681.2.1 f688
        have ne708 : b622 ≠ x683 := Nat.ne_of_lt (Nat.lt_of_lt_of_le (Exa.lt f647) f688)
        have ne709 : x629 ≠ x683 := Nat.ne_of_lt (Nat.lt_of_lt_of_le (Exa.lt f652) f688)
        have ne710 : x630 ≠ x683 := Nat.ne_of_lt (Nat.lt_of_lt_of_le (Exa.lt f660) f688)
        have ne711 : x632 ≠ x683 := Nat.ne_of_lt (Nat.lt_of_lt_of_le (Exa.lt f662) f688)
        have ne712 : x633 ≠ x683 := Nat.ne_of_lt (Nat.lt_of_lt_of_le (Exa.lt f670) f688)
        have ge713 : n0 ≤ x684 := by rw [← O681.1]; exact Nat.le_trans O681.2.1 f689
        have ne714 : b622 ≠ x684 := Nat.ne_of_lt (Nat.lt_of_lt_of_le (Exa.lt f647) f689)
        have ne715 : x629 ≠ x684 := Nat.ne_of_lt (Nat.lt_of_lt_of_le (Exa.lt f652) f689)
        have ne716 : x630 ≠ x684 := Nat.ne_of_lt (Nat.lt_of_lt_of_le (Exa.lt f660) f689)
        have ne717 : x632 ≠ x684 := Nat.ne_of_lt (Nat.lt_of_lt_of_le (Exa.lt f662) f689)
        have ne718 : x633 ≠ x684 := Nat.ne_of_lt (Nat.lt_of_lt_of_le (Exa.lt f670) f689)
        have O719 := O681.keep k687 (allS ge_b622 all0)
        have f721 := (Exa.keep f652 k687)
        have f722 := (Fld.keep f653 k687 (ninS (Ne.symm ne674) nin0))
        have f723 := (Fld.keep f654 k687 (ninS (Ne.symm ne674) nin0))
        have f724 := (Fld.keep f655 k687 (ninS (Ne.symm ne674) nin0))
        have f725 := (Fld.keep f656 k687 (ninS (Ne.symm ne674) nin0))
        have f726 := (Fld.keep f657 k687 (ninS (Ne.symm ne674) nin0))
        have f727 := (Fld.keep f658 k687 (ninS (Ne.symm ne674) nin0))
        have f728 := (Fld.keep f659 k687 (ninS (Ne.symm ne674) nin0))
        have f729 := (Exa.keep f660 k687)
        have f730 := (Arv.keep f661 k687 (ninS (Ne.symm ne676) nin0))
        obtain ⟨cq720, kq720, q720a, q720b, q720c⟩ := isOf hZ rfl f691
        obtain ⟨_, _, ⟨T720, L720, k720, n720⟩, -, X720, ⟨Lc720, hQ720, l720, y720, z720⟩, st720⟩ := X682.virtualBack hx (y := (⟨"com/example/sluice/sluice/WaitRecorder", "intervalSnapshot", "(J)Lcom/example/sluice/sluice/WaitStatistics;"⟩ : MethodName)) (z := (⟨"com/example/sluice/sluice/WaitRecorder", "intervalSnapshot", "(J)Lcom/example/sluice/sluice/WaitStatistics;"⟩ : MethodName)) hown (mvT hZ (own_w hw 82 rfl)) (mvT hZ (own_w hw 83 rfl)) (notFace_of_selects (args := #[]) (mvT hZ (own_w hw 85 rfl))) (mvT hZ (own_w hw 85 rfl)) (mvT hZ (own_w hw 84 rfl)) (by decide) (backOf (W := 0) (rm_isnap l Z a0 hw [] b622 nw x2 (own_fd nw x2) x629 x630 x631 x683 x684 x685 ((own_fd nw x2) * x2) (0 : Int64) lt (0 : Int64) wV kV vV T682.heap n0 O719 f691 f692 f693 f694 f695 f721 f722 f723 f724 f725 f726 f727 f728 f729 f730 f696 f697 f698 f699 f700 f701 f702 f703 f704 f705 ge_b622 ge673 ge707 ne674 ne676 ne708 ne714 f641 ne709 ne715 ne710 ne716 f690 S_V E_V A_V hlen rfl) hZ (own_w hw 86 rfl) (own_w hw 7 rfl) (by decide) (by decide)) q720a q720c (g := (mkF m 117 #[.val (.long raw), .second, .val (.long nw), .second, .val (.long lt), .second, .val (.long pc_), .second, .val (.int fl), .val (.long x2), .second, .val (.int (0 : Int32)), .val (.int (1 : Int32)), .val (.int (0 : Int32)), .val (.ref b622), .val (.long nw), .second, .unset, .unset, .unset, .unset, .unset, .unset, .unset, .unset, .unset, .unset, .unset, .unset, .unset] [(.long nw), (.ref b622)])) rfl (by rw [hml]; rfl) (Steps.refl _) (argsL := [(.long nw)]) (rest := []) (lenOf pd_7 rfl) rfl (by show 2 * 0 + _ ≤ _; exact Nat.le_of_eq rfl) (hb hby at_117) (fun _ _ => ⟨rfl, rfl, (by decide : 10 + 5 ≤ _), (by decide : 67 + 35 ≤ _)⟩)
        dsimp only [Pt.U, Pt.locs, Pt.cells, Pt.slots] at X720 l720 y720 z720 st720 hQ720
        subst l720 y720 z720
        obtain ⟨x731, rfl, N732, k733, f734, f735, f736⟩ := hQ720
        have N737 := Fr.app N706 N732
        have ge738 : n0 ≤ x731 := by rw [← O719.1]; exact Nat.le_trans O719.2.1 f734
        have ne739 : b622 ≠ x731 := Nat.ne_of_lt (Nat.lt_of_lt_of_le (Exa.lt f691) f734)
        have ne740 : x629 ≠ x731 := Nat.ne_of_lt (Nat.lt_of_lt_of_le (Exa.lt f721) f734)
        have ne741 : x630 ≠ x731 := Nat.ne_of_lt (Nat.lt_of_lt_of_le (Exa.lt f729) f734)
        have f742 := (Exa.keep f662 k687)
        have ne743 : x632 ≠ x731 := Nat.ne_of_lt (Nat.lt_of_lt_of_le (Exa.lt f742) f734)
        have f744 := (Exa.keep f670 k687)
        have ne745 : x633 ≠ x731 := Nat.ne_of_lt (Nat.lt_of_lt_of_le (Exa.lt f744) f734)
        have ne746 : x683 ≠ x731 := Nat.ne_of_lt (Nat.lt_of_lt_of_le (Exa.lt f696) f734)
        have ne747 : x684 ≠ x731 := Nat.ne_of_lt (Nat.lt_of_lt_of_le (Exa.lt f704) f734)
        have O748 := O719.keep k733 all0
        obtain ⟨cq749, kq749, q749a, q749b, q749c⟩ := isOf hZ rfl f735
        obtain ⟨_, _, ⟨T749, L749, k749, n749⟩, -, X749, ⟨Lc749, hQ749, l749, y749, z749⟩, st749⟩ := X720.virtualBack hx (y := (⟨"com/example/sluice/sluice/WaitStatistics", "startedAtOnce", "()J"⟩ : MethodName)) (z := (⟨"com/example/sluice/sluice/WaitStatistics", "startedAtOnce", "()J"⟩ : MethodName)) hown (mvT hZ (own_w hw 124 rfl)) (mvT hZ (own_w hw 125 rfl)) (notFace_of_selects (args := #[]) (mvT hZ (own_w hw 127 rfl))) (mvT hZ (own_w hw 127 rfl)) (mvT hZ (own_w hw 126 rfl)) (by decide) (backOf (W := 0) (rm_get l Z a0 hw [] x731 (0 : Int64) T720.heap n0 O748 f736) hZ (own_w hw 128 rfl) (own_w hw 94 rfl) (by decide) (by decide)) q749a q749c (g := (mkF m 120 #[.val (.long raw), .second, .val (.long nw), .second, .val (.long lt), .second, .val (.long pc_), .second, .val (.int fl), .val (.long x2), .second, .val (.int (0 : Int32)), .val (.int (1 : Int32)), .val (.int (0 : Int32)), .val (.ref b622), .val (.long nw), .second, .unset, .unset, .unset, .unset, .unset, .unset, .unset, .unset, .unset, .unset, .unset, .unset, .unset] [(.ref x731)])) rfl (by rw [hml]; rfl) (Steps.refl _) (argsL := []) (rest := []) (lenOf pd_8 rfl) rfl (by show 2 * 0 + _ ≤ _; exact Nat.le_of_eq rfl) (hb hby at_120) (fun _ _ => ⟨rfl, rfl, (by decide : 15 + 0 ≤ _), (by decide : 102 + 0 ≤ _)⟩)
        dsimp only [Pt.U, Pt.locs, Pt.cells, Pt.slots] at X749 l749 y749 z749 st749 hQ749
        subst l749 y749 z749
        obtain ⟨rfl, N750, k751⟩ := hQ749
        have N752 := Fr.app N737 N750
        have f754 := (Exa.keep f691 k733)
        have f755 := (Fld.keep f692 k733 nin0)
        have f756 := (Fld.keep f693 k733 nin0)
        have f757 := (Fld.keep f694 k733 nin0)
        have f758 := (Fld.keep f695 k733 nin0)
        have f759 := (Exa.keep f721 k733)
        have f760 := (Fld.keep f722 k733 nin0)
        have f761 := (Fld.keep f723 k733 nin0)
        have f762 := (Fld.keep f724 k733 nin0)
        have f763 := (Fld.keep f725 k733 nin0)
        have f764 := (Fld.keep f726 k733 nin0)
        have f765 := (Fld.keep f727 k733 nin0)
        have f766 := (Fld.keep f728 k733 nin0)
        have f767 := (Exa.keep f729 k733)
        have f768 := (Arv.keep f730 k733 nin0)
        have f769 := (Exa.keep f696 k733)
        have f770 := (Fld.keep f697 k733 nin0)
        have f771 := (Fld.keep f698 k733 nin0)
        have f772 := (Fld.keep f699 k733 nin0)
        have f773 := (Fld.keep f700 k733 nin0)
        have f774 := (Fld.keep f701 k733 nin0)
        have f775 := (Fld.keep f702 k733 nin0)
        have f776 := (Fld.keep f703 k733 nin0)
        have f777 := (Exa.keep f704 k733)
        have f778 := (Arv.keep f705 k733 nin0)
        obtain ⟨cq753, kq753, q753a, q753b, q753c⟩ := isOf hZ k751 f754
        obtain ⟨_, _, ⟨T753, L753, k753, n753⟩, -, X753, ⟨Lc753, hQ753, l753, y753, z753⟩, st753⟩ := X749.virtualBack hx (y := (⟨"com/example/sluice/sluice/WaitRecorder", "startedAtOnceEarlier", "(J)V"⟩ : MethodName)) (z := (⟨"com/example/sluice/sluice/WaitRecorder", "startedAtOnceEarlier", "(J)V"⟩ : MethodName)) hown (mvT hZ (own_w hw 129 rfl)) (mvT hZ (own_w hw 130 rfl)) (notFace_of_selects (args := #[]) (mvT hZ (own_w hw 132 rfl))) (mvT hZ (own_w hw 132 rfl)) (mvT hZ (own_w hw 131 rfl)) (by decide) (backOf (W := 0) (rm_sae l Z a0 hw [] b622 pc_ x2 (own_fd nw x2) x629 x630 x631 x683 x684 x685 ((own_fd nw x2) * x2) (0 : Int64) lt (0 : Int64) T720.heap n0 O748 f754 f755 f756 f757 f758 f759 f760 f761 f762 f763 f764 f765 f766 f767 f768 f769 f770 f771 f772 f773 f774 f775 f776 f777 f778 ge_b622 ge673 ge707 ne674 ne676 ne708 ne714 f641 ne709 ne715 ne710 ne716 f690) hZ (own_w hw 133 rfl) (own_w hw 7 rfl) (by decide) (by decide)) q753a q753c (g := (mkF m 129 #[.val (.long raw), .second, .val (.long nw), .second, .val (.long lt), .second, .val (.long pc_), .second, .val (.int fl), .val (.long x2), .second, .val (.int (0 : Int32)), .val (.int (1 : Int32)), .val (.int (0 : Int32)), .val (.ref b622), .val (.long nw), .second, .val (.long (0 : Int64)), .second, .unset, .unset, .unset, .unset, .unset, .unset, .unset, .unset, .unset, .unset, .unset] [(.long pc_), (.ref b622)])) rfl (by rw [hml]; rfl) (Steps.refl _) (argsL := [(.long pc_)]) (rest := []) (lenOf pd_2 rfl) rfl (by show 2 * 0 + _ ≤ _; exact Nat.le_of_eq rfl) (hb hby at_129) (fun _ _ => ⟨rfl, k751, (by decide : 15 + 0 ≤ _), (by decide : 102 + 0 ≤ _)⟩)
        dsimp only [Pt.U, Pt.locs, Pt.cells, Pt.slots] at X753 l753 y753 z753 st753 hQ753
        subst l753 y753 z753
        obtain ⟨rfl, N779, k780, f781, f782, f783, f784, f785, f786, f787, f788, f789, f790, f791, f792, f793, f794, f795, f796, f797, f798, f799, f800⟩ := hQ753
        have N801 := Fr.app N752 N779
        have O802 := O748.keep k780 (allS ge673 (allS ge707 all0))
        have f804 := (Exa.keep f754 k780)
        have f805 := (Fld.keep f755 k780 (ninS ne674 (ninS ne708 nin0)))
        have f806 := (Fld.keep f756 k780 (ninS ne674 (ninS ne708 nin0)))
        have f807 := (Fld.keep f757 k780 (ninS ne674 (ninS ne708 nin0)))
        have f808 := (Fld.keep f758 k780 (ninS ne674 (ninS ne708 nin0)))
        obtain ⟨cq803, kq803, q803a, q803b, q803c⟩ := isOf hZ rfl f804
        obtain ⟨_, _, ⟨T803, L803, k803, n803⟩, -, X803, ⟨Lc803, hQ803, l803, y803, z803⟩, st803⟩ := X753.virtualBack hx (y := (⟨"com/example/sluice/sluice/WaitRecorder", "intervalSnapshot", "(J)Lcom/example/sluice/sluice/WaitStatistics;"⟩ : MethodName)) (z := (⟨"com/example/sluice/sluice/WaitRecorder", "intervalSnapshot", "(J)Lcom/example/sluice/sluice/WaitStatistics;"⟩ : MethodName)) hown (mvT hZ (own_w hw 82 rfl)) (mvT hZ (own_w hw 83 rfl)) (notFace_of_selects (args := #[]) (mvT hZ (own_w hw 85 rfl))) (mvT hZ (own_w hw 85 rfl)) (mvT hZ (own_w hw 84 rfl)) (by decide) (backOf (W := 0) (rm_isnap l Z a0 hw [] b622 nw x2 (own_fd nw x2) x629 x630 x631 x683 x684 x685 ((own_fd nw x2) * x2) ((0 : Int64) + pc_) lt ((0 : Int64) + pc_) wV kV vV T753.heap n0 O802 f804 f805 f806 f807 f808 f781 f782 f783 f784 f785 f786 f787 f788 f789 f790 f791 f792 f793 f794 f795 f796 f797 f798 f799 f800 ge_b622 ge673 ge707 ne674 ne676 ne708 ne714 f641 ne709 ne715 ne710 ne716 f690 S_V E_V A_V hlen rfl) hZ (own_w hw 86 rfl) (own_w hw 7 rfl) (by decide) (by decide)) q803a q803c (g := (mkF m 136 #[.val (.long raw), .second, .val (.long nw), .second, .val (.long lt), .second, .val (.long pc_), .second, .val (.int fl), .val (.long x2), .second, .val (.int (0 : Int32)), .val (.int (1 : Int32)), .val (.int (0 : Int32)), .val (.ref b622), .val (.long nw), .second, .val (.long (0 : Int64)), .second, .unset, .unset, .unset, .unset, .unset, .unset, .unset, .unset, .unset, .unset, .unset] [(.long nw), (.ref b622)])) rfl (by rw [hml]; rfl) (Steps.refl _) (argsL := [(.long nw)]) (rest := []) (lenOf pd_7 rfl) rfl (by show 2 * 0 + _ ≤ _; exact Nat.le_of_eq rfl) (hb hby at_136) (fun _ _ => ⟨rfl, rfl, (by decide : 15 + 5 ≤ _), (by decide : 102 + 35 ≤ _)⟩)
        dsimp only [Pt.U, Pt.locs, Pt.cells, Pt.slots] at X803 l803 y803 z803 st803 hQ803
        subst l803 y803 z803
        obtain ⟨x809, rfl, N810, k811, f812, f813, f814⟩ := hQ803
        have N815 := Fr.app N801 N810
        have ge816 : n0 ≤ x809 := by rw [← O802.1]; exact Nat.le_trans O802.2.1 f812
        have ne817 : b622 ≠ x809 := Nat.ne_of_lt (Nat.lt_of_lt_of_le (Exa.lt f804) f812)
        have ne818 : x629 ≠ x809 := Nat.ne_of_lt (Nat.lt_of_lt_of_le (Exa.lt f781) f812)
        have ne819 : x630 ≠ x809 := Nat.ne_of_lt (Nat.lt_of_lt_of_le (Exa.lt f789) f812)
        have f820 := (Exa.keep (Exa.keep f742 k733) k780)
        have ne821 : x632 ≠ x809 := Nat.ne_of_lt (Nat.lt_of_lt_of_le (Exa.lt f820) f812)
        have f822 := (Exa.keep (Exa.keep f744 k733) k780)
        have ne823 : x633 ≠ x809 := Nat.ne_of_lt (Nat.lt_of_lt_of_le (Exa.lt f822) f812)
        have ne824 : x683 ≠ x809 := Nat.ne_of_lt (Nat.lt_of_lt_of_le (Exa.lt f791) f812)
        have ne825 : x684 ≠ x809 := Nat.ne_of_lt (Nat.lt_of_lt_of_le (Exa.lt f799) f812)
        have f826 := (Exa.keep f735 k780)
        have ne827 : x731 ≠ x809 := Nat.ne_of_lt (Nat.lt_of_lt_of_le (Exa.lt f826) f812)
        have O828 := O802.keep k811 all0
        obtain ⟨cq829, kq829, q829a, q829b, q829c⟩ := isOf hZ rfl f813
        obtain ⟨_, _, ⟨T829, L829, k829, n829⟩, -, X829, ⟨Lc829, hQ829, l829, y829, z829⟩, st829⟩ := X803.virtualBack hx (y := (⟨"com/example/sluice/sluice/WaitStatistics", "startedAtOnce", "()J"⟩ : MethodName)) (z := (⟨"com/example/sluice/sluice/WaitStatistics", "startedAtOnce", "()J"⟩ : MethodName)) hown (mvT hZ (own_w hw 124 rfl)) (mvT hZ (own_w hw 125 rfl)) (notFace_of_selects (args := #[]) (mvT hZ (own_w hw 127 rfl))) (mvT hZ (own_w hw 127 rfl)) (mvT hZ (own_w hw 126 rfl)) (by decide) (backOf (W := 0) (rm_get l Z a0 hw [] x809 ((0 : Int64) + pc_) T803.heap n0 O828 f814) hZ (own_w hw 128 rfl) (own_w hw 94 rfl) (by decide) (by decide)) q829a q829c (g := (mkF m 139 #[.val (.long raw), .second, .val (.long nw), .second, .val (.long lt), .second, .val (.long pc_), .second, .val (.int fl), .val (.long x2), .second, .val (.int (0 : Int32)), .val (.int (1 : Int32)), .val (.int (0 : Int32)), .val (.ref b622), .val (.long nw), .second, .val (.long (0 : Int64)), .second, .unset, .unset, .unset, .unset, .unset, .unset, .unset, .unset, .unset, .unset, .unset] [(.ref x809)])) rfl (by rw [hml]; rfl) (Steps.refl _) (argsL := []) (rest := []) (lenOf pd_8 rfl) rfl (by show 2 * 0 + _ ≤ _; exact Nat.le_of_eq rfl) (hb hby at_139) (fun _ _ => ⟨rfl, rfl, (by decide : 20 + 0 ≤ _), (by decide : 137 + 0 ≤ _)⟩)
        dsimp only [Pt.U, Pt.locs, Pt.cells, Pt.slots] at X829 l829 y829 z829 st829 hQ829
        subst l829 y829 z829
        obtain ⟨rfl, N830, k831⟩ := hQ829
        have N832 := Fr.app N815 N830
        have f834 := (Exa.keep f804 k811)
        have f835 := (Fld.keep f808 k811 nin0)
        have f836 := (Exa.keep f791 k811)
        have f837 := (Fld.keep f792 k811 nin0)
        have f838 := (Fld.keep f793 k811 nin0)
        have f839 := (Fld.keep f794 k811 nin0)
        have f840 := (Fld.keep f795 k811 nin0)
        have f841 := (Fld.keep f796 k811 nin0)
        have f842 := (Fld.keep f797 k811 nin0)
        have f843 := (Fld.keep f798 k811 nin0)
        have f844 := (Exa.keep f799 k811)
        have f845 := (Arv.keep f800 k811 nin0)
        obtain ⟨cq833, kq833, q833a, q833b, q833c⟩ := isOf hZ k831 f834
        obtain ⟨_, _, ⟨T833, L833, k833, n833⟩, -, X833, ⟨Lc833, hQ833, l833, y833, z833⟩, st833⟩ := X829.virtualBack hx (y := (⟨"com/example/sluice/sluice/WaitRecorder", "sinceResetSnapshot", "()Lcom/example/sluice/sluice/WaitStatistics;"⟩ : MethodName)) (z := (⟨"com/example/sluice/sluice/WaitRecorder", "sinceResetSnapshot", "()Lcom/example/sluice/sluice/WaitStatistics;"⟩ : MethodName)) hown (mvT hZ (own_w hw 134 rfl)) (mvT hZ (own_w hw 135 rfl)) (notFace_of_selects (args := #[]) (mvT hZ (own_w hw 137 rfl))) (mvT hZ (own_w hw 137 rfl)) (mvT hZ (own_w hw 136 rfl)) (by decide) (backOf (W := 0) (rm_ssnap l Z a0 hw [] b622 x683 lt ((0 : Int64) + pc_) x684 x685 T803.heap n0 O828 f835 f836 f837 f838 f839 f840 f841 f842 f843 f844 f845) hZ (own_w hw 138 rfl) (own_w hw 7 rfl) (by decide) (by decide)) q833a q833c (g := (mkF m 146 #[.val (.long raw), .second, .val (.long nw), .second, .val (.long lt), .second, .val (.long pc_), .second, .val (.int fl), .val (.long x2), .second, .val (.int (0 : Int32)), .val (.int (1 : Int32)), .val (.int (0 : Int32)), .val (.ref b622), .val (.long nw), .second, .val (.long (0 : Int64)), .second, .val (.long ((0 : Int64) + pc_)), .second, .unset, .unset, .unset, .unset, .unset, .unset, .unset, .unset, .unset] [(.ref b622)])) rfl (by rw [hml]; rfl) (Steps.refl _) (argsL := []) (rest := []) (lenOf pd_5 rfl) rfl (by show 2 * 0 + _ ≤ _; exact Nat.le_of_eq rfl) (hb hby at_146) (fun _ _ => ⟨rfl, k831, (by decide : 20 + 2 ≤ _), (by decide : 137 + 14 ≤ _)⟩)
        dsimp only [Pt.U, Pt.locs, Pt.cells, Pt.slots] at X833 l833 y833 z833 st833 hQ833
        subst l833 y833 z833
        obtain ⟨x846, rfl, N847, k848, f849, f850, f851⟩ := hQ833
        have N852 := Fr.app N832 N847
        have ge853 : n0 ≤ x846 := by rw [← O828.1]; exact Nat.le_trans O828.2.1 f849
        have ne854 : b622 ≠ x846 := Nat.ne_of_lt (Nat.lt_of_lt_of_le (Exa.lt f834) f849)
        have f855 := (Exa.keep f781 k811)
        have ne856 : x629 ≠ x846 := Nat.ne_of_lt (Nat.lt_of_lt_of_le (Exa.lt f855) f849)
        have f857 := (Exa.keep f789 k811)
        have ne858 : x630 ≠ x846 := Nat.ne_of_lt (Nat.lt_of_lt_of_le (Exa.lt f857) f849)
        have f859 := (Exa.keep f820 k811)
        have ne860 : x632 ≠ x846 := Nat.ne_of_lt (Nat.lt_of_lt_of_le (Exa.lt f859) f849)
        have f861 := (Exa.keep f822 k811)
        have ne862 : x633 ≠ x846 := Nat.ne_of_lt (Nat.lt_of_lt_of_le (Exa.lt f861) f849)
        have ne863 : x683 ≠ x846 := Nat.ne_of_lt (Nat.lt_of_lt_of_le (Exa.lt f836) f849)
        have ne864 : x684 ≠ x846 := Nat.ne_of_lt (Nat.lt_of_lt_of_le (Exa.lt f844) f849)
        have f865 := (Exa.keep f826 k811)
        have ne866 : x731 ≠ x846 := Nat.ne_of_lt (Nat.lt_of_lt_of_le (Exa.lt f865) f849)
        have ne867 : x809 ≠ x846 := Nat.ne_of_lt (Nat.lt_of_lt_of_le (Exa.lt f813) f849)
        have O868 := O828.keep k848 all0
        obtain ⟨cq869, kq869, q869a, q869b, q869c⟩ := isOf hZ rfl f850
        obtain ⟨_, _, ⟨T869, L869, k869, n869⟩, -, X869, ⟨Lc869, hQ869, l869, y869, z869⟩, st869⟩ := X833.virtualBack hx (y := (⟨"com/example/sluice/sluice/WaitStatistics", "startedAtOnce", "()J"⟩ : MethodName)) (z := (⟨"com/example/sluice/sluice/WaitStatistics", "startedAtOnce", "()J"⟩ : MethodName)) hown (mvT hZ (own_w hw 124 rfl)) (mvT hZ (own_w hw 125 rfl)) (notFace_of_selects (args := #[]) (mvT hZ (own_w hw 127 rfl))) (mvT hZ (own_w hw 127 rfl)) (mvT hZ (own_w hw 126 rfl)) (by decide) (backOf (W := 0) (rm_get l Z a0 hw [] x846 ((0 : Int64) + pc_) T833.heap n0 O868 f851) hZ (own_w hw 128 rfl) (own_w hw 94 rfl) (by decide) (by decide)) q869a q869c (g := (mkF m 149 #[.val (.long raw), .second, .val (.long nw), .second, .val (.long lt), .second, .val (.long pc_), .second, .val (.int fl), .val (.long x2), .second, .val (.int (0 : Int32)), .val (.int (1 : Int32)), .val (.int (0 : Int32)), .val (.ref b622), .val (.long nw), .second, .val (.long (0 : Int64)), .second, .val (.long ((0 : Int64) + pc_)), .second, .unset, .unset, .unset, .unset, .unset, .unset, .unset, .unset, .unset] [(.ref x846)])) rfl (by rw [hml]; rfl) (Steps.refl _) (argsL := []) (rest := []) (lenOf pd_8 rfl) rfl (by show 2 * 0 + _ ≤ _; exact Nat.le_of_eq rfl) (hb hby at_149) (fun _ _ => ⟨rfl, rfl, (by decide : 22 + 0 ≤ _), (by decide : 151 + 0 ≤ _)⟩)
        dsimp only [Pt.U, Pt.locs, Pt.cells, Pt.slots] at X869 l869 y869 z869 st869 hQ869
        subst l869 y869 z869
        obtain ⟨rfl, N870, k871⟩ := hQ869
        have N872 := Fr.app N852 N870
        have S873 : ∀ t, Steps p.tables e below (T869.setTop (mkF m 271 #[.val (.long raw), .second, .val (.long nw), .second, .val (.long lt), .second, .val (.long pc_), .second, .val (.int fl), .val (.long x2), .second, .val (.int (0 : Int32)), .val (.int (1 : Int32)), .val (.int (0 : Int32)), .val (.ref b622), .val (.long nw), .second, .val (.long (0 : Int64)), .second, .val (.long ((0 : Int64) + pc_)), .second, .val (.long ((0 : Int64) + pc_)), .second, .val (.long (0 : Int64)), .second, .val (.long (0 : Int64)), .second, .val (.int (1 : Int32)), .val (.long ((0 : Int64) + pc_)), .second] [(.int (1 : Int32))])) t → Steps p.tables e below (s₁.setTop (mkF m 0 #[.val (.long raw), .second, .val (.long nw), .second, .val (.long lt), .second, .val (.long pc_), .second, .val (.int fl), .unset, .unset, .unset, .unset, .unset, .unset, .unset, .unset, .unset, .unset, .unset, .unset, .unset, .unset, .unset, .unset, .unset, .unset, .unset, .unset, .unset] [])) t := by
          intro t kt
          refine S620 t ?_
          refine XS.ifYes X1.here hx rfl (pc0 := 43) (pc' := 50) rfl (hb hby at_43) rfl ((if0 _ _).trans (teq (c621 : (fl &&& (4 : Int32)) = (0 : Int32))).1) (by decide) (by decide) ?_
          refine XS.iconst X1.here hx rfl (hb hby at_50) ?_
          refine XS.istore X1.here hx rfl (hb hby at_51) rfl (l' := #[.val (.long raw), .second, .val (.long nw), .second, .val (.long lt), .second, .val (.long pc_), .second, .val (.int fl), .val (.long x2), .second, .val (.int (0 : Int32)), .val (.int (1 : Int32)), .val (.int (0 : Int32)), .unset, .unset, .unset, .unset, .unset, .unset, .unset, .unset, .unset, .unset, .unset, .unset, .unset, .unset, .unset, .unset]) rfl ?_
          show Steps p.tables e below (T1.setTop (mkF m 53 #[.val (.long raw), .second, .val (.long nw), .second, .val (.long lt), .second, .val (.long pc_), .second, .val (.int fl), .val (.long x2), .second, .val (.int (0 : Int32)), .val (.int (1 : Int32)), .val (.int (0 : Int32)), .unset, .unset, .unset, .unset, .unset, .unset, .unset, .unset, .unset, .unset, .unset, .unset, .unset, .unset, .unset, .unset] [])) _
          refine st622 _ ?_
          refine XS.dup X622.here hx rfl (hb hby at_56) rfl rfl ?_
          refine XS.lload X622.here hx rfl (hb hby at_57) rfl ?_
          refine XS.lloadN X622.here hx rfl (hb hby at_59) rfl ?_
          show Steps p.tables e below (T622.setTop (mkF m 60 #[.val (.long raw), .second, .val (.long nw), .second, .val (.long lt), .second, .val (.long pc_), .second, .val (.int fl), .val (.long x2), .second, .val (.int (0 : Int32)), .val (.int (1 : Int32)), .val (.int (0 : Int32)), .unset, .unset, .unset, .unset, .unset, .unset, .unset, .unset, .unset, .unset, .unset, .unset, .unset, .unset, .unset, .unset] [(.long nw), (.long x2), (.ref b622), (.ref b622)])) _
          refine st628.trans ?_
          refine XS.astore X628.here hx rfl (hb hby at_63) rfl rfl (l' := #[.val (.long raw), .second, .val (.long nw), .second, .val (.long lt), .second, .val (.long pc_), .second, .val (.int fl), .val (.long x2), .second, .val (.int (0 : Int32)), .val (.int (1 : Int32)), .val (.int (0 : Int32)), .val (.ref b622), .unset, .unset, .unset, .unset, .unset, .unset, .unset, .unset, .unset, .unset, .unset, .unset, .unset, .unset, .unset]) rfl ?_
          refine XS.iload X628.here hx rfl (hb hby at_65) rfl ?_
          refine XS.ifYes X628.here hx rfl (pc0 := 67) (pc' := 76) rfl (hb hby at_67) rfl ((if0 _ _).trans (teq ((by decide) : (0 : Int32) = (0 : Int32))).1) (by decide) (by decide) ?_
          refine XS.iload X628.here hx rfl (hb hby at_76) rfl ?_
          refine XS.ifYes X628.here hx rfl (pc0 := 78) (pc' := 88) rfl (hb hby at_78) rfl ((if0 _ _).trans (teq ((by decide) : (0 : Int32) = (0 : Int32))).1) (by decide) (by decide) ?_
          show Steps p.tables e below (T628.setTop (mkF m 88 #[.val (.long raw), .second, .val (.long nw), .second, .val (.long lt), .second, .val (.long pc_), .second, .val (.int fl), .val (.long x2), .second, .val (.int (0 : Int32)), .val (.int (1 : Int32)), .val (.int (0 : Int32)), .val (.ref b622), .unset, .unset, .unset, .unset, .unset, .unset, .unset, .unset, .unset, .unset, .unset, .unset, .unset, .unset, .unset] [])) _
          refine XS.iload X628.here hx rfl (hb hby at_88) rfl ?_
          refine XS.ifNo X628.here hx rfl (hb hby at_90) rfl ((if0 _ _).trans (feq ((by decide) : ¬ ((1 : Int32) = (0 : Int32)))).1) ?_
          refine XS.aload X628.here hx rfl (hb hby at_93) rfl rfl ?_
          refine XS.lload X628.here hx rfl (hb hby at_95) rfl ?_
          show Steps p.tables e below (T628.setTop (mkF m 97 #[.val (.long raw), .second, .val (.long nw), .second, .val (.long lt), .second, .val (.long pc_), .second, .val (.int fl), .val (.long x2), .second, .val (.int (0 : Int32)), .val (.int (1 : Int32)), .val (.int (0 : Int32)), .val (.ref b622), .unset, .unset, .unset, .unset, .unset, .unset, .unset, .unset, .unset, .unset, .unset, .unset, .unset, .unset, .unset] [(.long lt), (.ref b622)])) _
          refine st682.trans ?_
          refine XS.iload X682.here hx rfl (hb hby at_100) rfl ?_
          refine XS.ifYes X682.here hx rfl (pc0 := 102) (pc' := 110) rfl (hb hby at_102) rfl ((if0 _ _).trans (teq ((by decide) : (0 : Int32) = (0 : Int32))).1) (by decide) (by decide) ?_
          refine XS.lloadN X682.here hx rfl (hb hby at_110) rfl ?_
          refine XS.lstore X682.here hx rfl (hb hby at_111) rfl (l' := #[.val (.long raw), .second, .val (.long nw), .second, .val (.long lt), .second, .val (.long pc_), .second, .val (.int fl), .val (.long x2), .second, .val (.int (0 : Int32)), .val (.int (1 : Int32)), .val (.int (0 : Int32)), .val (.ref b622), .val (.long nw), .second, .unset, .unset, .unset, .unset, .unset, .unset, .unset, .unset, .unset, .unset, .unset, .unset, .unset]) rfl ?_
          refine XS.aload X682.here hx rfl (hb hby at_113) rfl rfl ?_
          show Steps p.tables e below (T682.setTop (mkF m 115 #[.val (.long raw), .second, .val (.long nw), .second, .val (.long lt), .second, .val (.long pc_), .second, .val (.int fl), .val (.long x2), .second, .val (.int (0 : Int32)), .val (.int (1 : Int32)), .val (.int (0 : Int32)), .val (.ref b622), .val (.long nw), .second, .unset, .unset, .unset, .unset, .unset, .unset, .unset, .unset, .unset, .unset, .unset, .unset, .unset] [(.ref b622)])) _
          refine XS.lload X682.here hx rfl (hb hby at_115) rfl ?_
          show Steps p.tables e below (T682.setTop (mkF m 117 #[.val (.long raw), .second, .val (.long nw), .second, .val (.long lt), .second, .val (.long pc_), .second, .val (.int fl), .val (.long x2), .second, .val (.int (0 : Int32)), .val (.int (1 : Int32)), .val (.int (0 : Int32)), .val (.ref b622), .val (.long nw), .second, .unset, .unset, .unset, .unset, .unset, .unset, .unset, .unset, .unset, .unset, .unset, .unset, .unset] [(.long nw), (.ref b622)])) _
          refine st720.trans ?_
          show Steps p.tables e below (T720.setTop (mkF m 120 #[.val (.long raw), .second, .val (.long nw), .second, .val (.long lt), .second, .val (.long pc_), .second, .val (.int fl), .val (.long x2), .second, .val (.int (0 : Int32)), .val (.int (1 : Int32)), .val (.int (0 : Int32)), .val (.ref b622), .val (.long nw), .second, .unset, .unset, .unset, .unset, .unset, .unset, .unset, .unset, .unset, .unset, .unset, .unset, .unset] [(.ref x731)])) _
          refine st749.trans ?_
          refine XS.lstore X749.here hx rfl (hb hby at_123) rfl (l' := #[.val (.long raw), .second, .val (.long nw), .second, .val (.long lt), .second, .val (.long pc_), .second, .val (.int fl), .val (.long x2), .second, .val (.int (0 : Int32)), .val (.int (1 : Int32)), .val (.int (0 : Int32)), .val (.ref b622), .val (.long nw), .second, .val (.long (0 : Int64)), .second, .unset, .unset, .unset, .unset, .unset, .unset, .unset, .unset, .unset, .unset, .unset]) rfl ?_
          refine XS.aload X749.here hx rfl (hb hby at_125) rfl rfl ?_
          refine XS.lload X749.here hx rfl (hb hby at_127) rfl ?_
          show Steps p.tables e below (T749.setTop (mkF m 129 #[.val (.long raw), .second, .val (.long nw), .second, .val (.long lt), .second, .val (.long pc_), .second, .val (.int fl), .val (.long x2), .second, .val (.int (0 : Int32)), .val (.int (1 : Int32)), .val (.int (0 : Int32)), .val (.ref b622), .val (.long nw), .second, .val (.long (0 : Int64)), .second, .unset, .unset, .unset, .unset, .unset, .unset, .unset, .unset, .unset, .unset, .unset] [(.long pc_), (.ref b622)])) _
          refine st753.trans ?_
          refine XS.aload X753.here hx rfl (hb hby at_132) rfl rfl ?_
          refine XS.lload X753.here hx rfl (hb hby at_134) rfl ?_
          show Steps p.tables e below (T753.setTop (mkF m 136 #[.val (.long raw), .second, .val (.long nw), .second, .val (.long lt), .second, .val (.long pc_), .second, .val (.int fl), .val (.long x2), .second, .val (.int (0 : Int32)), .val (.int (1 : Int32)), .val (.int (0 : Int32)), .val (.ref b622), .val (.long nw), .second, .val (.long (0 : Int64)), .second, .unset, .unset, .unset, .unset, .unset, .unset, .unset, .unset, .unset, .unset, .unset] [(.long nw), (.ref b622)])) _
          refine st803.trans ?_
          show Steps p.tables e below (T803.setTop (mkF m 139 #[.val (.long raw), .second, .val (.long nw), .second, .val (.long lt), .second, .val (.long pc_), .second, .val (.int fl), .val (.long x2), .second, .val (.int (0 : Int32)), .val (.int (1 : Int32)), .val (.int (0 : Int32)), .val (.ref b622), .val (.long nw), .second, .val (.long (0 : Int64)), .second, .unset, .unset, .unset, .unset, .unset, .unset, .unset, .unset, .unset, .unset, .unset] [(.ref x809)])) _
          refine st829.trans ?_
          refine XS.lstore X829.here hx rfl (hb hby at_142) rfl (l' := #[.val (.long raw), .second, .val (.long nw), .second, .val (.long lt), .second, .val (.long pc_), .second, .val (.int fl), .val (.long x2), .second, .val (.int (0 : Int32)), .val (.int (1 : Int32)), .val (.int (0 : Int32)), .val (.ref b622), .val (.long nw), .second, .val (.long (0 : Int64)), .second, .val (.long ((0 : Int64) + pc_)), .second, .unset, .unset, .unset, .unset, .unset, .unset, .unset, .unset, .unset]) rfl ?_
          refine XS.aload X829.here hx rfl (hb hby at_144) rfl rfl ?_
          show Steps p.tables e below (T829.setTop (mkF m 146 #[.val (.long raw), .second, .val (.long nw), .second, .val (.long lt), .second, .val (.long pc_), .second, .val (.int fl), .val (.long x2), .second, .val (.int (0 : Int32)), .val (.int (1 : Int32)), .val (.int (0 : Int32)), .val (.ref b622), .val (.long nw), .second, .val (.long (0 : Int64)), .second, .val (.long ((0 : Int64) + pc_)), .second, .unset, .unset, .unset, .unset, .unset, .unset, .unset, .unset, .unset] [(.ref b622)])) _
          refine st833.trans ?_
          show Steps p.tables e below (T833.setTop (mkF m 149 #[.val (.long raw), .second, .val (.long nw), .second, .val (.long lt), .second, .val (.long pc_), .second, .val (.int fl), .val (.long x2), .second, .val (.int (0 : Int32)), .val (.int (1 : Int32)), .val (.int (0 : Int32)), .val (.ref b622), .val (.long nw), .second, .val (.long (0 : Int64)), .second, .val (.long ((0 : Int64) + pc_)), .second, .unset, .unset, .unset, .unset, .unset, .unset, .unset, .unset, .unset] [(.ref x846)])) _
          refine st869.trans ?_
          refine XS.lstore X869.here hx rfl (hb hby at_152) rfl (l' := #[.val (.long raw), .second, .val (.long nw), .second, .val (.long lt), .second, .val (.long pc_), .second, .val (.int fl), .val (.long x2), .second, .val (.int (0 : Int32)), .val (.int (1 : Int32)), .val (.int (0 : Int32)), .val (.ref b622), .val (.long nw), .second, .val (.long (0 : Int64)), .second, .val (.long ((0 : Int64) + pc_)), .second, .val (.long ((0 : Int64) + pc_)), .second, .unset, .unset, .unset, .unset, .unset, .unset, .unset]) rfl ?_
          refine XS.iload X869.here hx rfl (hb hby at_154) rfl ?_
          refine XS.ifYes X869.here hx rfl (pc0 := 156) (pc' := 163) rfl (hb hby at_156) rfl ((if0 _ _).trans (teq ((by decide) : (0 : Int32) = (0 : Int32))).1) (by decide) (by decide) ?_
          refine XS.lconst X869.here hx rfl (hb hby at_163) ?_
          refine XS.lstore X869.here hx rfl (hb hby at_164) rfl (l' := #[.val (.long raw), .second, .val (.long nw), .second, .val (.long lt), .second, .val (.long pc_), .second, .val (.int fl), .val (.long x2), .second, .val (.int (0 : Int32)), .val (.int (1 : Int32)), .val (.int (0 : Int32)), .val (.ref b622), .val (.long nw), .second, .val (.long (0 : Int64)), .second, .val (.long ((0 : Int64) + pc_)), .second, .val (.long ((0 : Int64) + pc_)), .second, .val (.long (0 : Int64)), .second, .unset, .unset, .unset, .unset, .unset]) rfl ?_
          show Steps p.tables e below (T869.setTop (mkF m 166 #[.val (.long raw), .second, .val (.long nw), .second, .val (.long lt), .second, .val (.long pc_), .second, .val (.int fl), .val (.long x2), .second, .val (.int (0 : Int32)), .val (.int (1 : Int32)), .val (.int (0 : Int32)), .val (.ref b622), .val (.long nw), .second, .val (.long (0 : Int64)), .second, .val (.long ((0 : Int64) + pc_)), .second, .val (.long ((0 : Int64) + pc_)), .second, .val (.long (0 : Int64)), .second, .unset, .unset, .unset, .unset, .unset] [])) _
          refine XS.iload X869.here hx rfl (hb hby at_166) rfl ?_
          refine XS.ifYes X869.here hx rfl (pc0 := 168) (pc' := 175) rfl (hb hby at_168) rfl ((if0 _ _).trans (teq ((by decide) : (0 : Int32) = (0 : Int32))).1) (by decide) (by decide) ?_
          refine XS.lconst X869.here hx rfl (hb hby at_175) ?_
          refine XS.lstore X869.here hx rfl (hb hby at_176) rfl (l' := #[.val (.long raw), .second, .val (.long nw), .second, .val (.long lt), .second, .val (.long pc_), .second, .val (.int fl), .val (.long x2), .second, .val (.int (0 : Int32)), .val (.int (1 : Int32)), .val (.int (0 : Int32)), .val (.ref b622), .val (.long nw), .second, .val (.long (0 : Int64)), .second, .val (.long ((0 : Int64) + pc_)), .second, .val (.long ((0 : Int64) + pc_)), .second, .val (.long (0 : Int64)), .second, .val (.long (0 : Int64)), .second, .unset, .unset, .unset]) rfl ?_
          refine XS.iload X869.here hx rfl (hb hby at_178) rfl ?_
          refine XS.ifYes X869.here hx rfl (pc0 := 180) (pc' := 208) rfl (hb hby at_180) rfl ((if0 _ _).trans (teq ((by decide) : (0 : Int32) = (0 : Int32))).1) (by decide) (by decide) ?_
          show Steps p.tables e below (T869.setTop (mkF m 208 #[.val (.long raw), .second, .val (.long nw), .second, .val (.long lt), .second, .val (.long pc_), .second, .val (.int fl), .val (.long x2), .second, .val (.int (0 : Int32)), .val (.int (1 : Int32)), .val (.int (0 : Int32)), .val (.ref b622), .val (.long nw), .second, .val (.long (0 : Int64)), .second, .val (.long ((0 : Int64) + pc_)), .second, .val (.long ((0 : Int64) + pc_)), .second, .val (.long (0 : Int64)), .second, .val (.long (0 : Int64)), .second, .unset, .unset, .unset] [])) _
          refine XS.lload X869.here hx rfl (hb hby at_208) rfl ?_
          refine XS.lload X869.here hx rfl (hb hby at_210) rfl ?_
          refine XS.lcmp X869.here hx rfl (hb hby at_212) rfl ?_
          refine XS.ifNo X869.here hx rfl (hb hby at_213) rfl ((if0 _ _).trans (teq ((lw_eq (0 : Int64) (0 : Int64)).mpr ((by decide) : (0 : Int64) = (0 : Int64)) : (lcmpW (0 : Int64) (0 : Int64)) = (0 : Int32))).2) ?_
          refine XS.iconst X869.here hx rfl (hb hby at_216) ?_
          refine XS.goto X869.here hx rfl (pc0 := 217) (pc' := 221) rfl (hb hby at_217) (by decide) (by decide) ?_
          show Steps p.tables e below (T869.setTop (mkF m 221 #[.val (.long raw), .second, .val (.long nw), .second, .val (.long lt), .second, .val (.long pc_), .second, .val (.int fl), .val (.long x2), .second, .val (.int (0 : Int32)), .val (.int (1 : Int32)), .val (.int (0 : Int32)), .val (.ref b622), .val (.long nw), .second, .val (.long (0 : Int64)), .second, .val (.long ((0 : Int64) + pc_)), .second, .val (.long ((0 : Int64) + pc_)), .second, .val (.long (0 : Int64)), .second, .val (.long (0 : Int64)), .second, .unset, .unset, .unset] [(.int (1 : Int32))])) _
          refine XS.istore X869.here hx rfl (hb hby at_221) rfl (l' := #[.val (.long raw), .second, .val (.long nw), .second, .val (.long lt), .second, .val (.long pc_), .second, .val (.int fl), .val (.long x2), .second, .val (.int (0 : Int32)), .val (.int (1 : Int32)), .val (.int (0 : Int32)), .val (.ref b622), .val (.long nw), .second, .val (.long (0 : Int64)), .second, .val (.long ((0 : Int64) + pc_)), .second, .val (.long ((0 : Int64) + pc_)), .second, .val (.long (0 : Int64)), .second, .val (.long (0 : Int64)), .second, .val (.int (1 : Int32)), .unset, .unset]) rfl ?_
          refine XS.iload X869.here hx rfl (hb hby at_223) rfl ?_
          refine XS.ifNo X869.here hx rfl (hb hby at_225) rfl ((if0 _ _).trans (feq ((by decide) : ¬ ((1 : Int32) = (0 : Int32)))).1) ?_
          refine XS.lconst X869.here hx rfl (hb hby at_228) ?_
          refine XS.goto X869.here hx rfl (pc0 := 229) (pc' := 237) rfl (hb hby at_229) (by decide) (by decide) ?_
          refine XS.lload X869.here hx rfl (hb hby at_237) rfl ?_
          show Steps p.tables e below (T869.setTop (mkF m 239 #[.val (.long raw), .second, .val (.long nw), .second, .val (.long lt), .second, .val (.long pc_), .second, .val (.int fl), .val (.long x2), .second, .val (.int (0 : Int32)), .val (.int (1 : Int32)), .val (.int (0 : Int32)), .val (.ref b622), .val (.long nw), .second, .val (.long (0 : Int64)), .second, .val (.long ((0 : Int64) + pc_)), .second, .val (.long ((0 : Int64) + pc_)), .second, .val (.long (0 : Int64)), .second, .val (.long (0 : Int64)), .second, .val (.int (1 : Int32)), .unset, .unset] [(.long pc_), (.long (0 : Int64))])) _
          refine XS.ladd X869.here hx rfl (hb hby at_239) rfl ?_
          refine XS.lstore X869.here hx rfl (hb hby at_240) rfl (l' := #[.val (.long raw), .second, .val (.long nw), .second, .val (.long lt), .second, .val (.long pc_), .second, .val (.int fl), .val (.long x2), .second, .val (.int (0 : Int32)), .val (.int (1 : Int32)), .val (.int (0 : Int32)), .val (.ref b622), .val (.long nw), .second, .val (.long (0 : Int64)), .second, .val (.long ((0 : Int64) + pc_)), .second, .val (.long ((0 : Int64) + pc_)), .second, .val (.long (0 : Int64)), .second, .val (.long (0 : Int64)), .second, .val (.int (1 : Int32)), .val (.long ((0 : Int64) + pc_)), .second]) rfl ?_
          refine XS.iload X869.here hx rfl (hb hby at_242) rfl ?_
          refine XS.ifNo X869.here hx rfl (hb hby at_244) rfl ((if0 _ _).trans (feq ((by decide) : ¬ ((1 : Int32) = (0 : Int32)))).1) ?_
          refine XS.lload X869.here hx rfl (hb hby at_247) rfl ?_
          refine XS.lload X869.here hx rfl (hb hby at_249) rfl ?_
          show Steps p.tables e below (T869.setTop (mkF m 251 #[.val (.long raw), .second, .val (.long nw), .second, .val (.long lt), .second, .val (.long pc_), .second, .val (.int fl), .val (.long x2), .second, .val (.int (0 : Int32)), .val (.int (1 : Int32)), .val (.int (0 : Int32)), .val (.ref b622), .val (.long nw), .second, .val (.long (0 : Int64)), .second, .val (.long ((0 : Int64) + pc_)), .second, .val (.long ((0 : Int64) + pc_)), .second, .val (.long (0 : Int64)), .second, .val (.long (0 : Int64)), .second, .val (.int (1 : Int32)), .val (.long ((0 : Int64) + pc_)), .second] [(.long (0 : Int64)), (.long ((0 : Int64) + pc_))])) _
          refine XS.lload X869.here hx rfl (hb hby at_251) rfl ?_
          refine XS.ladd X869.here hx rfl (hb hby at_253) rfl ?_
          refine XS.lcmp X869.here hx rfl (hb hby at_254) rfl ?_
          refine XS.ifNo X869.here hx rfl (hb hby at_255) rfl ((if0 _ _).trans (teq ((lw_eq ((0 : Int64) + pc_) ((0 : Int64) + pc_)).mpr (rfl : ((0 : Int64) + pc_) = ((0 : Int64) + pc_)) : (lcmpW ((0 : Int64) + pc_) ((0 : Int64) + pc_)) = (0 : Int32))).2) ?_
          refine XS.lload X869.here hx rfl (hb hby at_258) rfl ?_
          refine XS.lload X869.here hx rfl (hb hby at_260) rfl ?_
          show Steps p.tables e below (T869.setTop (mkF m 262 #[.val (.long raw), .second, .val (.long nw), .second, .val (.long lt), .second, .val (.long pc_), .second, .val (.int fl), .val (.long x2), .second, .val (.int (0 : Int32)), .val (.int (1 : Int32)), .val (.int (0 : Int32)), .val (.ref b622), .val (.long nw), .second, .val (.long (0 : Int64)), .second, .val (.long ((0 : Int64) + pc_)), .second, .val (.long ((0 : Int64) + pc_)), .second, .val (.long (0 : Int64)), .second, .val (.long (0 : Int64)), .second, .val (.int (1 : Int32)), .val (.long ((0 : Int64) + pc_)), .second] [(.long ((0 : Int64) + pc_)), (.long ((0 : Int64) + pc_))])) _
          refine XS.lcmp X869.here hx rfl (hb hby at_262) rfl ?_
          refine XS.ifNo X869.here hx rfl (hb hby at_263) rfl ((if0 _ _).trans (teq ((lw_eq ((0 : Int64) + pc_) ((0 : Int64) + pc_)).mpr (rfl : ((0 : Int64) + pc_) = ((0 : Int64) + pc_)) : (lcmpW ((0 : Int64) + pc_) ((0 : Int64) + pc_)) = (0 : Int32))).2) ?_
          refine XS.iconst X869.here hx rfl (hb hby at_266) ?_
          refine XS.goto X869.here hx rfl (pc0 := 267) (pc' := 271) rfl (hb hby at_267) (by decide) (by decide) ?_
          exact kt
        obtain ⟨fs, hr, hrun, hended, hW, hsame⟩ := X869.leave (v := some (.int (1 : Int32))) (fun h => by rw [Bd.returns] at h; cases h)
        refine ⟨_, _, pre0 _ (S873 _ ?_), hrun, hended, _, _, rfl, ?_, ⟨_, rfl⟩, hW, hsame.mono (by decide) (by decide)⟩
        · exact retN X869 hx (t := .boolean) Bd.returns (by simp) (hb hby at_271) hr
        · show Q_rm_law Z raw nw lt pc_ fl wV kV vV h0 n0 _ T869.heap _
          rw [k871]
          exact ⟨rfl, N872⟩
      · obtain ⟨T874, h874, X874, e874, E874, A874, D874, -, st874⟩ := newO X1 hx hZ hown (own_w hw 5 rfl) (own_w hw 6 rfl) (own_w hw 7 rfl) k5 (g := (mkF m 53 #[.val (.long raw), .second, .val (.long nw), .second, .val (.long lt), .second, .val (.long pc_), .second, .val (.int fl), .val (.long x2), .second, .val (.int (0 : Int32)), .val (.int (1 : Int32)), .val (.int (1 : Int32)), .unset, .unset, .unset, .unset, .unset, .unset, .unset, .unset, .unset, .unset, .unset, .unset, .unset, .unset, .unset, .unset] [])) rfl (hb hby at_53) (by decide) (by decide)
        obtain ⟨b874, g874⟩ : ∃ z, z = h0.size := ⟨_, rfl⟩
        have ge_b874 : n0 ≤ b874 := by rw [g874, ← O0.1]; exact O0.2.1
        rw [← g874] at A874 D874 st874
        have O875 := O0.ext E874
        have F876 : Fld Z h874 b874 "com/example/sluice/sluice/WaitRecorder" "intervalMillis" "J" (.long (0 : Int64)) := D874 (Or.inr (own_w hw 15 rfl)) (ty := .long) (by decide)
        have F877 : Fld Z h874 b874 "com/example/sluice/sluice/WaitRecorder" "intervalIndex" "J" (.long (0 : Int64)) := D874 (Or.inl (own_w hw 20 rfl)) (ty := .long) (by decide)
        have F878 : Fld Z h874 b874 "com/example/sluice/sluice/WaitRecorder" "interval" "Lcom/example/sluice/sluice/WaitRecorder$Tally;" .null := D874 (Or.inl (own_w hw 63 rfl)) (ty := (.object "com/example/sluice/sluice/WaitRecorder$Tally")) (by decide)
        have F879 : Fld Z h874 b874 "com/example/sluice/sluice/WaitRecorder" "sinceReset" "Lcom/example/sluice/sluice/WaitRecorder$Tally;" .null := D874 (Or.inl (own_w hw 65 rfl)) (ty := (.object "com/example/sluice/sluice/WaitRecorder$Tally")) (by decide)
        obtain ⟨_, _, ⟨T880, L880, k880, n880⟩, -, X880, ⟨Lc880, hQ880, l880, y880, z880⟩, st880⟩ := X874.specialBack hx (y := (⟨"com/example/sluice/sluice/WaitRecorder", "<init>", "(JJ)V"⟩ : MethodName)) rfl hown (mvT hZ (own_w hw 8 rfl)) (mvT hZ (own_w hw 9 rfl)) (mvT hZ (own_w hw 10 rfl)) (by decide) (backOf (W := 1) (rm_rinit l Z a0 hw [] b874 x2 nw wV kV vV h874 n0 O875 A874 ge_b874 F876 F877 F878 F879 S_V E_V A_V hlen) hZ (own_w hw 10 rfl) (own_w hw 7 rfl) (by decide) (by decide)) (g := (mkF m 60 #[.val (.long raw), .second, .val (.long nw), .second, .val (.long lt), .second, .val (.long pc_), .second, .val (.int fl), .val (.long x2), .second, .val (.int (0 : Int32)), .val (.int (1 : Int32)), .val (.int (1 : Int32)), .unset, .unset, .unset, .unset, .unset, .unset, .unset, .unset, .unset, .unset, .unset, .unset, .unset, .unset, .unset, .unset] [(.long nw), (.long x2), (.ref b874), (.ref b874)])) rfl (by rw [hml]; rfl) (Steps.refl _) (a := b874) (argsL := [(.long x2), (.long nw)]) (rest := [(.ref b874)]) (lenOf pd_6 rfl) rfl (by show 2 * 0 + _ ≤ _; exact Nat.le_of_eq rfl) (hb hby at_60) (fun _ _ => ⟨rfl, e874, (by decide : 1 + 6 ≤ _), (by decide : 4 + 42 ≤ _)⟩)
        dsimp only [Pt.U, Pt.locs, Pt.cells, Pt.slots] at X880 l880 y880 z880 st880 hQ880
        subst l880 y880 z880
        obtain ⟨x881, x882, x883, x884, x885, x886, rfl, N887, k888, f889, f890, f891, f892, f893, f894, f895, f896, f897, f898, f899, f900, f901, f902, f903, f904, f905, f906, f907, f908, f909, f910, f911, f912, f913, f914, f915, f916, f917, f918, f919, f920, f921, f922, f923⟩ := hQ880
        have N924 := Fr.app N6 N887
        have ge925 : n0 ≤ x881 := by rw [← O875.1]; exact Nat.le_trans O875.2.1 f889
        have ne926 : b874 ≠ x881 := Nat.ne_of_lt (Nat.lt_of_lt_of_le (Exa.lt A874) f889)
        have ge927 : n0 ≤ x882 := by rw [← O875.1]; exact Nat.le_trans O875.2.1 f890
        have ne928 : b874 ≠ x882 := Nat.ne_of_lt (Nat.lt_of_lt_of_le (Exa.lt A874) f890)
        have ge929 : n0 ≤ x884 := by rw [← O875.1]; exact Nat.le_trans O875.2.1 f891
        have ne930 : b874 ≠ x884 := Nat.ne_of_lt (Nat.lt_of_lt_of_le (Exa.lt A874) f891)
        have ge931 : n0 ≤ x885 := by rw [← O875.1]; exact Nat.le_trans O875.2.1 f892
        have ne932 : b874 ≠ x885 := Nat.ne_of_lt (Nat.lt_of_lt_of_le (Exa.lt A874) f892)
        have O933 := O875.keep k888 (allS ge_b874 all0)
        obtain ⟨cq934, kq934, q934a, q934b, q934c⟩ := isOf hZ rfl f899
        obtain ⟨_, _, ⟨T934, L934, k934, n934⟩, -, X934, ⟨Lc934, hQ934, l934, y934, z934⟩, st934⟩ := X880.virtualBack hx (y := (⟨"com/example/sluice/sluice/WaitRecorder", "startedAtOnce", "(J)V"⟩ : MethodName)) (z := (⟨"com/example/sluice/sluice/WaitRecorder", "startedAtOnce", "(J)V"⟩ : MethodName)) hown (mvT hZ (own_w hw 66 rfl)) (mvT hZ (own_w hw 67 rfl)) (notFace_of_selects (args := #[]) (mvT hZ (own_w hw 69 rfl))) (mvT hZ (own_w hw 69 rfl)) (mvT hZ (own_w hw 68 rfl)) (by decide) (backOf (W := 0) (rm_sao l Z a0 hw [] b874 lt x2 (own_fd nw x2) x881 x882 x883 x884 x885 x886 ((own_fd nw x2) * x2) (0 : Int64) nw (0 : Int64) wV kV vV T880.heap n0 O933 f899 f900 f901 f902 f903 f904 f905 f906 f907 f908 f909 f910 f911 f912 f913 f914 f915 f916 f917 f918 f919 f920 f921 f922 f923 ge_b874 ge925 ge929 ne926 ne928 ne930 ne932 f893 f894 f895 f896 f897 f898 S_V E_V A_V hlen) hZ (own_w hw 70 rfl) (own_w hw 7 rfl) (by decide) (by decide)) q934a q934c (g := (mkF m 85 #[.val (.long raw), .second, .val (.long nw), .second, .val (.long lt), .second, .val (.long pc_), .second, .val (.int fl), .val (.long x2), .second, .val (.int (0 : Int32)), .val (.int (1 : Int32)), .val (.int (1 : Int32)), .val (.ref b874), .unset, .unset, .unset, .unset, .unset, .unset, .unset, .unset, .unset, .unset, .unset, .unset, .unset, .unset, .unset] [(.long lt), (.ref b874)])) rfl (by rw [hml]; rfl) (Steps.refl _) (argsL := [(.long lt)]) (rest := []) (lenOf pd_2 rfl) rfl (by show 2 * 0 + _ ≤ _; exact Nat.le_of_eq rfl) (hb hby at_85) (fun _ _ => ⟨rfl, rfl, (by decide : 7 + 3 ≤ _), (by decide : 46 + 21 ≤ _)⟩)
        dsimp only [Pt.U, Pt.locs, Pt.cells, Pt.slots] at X934 l934 y934 z934 st934 hQ934
        subst l934 y934 z934
        rcases hQ934 with ⟨c935, rfl, N936, k937, f938, f939, f940, f941, f942, f943, f944, f945, f946, f947, f948, f949, f950, f951, f952, f953, f954, f955, f956, f957, f958, f959, f960, f961, f962⟩ | ⟨x963, x964, x965, c966, rfl, N967, k968, f969, f970, f971, f972, f973, f974, f975, f976, f977, f978, f979, f980, f981, f982, f983, f984, f985, f986, f987, f988, f989, f990, f991, f992, f993, f994, f995, f996⟩
        · have N997 := Fr.app N924 N936
          have O998 := O933.keep k937 (allS ge_b874 (allS ge925 (allS ge929 all0)))
          obtain ⟨cq999, kq999, q999a, q999b, q999c⟩ := isOf hZ rfl f938
          obtain ⟨_, _, ⟨T999, L999, k999, n999⟩, -, X999, ⟨Lc999, hQ999, l999, y999, z999⟩, st999⟩ := X934.virtualBack hx (y := (⟨"com/example/sluice/sluice/WaitRecorder", "reset", "(J)V"⟩ : MethodName)) (z := (⟨"com/example/sluice/sluice/WaitRecorder", "reset", "(J)V"⟩ : MethodName)) hown (mvT hZ (own_w hw 77 rfl)) (mvT hZ (own_w hw 78 rfl)) (notFace_of_selects (args := #[]) (mvT hZ (own_w hw 80 rfl))) (mvT hZ (own_w hw 80 rfl)) (mvT hZ (own_w hw 79 rfl)) (by decide) (backOf (W := 0) (rm_reset l Z a0 hw [] b874 lt x2 (own_fd nw x2) x881 x882 x883 x884 x885 x886 ((own_fd nw x2) * x2) ((0 : Int64) + (1 : Int64)) nw ((0 : Int64) + (1 : Int64)) wV kV vV T934.heap n0 O998 f938 f939 f940 f941 f942 f943 f944 f945 f946 f947 f948 f949 f950 f951 f952 f953 f954 f955 f956 f957 f958 f959 f960 f961 f962 ge_b874 ge925 ge929 ne926 ne928 ne930 ne932 f893 f894 f895 f896 f897 f898 S_V E_V A_V) hZ (own_w hw 81 rfl) (own_w hw 7 rfl) (by decide) (by decide)) q999a q999c (g := (mkF m 97 #[.val (.long raw), .second, .val (.long nw), .second, .val (.long lt), .second, .val (.long pc_), .second, .val (.int fl), .val (.long x2), .second, .val (.int (0 : Int32)), .val (.int (1 : Int32)), .val (.int (1 : Int32)), .val (.ref b874), .unset, .unset, .unset, .unset, .unset, .unset, .unset, .unset, .unset, .unset, .unset, .unset, .unset, .unset, .unset] [(.long lt), (.ref b874)])) rfl (by rw [hml]; rfl) (Steps.refl _) (argsL := [(.long lt)]) (rest := []) (lenOf pd_2 rfl) rfl (by show 2 * 0 + _ ≤ _; exact Nat.le_of_eq rfl) (hb hby at_97) (fun _ _ => ⟨rfl, rfl, (by decide : 10 + 3 ≤ _), (by decide : 67 + 21 ≤ _)⟩)
          dsimp only [Pt.U, Pt.locs, Pt.cells, Pt.slots] at X999 l999 y999 z999 st999 hQ999
          subst l999 y999 z999
          obtain ⟨x1000, x1001, x1002, rfl, N1003, k1004, f1005, f1006, f1007, f1008, f1009, f1010, f1011, f1012, f1013, f1014, f1015, f1016, f1017, f1018, f1019, f1020, f1021, f1022⟩ := hQ999
          have N1023 := Fr.app N997 N1003
          have ge1024 : n0 ≤ x1000 := by rw [← O998.1]; exact Nat.le_trans O998.2.1 f1005
          have ne1025 : b874 ≠ x1000 := Nat.ne_of_lt (Nat.lt_of_lt_of_le (Exa.lt f938) f1005)
          have ne1026 : x881 ≠ x1000 := Nat.ne_of_lt (Nat.lt_of_lt_of_le (Exa.lt f943) f1005)
          have ne1027 : x882 ≠ x1000 := Nat.ne_of_lt (Nat.lt_of_lt_of_le (Exa.lt f951) f1005)
          have ne1028 : x884 ≠ x1000 := Nat.ne_of_lt (Nat.lt_of_lt_of_le (Exa.lt f953) f1005)
          have ne1029 : x885 ≠ x1000 := Nat.ne_of_lt (Nat.lt_of_lt_of_le (Exa.lt f961) f1005)
          have ge1030 : n0 ≤ x1001 := by rw [← O998.1]; exact Nat.le_trans O998.2.1 f1006
          have ne1031 : b874 ≠ x1001 := Nat.ne_of_lt (Nat.lt_of_lt_of_le (Exa.lt f938) f1006)
          have ne1032 : x881 ≠ x1001 := Nat.ne_of_lt (Nat.lt_of_lt_of_le (Exa.lt f943) f1006)
          have ne1033 : x882 ≠ x1001 := Nat.ne_of_lt (Nat.lt_of_lt_of_le (Exa.lt f951) f1006)
          have ne1034 : x884 ≠ x1001 := Nat.ne_of_lt (Nat.lt_of_lt_of_le (Exa.lt f953) f1006)
          have ne1035 : x885 ≠ x1001 := Nat.ne_of_lt (Nat.lt_of_lt_of_le (Exa.lt f961) f1006)
          have O1036 := O998.keep k1004 (allS ge_b874 all0)
          have f1038 := (Exa.keep f943 k1004)
          have f1039 := (Fld.keep f944 k1004 (ninS (Ne.symm ne926) nin0))
          have f1040 := (Fld.keep f945 k1004 (ninS (Ne.symm ne926) nin0))
          have f1041 := (Fld.keep f946 k1004 (ninS (Ne.symm ne926) nin0))
          have f1042 := (Fld.keep f947 k1004 (ninS (Ne.symm ne926) nin0))
          have f1043 := (Fld.keep f948 k1004 (ninS (Ne.symm ne926) nin0))
          have f1044 := (Fld.keep f949 k1004 (ninS (Ne.symm ne926) nin0))
          have f1045 := (Fld.keep f950 k1004 (ninS (Ne.symm ne926) nin0))
          have f1046 := (Exa.keep f951 k1004)
          have f1047 := (Arv.keep f952 k1004 (ninS (Ne.symm ne928) nin0))
          obtain ⟨cq1037, kq1037, q1037a, q1037b, q1037c⟩ := isOf hZ rfl f1008
          obtain ⟨_, _, ⟨T1037, L1037, k1037, n1037⟩, -, X1037, ⟨Lc1037, hQ1037, l1037, y1037, z1037⟩, st1037⟩ := X999.virtualBack hx (y := (⟨"com/example/sluice/sluice/WaitRecorder", "intervalSnapshot", "(J)Lcom/example/sluice/sluice/WaitStatistics;"⟩ : MethodName)) (z := (⟨"com/example/sluice/sluice/WaitRecorder", "intervalSnapshot", "(J)Lcom/example/sluice/sluice/WaitStatistics;"⟩ : MethodName)) hown (mvT hZ (own_w hw 82 rfl)) (mvT hZ (own_w hw 83 rfl)) (notFace_of_selects (args := #[]) (mvT hZ (own_w hw 85 rfl))) (mvT hZ (own_w hw 85 rfl)) (mvT hZ (own_w hw 84 rfl)) (by decide) (backOf (W := 0) (rm_isnap l Z a0 hw [] b874 lt x2 (own_fd nw x2) x881 x882 x883 x1000 x1001 x1002 ((own_fd nw x2) * x2) ((0 : Int64) + (1 : Int64)) lt (0 : Int64) wV kV vV T999.heap n0 O1036 f1008 f1009 f1010 f1011 f1012 f1038 f1039 f1040 f1041 f1042 f1043 f1044 f1045 f1046 f1047 f1013 f1014 f1015 f1016 f1017 f1018 f1019 f1020 f1021 f1022 ge_b874 ge925 ge1024 ne926 ne928 ne1025 ne1031 f893 ne1026 ne1032 ne1027 ne1033 f1007 S_V E_V A_V hlen c935) hZ (own_w hw 86 rfl) (own_w hw 7 rfl) (by decide) (by decide)) q1037a q1037c (g := (mkF m 117 #[.val (.long raw), .second, .val (.long nw), .second, .val (.long lt), .second, .val (.long pc_), .second, .val (.int fl), .val (.long x2), .second, .val (.int (0 : Int32)), .val (.int (1 : Int32)), .val (.int (1 : Int32)), .val (.ref b874), .val (.long lt), .second, .unset, .unset, .unset, .unset, .unset, .unset, .unset, .unset, .unset, .unset, .unset, .unset, .unset] [(.long lt), (.ref b874)])) rfl (by rw [hml]; rfl) (Steps.refl _) (argsL := [(.long lt)]) (rest := []) (lenOf pd_7 rfl) rfl (by show 2 * 0 + _ ≤ _; exact Nat.le_of_eq rfl) (hb hby at_117) (fun _ _ => ⟨rfl, rfl, (by decide : 13 + 5 ≤ _), (by decide : 88 + 35 ≤ _)⟩)
          dsimp only [Pt.U, Pt.locs, Pt.cells, Pt.slots] at X1037 l1037 y1037 z1037 st1037 hQ1037
          subst l1037 y1037 z1037
          obtain ⟨x1048, rfl, N1049, k1050, f1051, f1052, f1053⟩ := hQ1037
          have N1054 := Fr.app N1023 N1049
          have ge1055 : n0 ≤ x1048 := by rw [← O1036.1]; exact Nat.le_trans O1036.2.1 f1051
          have ne1056 : b874 ≠ x1048 := Nat.ne_of_lt (Nat.lt_of_lt_of_le (Exa.lt f1008) f1051)
          have ne1057 : x881 ≠ x1048 := Nat.ne_of_lt (Nat.lt_of_lt_of_le (Exa.lt f1038) f1051)
          have ne1058 : x882 ≠ x1048 := Nat.ne_of_lt (Nat.lt_of_lt_of_le (Exa.lt f1046) f1051)
          have f1059 := (Exa.keep f953 k1004)
          have ne1060 : x884 ≠ x1048 := Nat.ne_of_lt (Nat.lt_of_lt_of_le (Exa.lt f1059) f1051)
          have f1061 := (Exa.keep f961 k1004)
          have ne1062 : x885 ≠ x1048 := Nat.ne_of_lt (Nat.lt_of_lt_of_le (Exa.lt f1061) f1051)
          have ne1063 : x1000 ≠ x1048 := Nat.ne_of_lt (Nat.lt_of_lt_of_le (Exa.lt f1013) f1051)
          have ne1064 : x1001 ≠ x1048 := Nat.ne_of_lt (Nat.lt_of_lt_of_le (Exa.lt f1021) f1051)
          have O1065 := O1036.keep k1050 all0
          obtain ⟨cq1066, kq1066, q1066a, q1066b, q1066c⟩ := isOf hZ rfl f1052
          obtain ⟨_, _, ⟨T1066, L1066, k1066, n1066⟩, -, X1066, ⟨Lc1066, hQ1066, l1066, y1066, z1066⟩, st1066⟩ := X1037.virtualBack hx (y := (⟨"com/example/sluice/sluice/WaitStatistics", "startedAtOnce", "()J"⟩ : MethodName)) (z := (⟨"com/example/sluice/sluice/WaitStatistics", "startedAtOnce", "()J"⟩ : MethodName)) hown (mvT hZ (own_w hw 124 rfl)) (mvT hZ (own_w hw 125 rfl)) (notFace_of_selects (args := #[]) (mvT hZ (own_w hw 127 rfl))) (mvT hZ (own_w hw 127 rfl)) (mvT hZ (own_w hw 126 rfl)) (by decide) (backOf (W := 0) (rm_get l Z a0 hw [] x1048 ((0 : Int64) + (1 : Int64)) T1037.heap n0 O1065 f1053) hZ (own_w hw 128 rfl) (own_w hw 94 rfl) (by decide) (by decide)) q1066a q1066c (g := (mkF m 120 #[.val (.long raw), .second, .val (.long nw), .second, .val (.long lt), .second, .val (.long pc_), .second, .val (.int fl), .val (.long x2), .second, .val (.int (0 : Int32)), .val (.int (1 : Int32)), .val (.int (1 : Int32)), .val (.ref b874), .val (.long lt), .second, .unset, .unset, .unset, .unset, .unset, .unset, .unset, .unset, .unset, .unset, .unset, .unset, .unset] [(.ref x1048)])) rfl (by rw [hml]; rfl) (Steps.refl _) (argsL := []) (rest := []) (lenOf pd_8 rfl) rfl (by show 2 * 0 + _ ≤ _; exact Nat.le_of_eq rfl) (hb hby at_120) (fun _ _ => ⟨rfl, rfl, (by decide : 18 + 0 ≤ _), (by decide : 123 + 0 ≤ _)⟩)
          dsimp only [Pt.U, Pt.locs, Pt.cells, Pt.slots] at X1066 l1066 y1066 z1066 st1066 hQ1066
          subst l1066 y1066 z1066
          obtain ⟨rfl, N1067, k1068⟩ := hQ1066
          have N1069 := Fr.app N1054 N1067
          have f1071 := (Exa.keep f1008 k1050)
          have f1072 := (Fld.keep f1009 k1050 nin0)
          have f1073 := (Fld.keep f1010 k1050 nin0)
          have f1074 := (Fld.keep f1011 k1050 nin0)
          have f1075 := (Fld.keep f1012 k1050 nin0)
          have f1076 := (Exa.keep f1038 k1050)
          have f1077 := (Fld.keep f1039 k1050 nin0)
          have f1078 := (Fld.keep f1040 k1050 nin0)
          have f1079 := (Fld.keep f1041 k1050 nin0)
          have f1080 := (Fld.keep f1042 k1050 nin0)
          have f1081 := (Fld.keep f1043 k1050 nin0)
          have f1082 := (Fld.keep f1044 k1050 nin0)
          have f1083 := (Fld.keep f1045 k1050 nin0)
          have f1084 := (Exa.keep f1046 k1050)
          have f1085 := (Arv.keep f1047 k1050 nin0)
          have f1086 := (Exa.keep f1013 k1050)
          have f1087 := (Fld.keep f1014 k1050 nin0)
          have f1088 := (Fld.keep f1015 k1050 nin0)
          have f1089 := (Fld.keep f1016 k1050 nin0)
          have f1090 := (Fld.keep f1017 k1050 nin0)
          have f1091 := (Fld.keep f1018 k1050 nin0)
          have f1092 := (Fld.keep f1019 k1050 nin0)
          have f1093 := (Fld.keep f1020 k1050 nin0)
          have f1094 := (Exa.keep f1021 k1050)
          have f1095 := (Arv.keep f1022 k1050 nin0)
          obtain ⟨cq1070, kq1070, q1070a, q1070b, q1070c⟩ := isOf hZ k1068 f1071
          obtain ⟨_, _, ⟨T1070, L1070, k1070, n1070⟩, -, X1070, ⟨Lc1070, hQ1070, l1070, y1070, z1070⟩, st1070⟩ := X1066.virtualBack hx (y := (⟨"com/example/sluice/sluice/WaitRecorder", "startedAtOnceEarlier", "(J)V"⟩ : MethodName)) (z := (⟨"com/example/sluice/sluice/WaitRecorder", "startedAtOnceEarlier", "(J)V"⟩ : MethodName)) hown (mvT hZ (own_w hw 129 rfl)) (mvT hZ (own_w hw 130 rfl)) (notFace_of_selects (args := #[]) (mvT hZ (own_w hw 132 rfl))) (mvT hZ (own_w hw 132 rfl)) (mvT hZ (own_w hw 131 rfl)) (by decide) (backOf (W := 0) (rm_sae l Z a0 hw [] b874 pc_ x2 (own_fd nw x2) x881 x882 x883 x1000 x1001 x1002 ((own_fd nw x2) * x2) ((0 : Int64) + (1 : Int64)) lt (0 : Int64) T1037.heap n0 O1065 f1071 f1072 f1073 f1074 f1075 f1076 f1077 f1078 f1079 f1080 f1081 f1082 f1083 f1084 f1085 f1086 f1087 f1088 f1089 f1090 f1091 f1092 f1093 f1094 f1095 ge_b874 ge925 ge1024 ne926 ne928 ne1025 ne1031 f893 ne1026 ne1032 ne1027 ne1033 f1007) hZ (own_w hw 133 rfl) (own_w hw 7 rfl) (by decide) (by decide)) q1070a q1070c (g := (mkF m 129 #[.val (.long raw), .second, .val (.long nw), .second, .val (.long lt), .second, .val (.long pc_), .second, .val (.int fl), .val (.long x2), .second, .val (.int (0 : Int32)), .val (.int (1 : Int32)), .val (.int (1 : Int32)), .val (.ref b874), .val (.long lt), .second, .val (.long ((0 : Int64) + (1 : Int64))), .second, .unset, .unset, .unset, .unset, .unset, .unset, .unset, .unset, .unset, .unset, .unset] [(.long pc_), (.ref b874)])) rfl (by rw [hml]; rfl) (Steps.refl _) (argsL := [(.long pc_)]) (rest := []) (lenOf pd_2 rfl) rfl (by show 2 * 0 + _ ≤ _; exact Nat.le_of_eq rfl) (hb hby at_129) (fun _ _ => ⟨rfl, k1068, (by decide : 18 + 0 ≤ _), (by decide : 123 + 0 ≤ _)⟩)
          dsimp only [Pt.U, Pt.locs, Pt.cells, Pt.slots] at X1070 l1070 y1070 z1070 st1070 hQ1070
          subst l1070 y1070 z1070
          obtain ⟨rfl, N1096, k1097, f1098, f1099, f1100, f1101, f1102, f1103, f1104, f1105, f1106, f1107, f1108, f1109, f1110, f1111, f1112, f1113, f1114, f1115, f1116, f1117⟩ := hQ1070
          have N1118 := Fr.app N1069 N1096
          have O1119 := O1065.keep k1097 (allS ge925 (allS ge1024 all0))
          have f1121 := (Exa.keep f1071 k1097)
          have f1122 := (Fld.keep f1072 k1097 (ninS ne926 (ninS ne1025 nin0)))
          have f1123 := (Fld.keep f1073 k1097 (ninS ne926 (ninS ne1025 nin0)))
          have f1124 := (Fld.keep f1074 k1097 (ninS ne926 (ninS ne1025 nin0)))
          have f1125 := (Fld.keep f1075 k1097 (ninS ne926 (ninS ne1025 nin0)))
          obtain ⟨cq1120, kq1120, q1120a, q1120b, q1120c⟩ := isOf hZ rfl f1121
          obtain ⟨_, _, ⟨T1120, L1120, k1120, n1120⟩, -, X1120, ⟨Lc1120, hQ1120, l1120, y1120, z1120⟩, st1120⟩ := X1070.virtualBack hx (y := (⟨"com/example/sluice/sluice/WaitRecorder", "intervalSnapshot", "(J)Lcom/example/sluice/sluice/WaitStatistics;"⟩ : MethodName)) (z := (⟨"com/example/sluice/sluice/WaitRecorder", "intervalSnapshot", "(J)Lcom/example/sluice/sluice/WaitStatistics;"⟩ : MethodName)) hown (mvT hZ (own_w hw 82 rfl)) (mvT hZ (own_w hw 83 rfl)) (notFace_of_selects (args := #[]) (mvT hZ (own_w hw 85 rfl))) (mvT hZ (own_w hw 85 rfl)) (mvT hZ (own_w hw 84 rfl)) (by decide) (backOf (W := 0) (rm_isnap l Z a0 hw [] b874 lt x2 (own_fd nw x2) x881 x882 x883 x1000 x1001 x1002 ((own_fd nw x2) * x2) (((0 : Int64) + (1 : Int64)) + pc_) lt ((0 : Int64) + pc_) wV kV vV T1070.heap n0 O1119 f1121 f1122 f1123 f1124 f1125 f1098 f1099 f1100 f1101 f1102 f1103 f1104 f1105 f1106 f1107 f1108 f1109 f1110 f1111 f1112 f1113 f1114 f1115 f1116 f1117 ge_b874 ge925 ge1024 ne926 ne928 ne1025 ne1031 f893 ne1026 ne1032 ne1027 ne1033 f1007 S_V E_V A_V hlen c935) hZ (own_w hw 86 rfl) (own_w hw 7 rfl) (by decide) (by decide)) q1120a q1120c (g := (mkF m 136 #[.val (.long raw), .second, .val (.long nw), .second, .val (.long lt), .second, .val (.long pc_), .second, .val (.int fl), .val (.long x2), .second, .val (.int (0 : Int32)), .val (.int (1 : Int32)), .val (.int (1 : Int32)), .val (.ref b874), .val (.long lt), .second, .val (.long ((0 : Int64) + (1 : Int64))), .second, .unset, .unset, .unset, .unset, .unset, .unset, .unset, .unset, .unset, .unset, .unset] [(.long lt), (.ref b874)])) rfl (by rw [hml]; rfl) (Steps.refl _) (argsL := [(.long lt)]) (rest := []) (lenOf pd_7 rfl) rfl (by show 2 * 0 + _ ≤ _; exact Nat.le_of_eq rfl) (hb hby at_136) (fun _ _ => ⟨rfl, rfl, (by decide : 18 + 5 ≤ _), (by decide : 123 + 35 ≤ _)⟩)
          dsimp only [Pt.U, Pt.locs, Pt.cells, Pt.slots] at X1120 l1120 y1120 z1120 st1120 hQ1120
          subst l1120 y1120 z1120
          obtain ⟨x1126, rfl, N1127, k1128, f1129, f1130, f1131⟩ := hQ1120
          have N1132 := Fr.app N1118 N1127
          have ge1133 : n0 ≤ x1126 := by rw [← O1119.1]; exact Nat.le_trans O1119.2.1 f1129
          have ne1134 : b874 ≠ x1126 := Nat.ne_of_lt (Nat.lt_of_lt_of_le (Exa.lt f1121) f1129)
          have ne1135 : x881 ≠ x1126 := Nat.ne_of_lt (Nat.lt_of_lt_of_le (Exa.lt f1098) f1129)
          have ne1136 : x882 ≠ x1126 := Nat.ne_of_lt (Nat.lt_of_lt_of_le (Exa.lt f1106) f1129)
          have f1137 := (Exa.keep (Exa.keep f1059 k1050) k1097)
          have ne1138 : x884 ≠ x1126 := Nat.ne_of_lt (Nat.lt_of_lt_of_le (Exa.lt f1137) f1129)
          have f1139 := (Exa.keep (Exa.keep f1061 k1050) k1097)
          have ne1140 : x885 ≠ x1126 := Nat.ne_of_lt (Nat.lt_of_lt_of_le (Exa.lt f1139) f1129)
          have ne1141 : x1000 ≠ x1126 := Nat.ne_of_lt (Nat.lt_of_lt_of_le (Exa.lt f1108) f1129)
          have ne1142 : x1001 ≠ x1126 := Nat.ne_of_lt (Nat.lt_of_lt_of_le (Exa.lt f1116) f1129)
          have f1143 := (Exa.keep f1052 k1097)
          have ne1144 : x1048 ≠ x1126 := Nat.ne_of_lt (Nat.lt_of_lt_of_le (Exa.lt f1143) f1129)
          have O1145 := O1119.keep k1128 all0
          obtain ⟨cq1146, kq1146, q1146a, q1146b, q1146c⟩ := isOf hZ rfl f1130
          obtain ⟨_, _, ⟨T1146, L1146, k1146, n1146⟩, -, X1146, ⟨Lc1146, hQ1146, l1146, y1146, z1146⟩, st1146⟩ := X1120.virtualBack hx (y := (⟨"com/example/sluice/sluice/WaitStatistics", "startedAtOnce", "()J"⟩ : MethodName)) (z := (⟨"com/example/sluice/sluice/WaitStatistics", "startedAtOnce", "()J"⟩ : MethodName)) hown (mvT hZ (own_w hw 124 rfl)) (mvT hZ (own_w hw 125 rfl)) (notFace_of_selects (args := #[]) (mvT hZ (own_w hw 127 rfl))) (mvT hZ (own_w hw 127 rfl)) (mvT hZ (own_w hw 126 rfl)) (by decide) (backOf (W := 0) (rm_get l Z a0 hw [] x1126 (((0 : Int64) + (1 : Int64)) + pc_) T1120.heap n0 O1145 f1131) hZ (own_w hw 128 rfl) (own_w hw 94 rfl) (by decide) (by decide)) q1146a q1146c (g := (mkF m 139 #[.val (.long raw), .second, .val (.long nw), .second, .val (.long lt), .second, .val (.long pc_), .second, .val (.int fl), .val (.long x2), .second, .val (.int (0 : Int32)), .val (.int (1 : Int32)), .val (.int (1 : Int32)), .val (.ref b874), .val (.long lt), .second, .val (.long ((0 : Int64) + (1 : Int64))), .second, .unset, .unset, .unset, .unset, .unset, .unset, .unset, .unset, .unset, .unset, .unset] [(.ref x1126)])) rfl (by rw [hml]; rfl) (Steps.refl _) (argsL := []) (rest := []) (lenOf pd_8 rfl) rfl (by show 2 * 0 + _ ≤ _; exact Nat.le_of_eq rfl) (hb hby at_139) (fun _ _ => ⟨rfl, rfl, (by decide : 23 + 0 ≤ _), (by decide : 158 + 0 ≤ _)⟩)
          dsimp only [Pt.U, Pt.locs, Pt.cells, Pt.slots] at X1146 l1146 y1146 z1146 st1146 hQ1146
          subst l1146 y1146 z1146
          obtain ⟨rfl, N1147, k1148⟩ := hQ1146
          have N1149 := Fr.app N1132 N1147
          have f1151 := (Exa.keep f1121 k1128)
          have f1152 := (Fld.keep f1125 k1128 nin0)
          have f1153 := (Exa.keep f1108 k1128)
          have f1154 := (Fld.keep f1109 k1128 nin0)
          have f1155 := (Fld.keep f1110 k1128 nin0)
          have f1156 := (Fld.keep f1111 k1128 nin0)
          have f1157 := (Fld.keep f1112 k1128 nin0)
          have f1158 := (Fld.keep f1113 k1128 nin0)
          have f1159 := (Fld.keep f1114 k1128 nin0)
          have f1160 := (Fld.keep f1115 k1128 nin0)
          have f1161 := (Exa.keep f1116 k1128)
          have f1162 := (Arv.keep f1117 k1128 nin0)
          obtain ⟨cq1150, kq1150, q1150a, q1150b, q1150c⟩ := isOf hZ k1148 f1151
          obtain ⟨_, _, ⟨T1150, L1150, k1150, n1150⟩, -, X1150, ⟨Lc1150, hQ1150, l1150, y1150, z1150⟩, st1150⟩ := X1146.virtualBack hx (y := (⟨"com/example/sluice/sluice/WaitRecorder", "sinceResetSnapshot", "()Lcom/example/sluice/sluice/WaitStatistics;"⟩ : MethodName)) (z := (⟨"com/example/sluice/sluice/WaitRecorder", "sinceResetSnapshot", "()Lcom/example/sluice/sluice/WaitStatistics;"⟩ : MethodName)) hown (mvT hZ (own_w hw 134 rfl)) (mvT hZ (own_w hw 135 rfl)) (notFace_of_selects (args := #[]) (mvT hZ (own_w hw 137 rfl))) (mvT hZ (own_w hw 137 rfl)) (mvT hZ (own_w hw 136 rfl)) (by decide) (backOf (W := 0) (rm_ssnap l Z a0 hw [] b874 x1000 lt ((0 : Int64) + pc_) x1001 x1002 T1120.heap n0 O1145 f1152 f1153 f1154 f1155 f1156 f1157 f1158 f1159 f1160 f1161 f1162) hZ (own_w hw 138 rfl) (own_w hw 7 rfl) (by decide) (by decide)) q1150a q1150c (g := (mkF m 146 #[.val (.long raw), .second, .val (.long nw), .second, .val (.long lt), .second, .val (.long pc_), .second, .val (.int fl), .val (.long x2), .second, .val (.int (0 : Int32)), .val (.int (1 : Int32)), .val (.int (1 : Int32)), .val (.ref b874), .val (.long lt), .second, .val (.long ((0 : Int64) + (1 : Int64))), .second, .val (.long (((0 : Int64) + (1 : Int64)) + pc_)), .second, .unset, .unset, .unset, .unset, .unset, .unset, .unset, .unset, .unset] [(.ref b874)])) rfl (by rw [hml]; rfl) (Steps.refl _) (argsL := []) (rest := []) (lenOf pd_5 rfl) rfl (by show 2 * 0 + _ ≤ _; exact Nat.le_of_eq rfl) (hb hby at_146) (fun _ _ => ⟨rfl, k1148, (by decide : 23 + 2 ≤ _), (by decide : 158 + 14 ≤ _)⟩)
          dsimp only [Pt.U, Pt.locs, Pt.cells, Pt.slots] at X1150 l1150 y1150 z1150 st1150 hQ1150
          subst l1150 y1150 z1150
          obtain ⟨x1163, rfl, N1164, k1165, f1166, f1167, f1168⟩ := hQ1150
          have N1169 := Fr.app N1149 N1164
          have ge1170 : n0 ≤ x1163 := by rw [← O1145.1]; exact Nat.le_trans O1145.2.1 f1166
          have ne1171 : b874 ≠ x1163 := Nat.ne_of_lt (Nat.lt_of_lt_of_le (Exa.lt f1151) f1166)
          have f1172 := (Exa.keep f1098 k1128)
          have ne1173 : x881 ≠ x1163 := Nat.ne_of_lt (Nat.lt_of_lt_of_le (Exa.lt f1172) f1166)
          have f1174 := (Exa.keep f1106 k1128)
          have ne1175 : x882 ≠ x1163 := Nat.ne_of_lt (Nat.lt_of_lt_of_le (Exa.lt f1174) f1166)
          have f1176 := (Exa.keep f1137 k1128)
          have ne1177 : x884 ≠ x1163 := Nat.ne_of_lt (Nat.lt_of_lt_of_le (Exa.lt f1176) f1166)
          have f1178 := (Exa.keep f1139 k1128)
          have ne1179 : x885 ≠ x1163 := Nat.ne_of_lt (Nat.lt_of_lt_of_le (Exa.lt f1178) f1166)
          have ne1180 : x1000 ≠ x1163 := Nat.ne_of_lt (Nat.lt_of_lt_of_le (Exa.lt f1153) f1166)
          have ne1181 : x1001 ≠ x1163 := Nat.ne_of_lt (Nat.lt_of_lt_of_le (Exa.lt f1161) f1166)
          have f1182 := (Exa.keep f1143 k1128)
          have ne1183 : x1048 ≠ x1163 := Nat.ne_of_lt (Nat.lt_of_lt_of_le (Exa.lt f1182) f1166)
          have ne1184 : x1126 ≠ x1163 := Nat.ne_of_lt (Nat.lt_of_lt_of_le (Exa.lt f1130) f1166)
          have O1185 := O1145.keep k1165 all0
          obtain ⟨cq1186, kq1186, q1186a, q1186b, q1186c⟩ := isOf hZ rfl f1167
          obtain ⟨_, _, ⟨T1186, L1186, k1186, n1186⟩, -, X1186, ⟨Lc1186, hQ1186, l1186, y1186, z1186⟩, st1186⟩ := X1150.virtualBack hx (y := (⟨"com/example/sluice/sluice/WaitStatistics", "startedAtOnce", "()J"⟩ : MethodName)) (z := (⟨"com/example/sluice/sluice/WaitStatistics", "startedAtOnce", "()J"⟩ : MethodName)) hown (mvT hZ (own_w hw 124 rfl)) (mvT hZ (own_w hw 125 rfl)) (notFace_of_selects (args := #[]) (mvT hZ (own_w hw 127 rfl))) (mvT hZ (own_w hw 127 rfl)) (mvT hZ (own_w hw 126 rfl)) (by decide) (backOf (W := 0) (rm_get l Z a0 hw [] x1163 ((0 : Int64) + pc_) T1150.heap n0 O1185 f1168) hZ (own_w hw 128 rfl) (own_w hw 94 rfl) (by decide) (by decide)) q1186a q1186c (g := (mkF m 149 #[.val (.long raw), .second, .val (.long nw), .second, .val (.long lt), .second, .val (.long pc_), .second, .val (.int fl), .val (.long x2), .second, .val (.int (0 : Int32)), .val (.int (1 : Int32)), .val (.int (1 : Int32)), .val (.ref b874), .val (.long lt), .second, .val (.long ((0 : Int64) + (1 : Int64))), .second, .val (.long (((0 : Int64) + (1 : Int64)) + pc_)), .second, .unset, .unset, .unset, .unset, .unset, .unset, .unset, .unset, .unset] [(.ref x1163)])) rfl (by rw [hml]; rfl) (Steps.refl _) (argsL := []) (rest := []) (lenOf pd_8 rfl) rfl (by show 2 * 0 + _ ≤ _; exact Nat.le_of_eq rfl) (hb hby at_149) (fun _ _ => ⟨rfl, rfl, (by decide : 25 + 0 ≤ _), (by decide : 172 + 0 ≤ _)⟩)
          dsimp only [Pt.U, Pt.locs, Pt.cells, Pt.slots] at X1186 l1186 y1186 z1186 st1186 hQ1186
          subst l1186 y1186 z1186
          obtain ⟨rfl, N1187, k1188⟩ := hQ1186
          have N1189 := Fr.app N1169 N1187
          have S1190 : ∀ t, Steps p.tables e below (T1186.setTop (mkF m 271 #[.val (.long raw), .second, .val (.long nw), .second, .val (.long lt), .second, .val (.long pc_), .second, .val (.int fl), .val (.long x2), .second, .val (.int (0 : Int32)), .val (.int (1 : Int32)), .val (.int (1 : Int32)), .val (.ref b874), .val (.long lt), .second, .val (.long ((0 : Int64) + (1 : Int64))), .second, .val (.long (((0 : Int64) + (1 : Int64)) + pc_)), .second, .val (.long ((0 : Int64) + pc_)), .second, .val (.long (0 : Int64)), .second, .val (.long (1 : Int64)), .second, .val (.int (1 : Int32)), .val (.long ((0 : Int64) + pc_)), .second] [(.int (1 : Int32))])) t → Steps p.tables e below (s₁.setTop (mkF m 0 #[.val (.long raw), .second, .val (.long nw), .second, .val (.long lt), .second, .val (.long pc_), .second, .val (.int fl), .unset, .unset, .unset, .unset, .unset, .unset, .unset, .unset, .unset, .unset, .unset, .unset, .unset, .unset, .unset, .unset, .unset, .unset, .unset, .unset, .unset] [])) t := by
            intro t kt
            refine S620 t ?_
            refine XS.ifNo X1.here hx rfl (hb hby at_43) rfl ((if0 _ _).trans (feq (c621 : ¬ ((fl &&& (4 : Int32)) = (0 : Int32)))).1) ?_
            refine XS.iconst X1.here hx rfl (hb hby at_46) ?_
            refine XS.goto X1.here hx rfl (pc0 := 47) (pc' := 51) rfl (hb hby at_47) (by decide) (by decide) ?_
            refine XS.istore X1.here hx rfl (hb hby at_51) rfl (l' := #[.val (.long raw), .second, .val (.long nw), .second, .val (.long lt), .second, .val (.long pc_), .second, .val (.int fl), .val (.long x2), .second, .val (.int (0 : Int32)), .val (.int (1 : Int32)), .val (.int (1 : Int32)), .unset, .unset, .unset, .unset, .unset, .unset, .unset, .unset, .unset, .unset, .unset, .unset, .unset, .unset, .unset, .unset]) rfl ?_
            show Steps p.tables e below (T1.setTop (mkF m 53 #[.val (.long raw), .second, .val (.long nw), .second, .val (.long lt), .second, .val (.long pc_), .second, .val (.int fl), .val (.long x2), .second, .val (.int (0 : Int32)), .val (.int (1 : Int32)), .val (.int (1 : Int32)), .unset, .unset, .unset, .unset, .unset, .unset, .unset, .unset, .unset, .unset, .unset, .unset, .unset, .unset, .unset, .unset] [])) _
            refine st874 _ ?_
            refine XS.dup X874.here hx rfl (hb hby at_56) rfl rfl ?_
            refine XS.lload X874.here hx rfl (hb hby at_57) rfl ?_
            refine XS.lloadN X874.here hx rfl (hb hby at_59) rfl ?_
            show Steps p.tables e below (T874.setTop (mkF m 60 #[.val (.long raw), .second, .val (.long nw), .second, .val (.long lt), .second, .val (.long pc_), .second, .val (.int fl), .val (.long x2), .second, .val (.int (0 : Int32)), .val (.int (1 : Int32)), .val (.int (1 : Int32)), .unset, .unset, .unset, .unset, .unset, .unset, .unset, .unset, .unset, .unset, .unset, .unset, .unset, .unset, .unset, .unset] [(.long nw), (.long x2), (.ref b874), (.ref b874)])) _
            refine st880.trans ?_
            refine XS.astore X880.here hx rfl (hb hby at_63) rfl rfl (l' := #[.val (.long raw), .second, .val (.long nw), .second, .val (.long lt), .second, .val (.long pc_), .second, .val (.int fl), .val (.long x2), .second, .val (.int (0 : Int32)), .val (.int (1 : Int32)), .val (.int (1 : Int32)), .val (.ref b874), .unset, .unset, .unset, .unset, .unset, .unset, .unset, .unset, .unset, .unset, .unset, .unset, .unset, .unset, .unset]) rfl ?_
            refine XS.iload X880.here hx rfl (hb hby at_65) rfl ?_
            refine XS.ifYes X880.here hx rfl (pc0 := 67) (pc' := 76) rfl (hb hby at_67) rfl ((if0 _ _).trans (teq ((by decide) : (0 : Int32) = (0 : Int32))).1) (by decide) (by decide) ?_
            refine XS.iload X880.here hx rfl (hb hby at_76) rfl ?_
            refine XS.ifNo X880.here hx rfl (hb hby at_78) rfl ((if0 _ _).trans (feq ((by decide) : ¬ ((1 : Int32) = (0 : Int32)))).1) ?_
            show Steps p.tables e below (T880.setTop (mkF m 81 #[.val (.long raw), .second, .val (.long nw), .second, .val (.long lt), .second, .val (.long pc_), .second, .val (.int fl), .val (.long x2), .second, .val (.int (0 : Int32)), .val (.int (1 : Int32)), .val (.int (1 : Int32)), .val (.ref b874), .unset, .unset, .unset, .unset, .unset, .unset, .unset, .unset, .unset, .unset, .unset, .unset, .unset, .unset, .unset] [])) _
            refine XS.aload X880.here hx rfl (hb hby at_81) rfl rfl ?_
            refine XS.lload X880.here hx rfl (hb hby at_83) rfl ?_
            show Steps p.tables e below (T880.setTop (mkF m 85 #[.val (.long raw), .second, .val (.long nw), .second, .val (.long lt), .second, .val (.long pc_), .second, .val (.int fl), .val (.long x2), .second, .val (.int (0 : Int32)), .val (.int (1 : Int32)), .val (.int (1 : Int32)), .val (.ref b874), .unset, .unset, .unset, .unset, .unset, .unset, .unset, .unset, .unset, .unset, .unset, .unset, .unset, .unset, .unset] [(.long lt), (.ref b874)])) _
            refine st934.trans ?_
            refine XS.iload X934.here hx rfl (hb hby at_88) rfl ?_
            refine XS.ifNo X934.here hx rfl (hb hby at_90) rfl ((if0 _ _).trans (feq ((by decide) : ¬ ((1 : Int32) = (0 : Int32)))).1) ?_
            refine XS.aload X934.here hx rfl (hb hby at_93) rfl rfl ?_
            refine XS.lload X934.here hx rfl (hb hby at_95) rfl ?_
            show Steps p.tables e below (T934.setTop (mkF m 97 #[.val (.long raw), .second, .val (.long nw), .second, .val (.long lt), .second, .val (.long pc_), .second, .val (.int fl), .val (.long x2), .second, .val (.int (0 : Int32)), .val (.int (1 : Int32)), .val (.int (1 : Int32)), .val (.ref b874), .unset, .unset, .unset, .unset, .unset, .unset, .unset, .unset, .unset, .unset, .unset, .unset, .unset, .unset, .unset] [(.long lt), (.ref b874)])) _
            refine st999.trans ?_
            refine XS.iload X999.here hx rfl (hb hby at_100) rfl ?_
            refine XS.ifNo X999.here hx rfl (hb hby at_102) rfl ((if0 _ _).trans (feq ((by decide) : ¬ ((1 : Int32) = (0 : Int32)))).1) ?_
            refine XS.lload X999.here hx rfl (hb hby at_105) rfl ?_
            refine XS.goto X999.here hx rfl (pc0 := 107) (pc' := 111) rfl (hb hby at_107) (by decide) (by decide) ?_
            refine XS.lstore X999.here hx rfl (hb hby at_111) rfl (l' := #[.val (.long raw), .second, .val (.long nw), .second, .val (.long lt), .second, .val (.long pc_), .second, .val (.int fl), .val (.long x2), .second, .val (.int (0 : Int32)), .val (.int (1 : Int32)), .val (.int (1 : Int32)), .val (.ref b874), .val (.long lt), .second, .unset, .unset, .unset, .unset, .unset, .unset, .unset, .unset, .unset, .unset, .unset, .unset, .unset]) rfl ?_
            show Steps p.tables e below (T999.setTop (mkF m 113 #[.val (.long raw), .second, .val (.long nw), .second, .val (.long lt), .second, .val (.long pc_), .second, .val (.int fl), .val (.long x2), .second, .val (.int (0 : Int32)), .val (.int (1 : Int32)), .val (.int (1 : Int32)), .val (.ref b874), .val (.long lt), .second, .unset, .unset, .unset, .unset, .unset, .unset, .unset, .unset, .unset, .unset, .unset, .unset, .unset] [])) _
            refine XS.aload X999.here hx rfl (hb hby at_113) rfl rfl ?_
            refine XS.lload X999.here hx rfl (hb hby at_115) rfl ?_
            show Steps p.tables e below (T999.setTop (mkF m 117 #[.val (.long raw), .second, .val (.long nw), .second, .val (.long lt), .second, .val (.long pc_), .second, .val (.int fl), .val (.long x2), .second, .val (.int (0 : Int32)), .val (.int (1 : Int32)), .val (.int (1 : Int32)), .val (.ref b874), .val (.long lt), .second, .unset, .unset, .unset, .unset, .unset, .unset, .unset, .unset, .unset, .unset, .unset, .unset, .unset] [(.long lt), (.ref b874)])) _
            refine st1037.trans ?_
            show Steps p.tables e below (T1037.setTop (mkF m 120 #[.val (.long raw), .second, .val (.long nw), .second, .val (.long lt), .second, .val (.long pc_), .second, .val (.int fl), .val (.long x2), .second, .val (.int (0 : Int32)), .val (.int (1 : Int32)), .val (.int (1 : Int32)), .val (.ref b874), .val (.long lt), .second, .unset, .unset, .unset, .unset, .unset, .unset, .unset, .unset, .unset, .unset, .unset, .unset, .unset] [(.ref x1048)])) _
            refine st1066.trans ?_
            refine XS.lstore X1066.here hx rfl (hb hby at_123) rfl (l' := #[.val (.long raw), .second, .val (.long nw), .second, .val (.long lt), .second, .val (.long pc_), .second, .val (.int fl), .val (.long x2), .second, .val (.int (0 : Int32)), .val (.int (1 : Int32)), .val (.int (1 : Int32)), .val (.ref b874), .val (.long lt), .second, .val (.long ((0 : Int64) + (1 : Int64))), .second, .unset, .unset, .unset, .unset, .unset, .unset, .unset, .unset, .unset, .unset, .unset]) rfl ?_
            refine XS.aload X1066.here hx rfl (hb hby at_125) rfl rfl ?_
            refine XS.lload X1066.here hx rfl (hb hby at_127) rfl ?_
            show Steps p.tables e below (T1066.setTop (mkF m 129 #[.val (.long raw), .second, .val (.long nw), .second, .val (.long lt), .second, .val (.long pc_), .second, .val (.int fl), .val (.long x2), .second, .val (.int (0 : Int32)), .val (.int (1 : Int32)), .val (.int (1 : Int32)), .val (.ref b874), .val (.long lt), .second, .val (.long ((0 : Int64) + (1 : Int64))), .second, .unset, .unset, .unset, .unset, .unset, .unset, .unset, .unset, .unset, .unset, .unset] [(.long pc_), (.ref b874)])) _
            refine st1070.trans ?_
            refine XS.aload X1070.here hx rfl (hb hby at_132) rfl rfl ?_
            refine XS.lload X1070.here hx rfl (hb hby at_134) rfl ?_
            show Steps p.tables e below (T1070.setTop (mkF m 136 #[.val (.long raw), .second, .val (.long nw), .second, .val (.long lt), .second, .val (.long pc_), .second, .val (.int fl), .val (.long x2), .second, .val (.int (0 : Int32)), .val (.int (1 : Int32)), .val (.int (1 : Int32)), .val (.ref b874), .val (.long lt), .second, .val (.long ((0 : Int64) + (1 : Int64))), .second, .unset, .unset, .unset, .unset, .unset, .unset, .unset, .unset, .unset, .unset, .unset] [(.long lt), (.ref b874)])) _
            refine st1120.trans ?_
            show Steps p.tables e below (T1120.setTop (mkF m 139 #[.val (.long raw), .second, .val (.long nw), .second, .val (.long lt), .second, .val (.long pc_), .second, .val (.int fl), .val (.long x2), .second, .val (.int (0 : Int32)), .val (.int (1 : Int32)), .val (.int (1 : Int32)), .val (.ref b874), .val (.long lt), .second, .val (.long ((0 : Int64) + (1 : Int64))), .second, .unset, .unset, .unset, .unset, .unset, .unset, .unset, .unset, .unset, .unset, .unset] [(.ref x1126)])) _
            refine st1146.trans ?_
            refine XS.lstore X1146.here hx rfl (hb hby at_142) rfl (l' := #[.val (.long raw), .second, .val (.long nw), .second, .val (.long lt), .second, .val (.long pc_), .second, .val (.int fl), .val (.long x2), .second, .val (.int (0 : Int32)), .val (.int (1 : Int32)), .val (.int (1 : Int32)), .val (.ref b874), .val (.long lt), .second, .val (.long ((0 : Int64) + (1 : Int64))), .second, .val (.long (((0 : Int64) + (1 : Int64)) + pc_)), .second, .unset, .unset, .unset, .unset, .unset, .unset, .unset, .unset, .unset]) rfl ?_
            refine XS.aload X1146.here hx rfl (hb hby at_144) rfl rfl ?_
            show Steps p.tables e below (T1146.setTop (mkF m 146 #[.val (.long raw), .second, .val (.long nw), .second, .val (.long lt), .second, .val (.long pc_), .second, .val (.int fl), .val (.long x2), .second, .val (.int (0 : Int32)), .val (.int (1 : Int32)), .val (.int (1 : Int32)), .val (.ref b874), .val (.long lt), .second, .val (.long ((0 : Int64) + (1 : Int64))), .second, .val (.long (((0 : Int64) + (1 : Int64)) + pc_)), .second, .unset, .unset, .unset, .unset, .unset, .unset, .unset, .unset, .unset] [(.ref b874)])) _
            refine st1150.trans ?_
            show Steps p.tables e below (T1150.setTop (mkF m 149 #[.val (.long raw), .second, .val (.long nw), .second, .val (.long lt), .second, .val (.long pc_), .second, .val (.int fl), .val (.long x2), .second, .val (.int (0 : Int32)), .val (.int (1 : Int32)), .val (.int (1 : Int32)), .val (.ref b874), .val (.long lt), .second, .val (.long ((0 : Int64) + (1 : Int64))), .second, .val (.long (((0 : Int64) + (1 : Int64)) + pc_)), .second, .unset, .unset, .unset, .unset, .unset, .unset, .unset, .unset, .unset] [(.ref x1163)])) _
            refine st1186.trans ?_
            refine XS.lstore X1186.here hx rfl (hb hby at_152) rfl (l' := #[.val (.long raw), .second, .val (.long nw), .second, .val (.long lt), .second, .val (.long pc_), .second, .val (.int fl), .val (.long x2), .second, .val (.int (0 : Int32)), .val (.int (1 : Int32)), .val (.int (1 : Int32)), .val (.ref b874), .val (.long lt), .second, .val (.long ((0 : Int64) + (1 : Int64))), .second, .val (.long (((0 : Int64) + (1 : Int64)) + pc_)), .second, .val (.long ((0 : Int64) + pc_)), .second, .unset, .unset, .unset, .unset, .unset, .unset, .unset]) rfl ?_
            refine XS.iload X1186.here hx rfl (hb hby at_154) rfl ?_
            refine XS.ifYes X1186.here hx rfl (pc0 := 156) (pc' := 163) rfl (hb hby at_156) rfl ((if0 _ _).trans (teq ((by decide) : (0 : Int32) = (0 : Int32))).1) (by decide) (by decide) ?_
            refine XS.lconst X1186.here hx rfl (hb hby at_163) ?_
            refine XS.lstore X1186.here hx rfl (hb hby at_164) rfl (l' := #[.val (.long raw), .second, .val (.long nw), .second, .val (.long lt), .second, .val (.long pc_), .second, .val (.int fl), .val (.long x2), .second, .val (.int (0 : Int32)), .val (.int (1 : Int32)), .val (.int (1 : Int32)), .val (.ref b874), .val (.long lt), .second, .val (.long ((0 : Int64) + (1 : Int64))), .second, .val (.long (((0 : Int64) + (1 : Int64)) + pc_)), .second, .val (.long ((0 : Int64) + pc_)), .second, .val (.long (0 : Int64)), .second, .unset, .unset, .unset, .unset, .unset]) rfl ?_
            show Steps p.tables e below (T1186.setTop (mkF m 166 #[.val (.long raw), .second, .val (.long nw), .second, .val (.long lt), .second, .val (.long pc_), .second, .val (.int fl), .val (.long x2), .second, .val (.int (0 : Int32)), .val (.int (1 : Int32)), .val (.int (1 : Int32)), .val (.ref b874), .val (.long lt), .second, .val (.long ((0 : Int64) + (1 : Int64))), .second, .val (.long (((0 : Int64) + (1 : Int64)) + pc_)), .second, .val (.long ((0 : Int64) + pc_)), .second, .val (.long (0 : Int64)), .second, .unset, .unset, .unset, .unset, .unset] [])) _
            refine XS.iload X1186.here hx rfl (hb hby at_166) rfl ?_
            refine XS.ifNo X1186.here hx rfl (hb hby at_168) rfl ((if0 _ _).trans (feq ((by decide) : ¬ ((1 : Int32) = (0 : Int32)))).1) ?_
            refine XS.lconst X1186.here hx rfl (hb hby at_171) ?_
            refine XS.goto X1186.here hx rfl (pc0 := 172) (pc' := 176) rfl (hb hby at_172) (by decide) (by decide) ?_
            refine XS.lstore X1186.here hx rfl (hb hby at_176) rfl (l' := #[.val (.long raw), .second, .val (.long nw), .second, .val (.long lt), .second, .val (.long pc_), .second, .val (.int fl), .val (.long x2), .second, .val (.int (0 : Int32)), .val (.int (1 : Int32)), .val (.int (1 : Int32)), .val (.ref b874), .val (.long lt), .second, .val (.long ((0 : Int64) + (1 : Int64))), .second, .val (.long (((0 : Int64) + (1 : Int64)) + pc_)), .second, .val (.long ((0 : Int64) + pc_)), .second, .val (.long (0 : Int64)), .second, .val (.long (1 : Int64)), .second, .unset, .unset, .unset]) rfl ?_
            refine XS.iload X1186.here hx rfl (hb hby at_178) rfl ?_
            show Steps p.tables e below (T1186.setTop (mkF m 180 #[.val (.long raw), .second, .val (.long nw), .second, .val (.long lt), .second, .val (.long pc_), .second, .val (.int fl), .val (.long x2), .second, .val (.int (0 : Int32)), .val (.int (1 : Int32)), .val (.int (1 : Int32)), .val (.ref b874), .val (.long lt), .second, .val (.long ((0 : Int64) + (1 : Int64))), .second, .val (.long (((0 : Int64) + (1 : Int64)) + pc_)), .second, .val (.long ((0 : Int64) + pc_)), .second, .val (.long (0 : Int64)), .second, .val (.long (1 : Int64)), .second, .unset, .unset, .unset] [(.int (1 : Int32))])) _
            refine XS.ifNo X1186.here hx rfl (hb hby at_180) rfl ((if0 _ _).trans (feq ((by decide) : ¬ ((1 : Int32) = (0 : Int32)))).1) ?_
            refine XS.lload X1186.here hx rfl (hb hby at_183) rfl ?_
            refine XS.lconst X1186.here hx rfl (hb hby at_185) ?_
            refine XS.lcmp X1186.here hx rfl (hb hby at_186) rfl ?_
            refine XS.ifYes X1186.here hx rfl (pc0 := 187) (pc' := 200) rfl (hb hby at_187) rfl ((if0 _ _).trans (teq ((lw_eq ((0 : Int64) + (1 : Int64)) (1 : Int64)).mpr ((by decide) : ((0 : Int64) + (1 : Int64)) = (1 : Int64)) : (lcmpW ((0 : Int64) + (1 : Int64)) (1 : Int64)) = (0 : Int32))).1) (by decide) (by decide) ?_
            refine XS.iconst X1186.here hx rfl (hb hby at_200) ?_
            show Steps p.tables e below (T1186.setTop (mkF m 201 #[.val (.long raw), .second, .val (.long nw), .second, .val (.long lt), .second, .val (.long pc_), .second, .val (.int fl), .val (.long x2), .second, .val (.int (0 : Int32)), .val (.int (1 : Int32)), .val (.int (1 : Int32)), .val (.ref b874), .val (.long lt), .second, .val (.long ((0 : Int64) + (1 : Int64))), .second, .val (.long (((0 : Int64) + (1 : Int64)) + pc_)), .second, .val (.long ((0 : Int64) + pc_)), .second, .val (.long (0 : Int64)), .second, .val (.long (1 : Int64)), .second, .unset, .unset, .unset] [(.int (1 : Int32))])) _
            refine XS.goto X1186.here hx rfl (pc0 := 201) (pc' := 221) rfl (hb hby at_201) (by decide) (by decide) ?_
            refine XS.istore X1186.here hx rfl (hb hby at_221) rfl (l' := #[.val (.long raw), .second, .val (.long nw), .second, .val (.long lt), .second, .val (.long pc_), .second, .val (.int fl), .val (.long x2), .second, .val (.int (0 : Int32)), .val (.int (1 : Int32)), .val (.int (1 : Int32)), .val (.ref b874), .val (.long lt), .second, .val (.long ((0 : Int64) + (1 : Int64))), .second, .val (.long (((0 : Int64) + (1 : Int64)) + pc_)), .second, .val (.long ((0 : Int64) + pc_)), .second, .val (.long (0 : Int64)), .second, .val (.long (1 : Int64)), .second, .val (.int (1 : Int32)), .unset, .unset]) rfl ?_
            refine XS.iload X1186.here hx rfl (hb hby at_223) rfl ?_
            refine XS.ifNo X1186.here hx rfl (hb hby at_225) rfl ((if0 _ _).trans (feq ((by decide) : ¬ ((1 : Int32) = (0 : Int32)))).1) ?_
            refine XS.lconst X1186.here hx rfl (hb hby at_228) ?_
            refine XS.goto X1186.here hx rfl (pc0 := 229) (pc' := 237) rfl (hb hby at_229) (by decide) (by decide) ?_
            show Steps p.tables e below (T1186.setTop (mkF m 237 #[.val (.long raw), .second, .val (.long nw), .second, .val (.long lt), .second, .val (.long pc_), .second, .val (.int fl), .val (.long x2), .second, .val (.int (0 : Int32)), .val (.int (1 : Int32)), .val (.int (1 : Int32)), .val (.ref b874), .val (.long lt), .second, .val (.long ((0 : Int64) + (1 : Int64))), .second, .val (.long (((0 : Int64) + (1 : Int64)) + pc_)), .second, .val (.long ((0 : Int64) + pc_)), .second, .val (.long (0 : Int64)), .second, .val (.long (1 : Int64)), .second, .val (.int (1 : Int32)), .unset, .unset] [(.long (0 : Int64))])) _
            refine XS.lload X1186.here hx rfl (hb hby at_237) rfl ?_
            refine XS.ladd X1186.here hx rfl (hb hby at_239) rfl ?_
            refine XS.lstore X1186.here hx rfl (hb hby at_240) rfl (l' := #[.val (.long raw), .second, .val (.long nw), .second, .val (.long lt), .second, .val (.long pc_), .second, .val (.int fl), .val (.long x2), .second, .val (.int (0 : Int32)), .val (.int (1 : Int32)), .val (.int (1 : Int32)), .val (.ref b874), .val (.long lt), .second, .val (.long ((0 : Int64) + (1 : Int64))), .second, .val (.long (((0 : Int64) + (1 : Int64)) + pc_)), .second, .val (.long ((0 : Int64) + pc_)), .second, .val (.long (0 : Int64)), .second, .val (.long (1 : Int64)), .second, .val (.int (1 : Int32)), .val (.long ((0 : Int64) + pc_)), .second]) rfl ?_
            refine XS.iload X1186.here hx rfl (hb hby at_242) rfl ?_
            refine XS.ifNo X1186.here hx rfl (hb hby at_244) rfl ((if0 _ _).trans (feq ((by decide) : ¬ ((1 : Int32) = (0 : Int32)))).1) ?_
            refine XS.lload X1186.here hx rfl (hb hby at_247) rfl ?_
            show Steps p.tables e below (T1186.setTop (mkF m 249 #[.val (.long raw), .second, .val (.long nw), .second, .val (.long lt), .second, .val (.long pc_), .second, .val (.int fl), .val (.long x2), .second, .val (.int (0 : Int32)), .val (.int (1 : Int32)), .val (.int (1 : Int32)), .val (.ref b874), .val (.long lt), .second, .val (.long ((0 : Int64) + (1 : Int64))), .second, .val (.long (((0 : Int64) + (1 : Int64)) + pc_)), .second, .val (.long ((0 : Int64) + pc_)), .second, .val (.long (0 : Int64)), .second, .val (.long (1 : Int64)), .second, .val (.int (1 : Int32)), .val (.long ((0 : Int64) + pc_)), .second] [(.long (((0 : Int64) + (1 : Int64)) + pc_))])) _
            refine XS.lload X1186.here hx rfl (hb hby at_249) rfl ?_
            refine XS.lload X1186.here hx rfl (hb hby at_251) rfl ?_
            refine XS.ladd X1186.here hx rfl (hb hby at_253) rfl ?_
            refine XS.lcmp X1186.here hx rfl (hb hby at_254) rfl ?_
            refine XS.ifNo X1186.here hx rfl (hb hby at_255) rfl ((if0 _ _).trans (teq ((lw_eq (((0 : Int64) + (1 : Int64)) + pc_) (((0 : Int64) + (1 : Int64)) + pc_)).mpr (rfl : (((0 : Int64) + (1 : Int64)) + pc_) = (((0 : Int64) + (1 : Int64)) + pc_)) : (lcmpW (((0 : Int64) + (1 : Int64)) + pc_) (((0 : Int64) + (1 : Int64)) + pc_)) = (0 : Int32))).2) ?_
            refine XS.lload X1186.here hx rfl (hb hby at_258) rfl ?_
            show Steps p.tables e below (T1186.setTop (mkF m 260 #[.val (.long raw), .second, .val (.long nw), .second, .val (.long lt), .second, .val (.long pc_), .second, .val (.int fl), .val (.long x2), .second, .val (.int (0 : Int32)), .val (.int (1 : Int32)), .val (.int (1 : Int32)), .val (.ref b874), .val (.long lt), .second, .val (.long ((0 : Int64) + (1 : Int64))), .second, .val (.long (((0 : Int64) + (1 : Int64)) + pc_)), .second, .val (.long ((0 : Int64) + pc_)), .second, .val (.long (0 : Int64)), .second, .val (.long (1 : Int64)), .second, .val (.int (1 : Int32)), .val (.long ((0 : Int64) + pc_)), .second] [(.long ((0 : Int64) + pc_))])) _
            refine XS.lload X1186.here hx rfl (hb hby at_260) rfl ?_
            refine XS.lcmp X1186.here hx rfl (hb hby at_262) rfl ?_
            refine XS.ifNo X1186.here hx rfl (hb hby at_263) rfl ((if0 _ _).trans (teq ((lw_eq ((0 : Int64) + pc_) ((0 : Int64) + pc_)).mpr (rfl : ((0 : Int64) + pc_) = ((0 : Int64) + pc_)) : (lcmpW ((0 : Int64) + pc_) ((0 : Int64) + pc_)) = (0 : Int32))).2) ?_
            refine XS.iconst X1186.here hx rfl (hb hby at_266) ?_
            refine XS.goto X1186.here hx rfl (pc0 := 267) (pc' := 271) rfl (hb hby at_267) (by decide) (by decide) ?_
            exact kt
          obtain ⟨fs, hr, hrun, hended, hW, hsame⟩ := X1186.leave (v := some (.int (1 : Int32))) (fun h => by rw [Bd.returns] at h; cases h)
          refine ⟨_, _, pre0 _ (S1190 _ ?_), hrun, hended, _, _, rfl, ?_, ⟨_, rfl⟩, hW, hsame.mono (by decide) (by decide)⟩
          · exact retN X1186 hx (t := .boolean) Bd.returns (by simp) (hb hby at_271) hr
          · show Q_rm_law Z raw nw lt pc_ fl wV kV vV h0 n0 _ T1186.heap _
            rw [k1188]
            exact ⟨rfl, N1189⟩
        · have N1191 := Fr.app N924 N967
          have ge1192 : n0 ≤ x963 := by rw [← O933.1]; exact Nat.le_trans O933.2.1 f969
          have ne1193 : b874 ≠ x963 := Nat.ne_of_lt (Nat.lt_of_lt_of_le (Exa.lt f899) f969)
          have ne1194 : x881 ≠ x963 := Nat.ne_of_lt (Nat.lt_of_lt_of_le (Exa.lt f904) f969)
          have ne1195 : x882 ≠ x963 := Nat.ne_of_lt (Nat.lt_of_lt_of_le (Exa.lt f912) f969)
          have ne1196 : x884 ≠ x963 := Nat.ne_of_lt (Nat.lt_of_lt_of_le (Exa.lt f914) f969)
          have ne1197 : x885 ≠ x963 := Nat.ne_of_lt (Nat.lt_of_lt_of_le (Exa.lt f922) f969)
          have ge1198 : n0 ≤ x964 := by rw [← O933.1]; exact Nat.le_trans O933.2.1 f970
          have ne1199 : b874 ≠ x964 := Nat.ne_of_lt (Nat.lt_of_lt_of_le (Exa.lt f899) f970)
          have ne1200 : x881 ≠ x964 := Nat.ne_of_lt (Nat.lt_of_lt_of_le (Exa.lt f904) f970)
          have ne1201 : x882 ≠ x964 := Nat.ne_of_lt (Nat.lt_of_lt_of_le (Exa.lt f912) f970)
          have ne1202 : x884 ≠ x964 := Nat.ne_of_lt (Nat.lt_of_lt_of_le (Exa.lt f914) f970)
          have ne1203 : x885 ≠ x964 := Nat.ne_of_lt (Nat.lt_of_lt_of_le (Exa.lt f922) f970)
          have O1204 := O933.keep k968 (allS ge_b874 (allS ge925 (allS ge929 all0)))
          obtain ⟨cq1205, kq1205, q1205a, q1205b, q1205c⟩ := isOf hZ rfl f972
          obtain ⟨_, _, ⟨T1205, L1205, k1205, n1205⟩, -, X1205, ⟨Lc1205, hQ1205, l1205, y1205, z1205⟩, st1205⟩ := X934.virtualBack hx (y := (⟨"com/example/sluice/sluice/WaitRecorder", "reset", "(J)V"⟩ : MethodName)) (z := (⟨"com/example/sluice/sluice/WaitRecorder", "reset", "(J)V"⟩ : MethodName)) hown (mvT hZ (own_w hw 77 rfl)) (mvT hZ (own_w hw 78 rfl)) (notFace_of_selects (args := #[]) (mvT hZ (own_w hw 80 rfl))) (mvT hZ (own_w hw 80 rfl)) (mvT hZ (own_w hw 79 rfl)) (by decide) (backOf (W := 0) (rm_reset l Z a0 hw [] b874 lt x2 (own_fd lt x2) x963 x964 x965 x884 x885 x886 ((own_fd lt x2) * x2) ((0 : Int64) + (1 : Int64)) nw ((0 : Int64) + (1 : Int64)) wV kV vV T934.heap n0 O1204 f972 f973 f974 f975 f976 f977 f978 f979 f980 f981 f982 f983 f984 f985 f986 f987 f988 f989 f990 f991 f992 f993 f994 f995 f996 ge_b874 ge1192 ge929 ne1193 ne1199 ne930 ne932 f971 (Ne.symm ne1196) (Ne.symm ne1197) (Ne.symm ne1202) (Ne.symm ne1203) f898 S_V E_V A_V) hZ (own_w hw 81 rfl) (own_w hw 7 rfl) (by decide) (by decide)) q1205a q1205c (g := (mkF m 97 #[.val (.long raw), .second, .val (.long nw), .second, .val (.long lt), .second, .val (.long pc_), .second, .val (.int fl), .val (.long x2), .second, .val (.int (0 : Int32)), .val (.int (1 : Int32)), .val (.int (1 : Int32)), .val (.ref b874), .unset, .unset, .unset, .unset, .unset, .unset, .unset, .unset, .unset, .unset, .unset, .unset, .unset, .unset, .unset] [(.long lt), (.ref b874)])) rfl (by rw [hml]; rfl) (Steps.refl _) (argsL := [(.long lt)]) (rest := []) (lenOf pd_2 rfl) rfl (by show 2 * 0 + _ ≤ _; exact Nat.le_of_eq rfl) (hb hby at_97) (fun _ _ => ⟨rfl, rfl, (by decide : 10 + 3 ≤ _), (by decide : 67 + 21 ≤ _)⟩)
          dsimp only [Pt.U, Pt.locs, Pt.cells, Pt.slots] at X1205 l1205 y1205 z1205 st1205 hQ1205
          subst l1205 y1205 z1205
          obtain ⟨x1206, x1207, x1208, rfl, N1209, k1210, f1211, f1212, f1213, f1214, f1215, f1216, f1217, f1218, f1219, f1220, f1221, f1222, f1223, f1224, f1225, f1226, f1227, f1228⟩ := hQ1205
          have N1229 := Fr.app N1191 N1209
          have ge1230 : n0 ≤ x1206 := by rw [← O1204.1]; exact Nat.le_trans O1204.2.1 f1211
          have ne1231 : b874 ≠ x1206 := Nat.ne_of_lt (Nat.lt_of_lt_of_le (Exa.lt f972) f1211)
          have f1232 := (Exa.keep f904 k968)
          have ne1233 : x881 ≠ x1206 := Nat.ne_of_lt (Nat.lt_of_lt_of_le (Exa.lt f1232) f1211)
          have f1234 := (Exa.keep f912 k968)
          have ne1235 : x882 ≠ x1206 := Nat.ne_of_lt (Nat.lt_of_lt_of_le (Exa.lt f1234) f1211)
          have ne1236 : x884 ≠ x1206 := Nat.ne_of_lt (Nat.lt_of_lt_of_le (Exa.lt f987) f1211)
          have ne1237 : x885 ≠ x1206 := Nat.ne_of_lt (Nat.lt_of_lt_of_le (Exa.lt f995) f1211)
          have ne1238 : x963 ≠ x1206 := Nat.ne_of_lt (Nat.lt_of_lt_of_le (Exa.lt f977) f1211)
          have ne1239 : x964 ≠ x1206 := Nat.ne_of_lt (Nat.lt_of_lt_of_le (Exa.lt f985) f1211)
          have ge1240 : n0 ≤ x1207 := by rw [← O1204.1]; exact Nat.le_trans O1204.2.1 f1212
          have ne1241 : b874 ≠ x1207 := Nat.ne_of_lt (Nat.lt_of_lt_of_le (Exa.lt f972) f1212)
          have ne1242 : x881 ≠ x1207 := Nat.ne_of_lt (Nat.lt_of_lt_of_le (Exa.lt f1232) f1212)
          have ne1243 : x882 ≠ x1207 := Nat.ne_of_lt (Nat.lt_of_lt_of_le (Exa.lt f1234) f1212)
          have ne1244 : x884 ≠ x1207 := Nat.ne_of_lt (Nat.lt_of_lt_of_le (Exa.lt f987) f1212)
          have ne1245 : x885 ≠ x1207 := Nat.ne_of_lt (Nat.lt_of_lt_of_le (Exa.lt f995) f1212)
          have ne1246 : x963 ≠ x1207 := Nat.ne_of_lt (Nat.lt_of_lt_of_le (Exa.lt f977) f1212)
          have ne1247 : x964 ≠ x1207 := Nat.ne_of_lt (Nat.lt_of_lt_of_le (Exa.lt f985) f1212)
          have O1248 := O1204.keep k1210 (allS ge_b874 all0)
          have f1250 := (Exa.keep f977 k1210)
          have f1251 := (Fld.keep f978 k1210 (ninS (Ne.symm ne1193) nin0))
          have f1252 := (Fld.keep f979 k1210 (ninS (Ne.symm ne1193) nin0))
          have f1253 := (Fld.keep f980 k1210 (ninS (Ne.symm ne1193) nin0))
          have f1254 := (Fld.keep f981 k1210 (ninS (Ne.symm ne1193) nin0))
          have f1255 := (Fld.keep f982 k1210 (ninS (Ne.symm ne1193) nin0))
          have f1256 := (Fld.keep f983 k1210 (ninS (Ne.symm ne1193) nin0))
          have f1257 := (Fld.keep f984 k1210 (ninS (Ne.symm ne1193) nin0))
          have f1258 := (Exa.keep f985 k1210)
          have f1259 := (Arv.keep f986 k1210 (ninS (Ne.symm ne1199) nin0))
          obtain ⟨cq1249, kq1249, q1249a, q1249b, q1249c⟩ := isOf hZ rfl f1214
          obtain ⟨_, _, ⟨T1249, L1249, k1249, n1249⟩, -, X1249, ⟨Lc1249, hQ1249, l1249, y1249, z1249⟩, st1249⟩ := X1205.virtualBack hx (y := (⟨"com/example/sluice/sluice/WaitRecorder", "intervalSnapshot", "(J)Lcom/example/sluice/sluice/WaitStatistics;"⟩ : MethodName)) (z := (⟨"com/example/sluice/sluice/WaitRecorder", "intervalSnapshot", "(J)Lcom/example/sluice/sluice/WaitStatistics;"⟩ : MethodName)) hown (mvT hZ (own_w hw 82 rfl)) (mvT hZ (own_w hw 83 rfl)) (notFace_of_selects (args := #[]) (mvT hZ (own_w hw 85 rfl))) (mvT hZ (own_w hw 85 rfl)) (mvT hZ (own_w hw 84 rfl)) (by decide) (backOf (W := 0) (rm_isnap l Z a0 hw [] b874 lt x2 (own_fd lt x2) x963 x964 x965 x1206 x1207 x1208 ((own_fd lt x2) * x2) ((0 : Int64) + (1 : Int64)) lt (0 : Int64) wV kV vV T1205.heap n0 O1248 f1214 f1215 f1216 f1217 f1218 f1250 f1251 f1252 f1253 f1254 f1255 f1256 f1257 f1258 f1259 f1219 f1220 f1221 f1222 f1223 f1224 f1225 f1226 f1227 f1228 ge_b874 ge1192 ge1230 ne1193 ne1199 ne1231 ne1241 f971 ne1238 ne1246 ne1239 ne1247 f1213 S_V E_V A_V hlen rfl) hZ (own_w hw 86 rfl) (own_w hw 7 rfl) (by decide) (by decide)) q1249a q1249c (g := (mkF m 117 #[.val (.long raw), .second, .val (.long nw), .second, .val (.long lt), .second, .val (.long pc_), .second, .val (.int fl), .val (.long x2), .second, .val (.int (0 : Int32)), .val (.int (1 : Int32)), .val (.int (1 : Int32)), .val (.ref b874), .val (.long lt), .second, .unset, .unset, .unset, .unset, .unset, .unset, .unset, .unset, .unset, .unset, .unset, .unset, .unset] [(.long lt), (.ref b874)])) rfl (by rw [hml]; rfl) (Steps.refl _) (argsL := [(.long lt)]) (rest := []) (lenOf pd_7 rfl) rfl (by show 2 * 0 + _ ≤ _; exact Nat.le_of_eq rfl) (hb hby at_117) (fun _ _ => ⟨rfl, rfl, (by decide : 13 + 5 ≤ _), (by decide : 88 + 35 ≤ _)⟩)
          dsimp only [Pt.U, Pt.locs, Pt.cells, Pt.slots] at X1249 l1249 y1249 z1249 st1249 hQ1249
          subst l1249 y1249 z1249
          obtain ⟨x1260, rfl, N1261, k1262, f1263, f1264, f1265⟩ := hQ1249
          have N1266 := Fr.app N1229 N1261
          have ge1267 : n0 ≤ x1260 := by rw [← O1248.1]; exact Nat.le_trans O1248.2.1 f1263
          have ne1268 : b874 ≠ x1260 := Nat.ne_of_lt (Nat.lt_of_lt_of_le (Exa.lt f1214) f1263)
          have f1269 := (Exa.keep f1232 k1210)
          have ne1270 : x881 ≠ x1260 := Nat.ne_of_lt (Nat.lt_of_lt_of_le (Exa.lt f1269) f1263)
          have f1271 := (Exa.keep f1234 k1210)
          have ne1272 : x882 ≠ x1260 := Nat.ne_of_lt (Nat.lt_of_lt_of_le (Exa.lt f1271) f1263)
          have f1273 := (Exa.keep f987 k1210)
          have ne1274 : x884 ≠ x1260 := Nat.ne_of_lt (Nat.lt_of_lt_of_le (Exa.lt f1273) f1263)
          have f1275 := (Exa.keep f995 k1210)
          have ne1276 : x885 ≠ x1260 := Nat.ne_of_lt (Nat.lt_of_lt_of_le (Exa.lt f1275) f1263)
          have ne1277 : x963 ≠ x1260 := Nat.ne_of_lt (Nat.lt_of_lt_of_le (Exa.lt f1250) f1263)
          have ne1278 : x964 ≠ x1260 := Nat.ne_of_lt (Nat.lt_of_lt_of_le (Exa.lt f1258) f1263)
          have ne1279 : x1206 ≠ x1260 := Nat.ne_of_lt (Nat.lt_of_lt_of_le (Exa.lt f1219) f1263)
          have ne1280 : x1207 ≠ x1260 := Nat.ne_of_lt (Nat.lt_of_lt_of_le (Exa.lt f1227) f1263)
          have O1281 := O1248.keep k1262 all0
          obtain ⟨cq1282, kq1282, q1282a, q1282b, q1282c⟩ := isOf hZ rfl f1264
          obtain ⟨_, _, ⟨T1282, L1282, k1282, n1282⟩, -, X1282, ⟨Lc1282, hQ1282, l1282, y1282, z1282⟩, st1282⟩ := X1249.virtualBack hx (y := (⟨"com/example/sluice/sluice/WaitStatistics", "startedAtOnce", "()J"⟩ : MethodName)) (z := (⟨"com/example/sluice/sluice/WaitStatistics", "startedAtOnce", "()J"⟩ : MethodName)) hown (mvT hZ (own_w hw 124 rfl)) (mvT hZ (own_w hw 125 rfl)) (notFace_of_selects (args := #[]) (mvT hZ (own_w hw 127 rfl))) (mvT hZ (own_w hw 127 rfl)) (mvT hZ (own_w hw 126 rfl)) (by decide) (backOf (W := 0) (rm_get l Z a0 hw [] x1260 ((0 : Int64) + (1 : Int64)) T1249.heap n0 O1281 f1265) hZ (own_w hw 128 rfl) (own_w hw 94 rfl) (by decide) (by decide)) q1282a q1282c (g := (mkF m 120 #[.val (.long raw), .second, .val (.long nw), .second, .val (.long lt), .second, .val (.long pc_), .second, .val (.int fl), .val (.long x2), .second, .val (.int (0 : Int32)), .val (.int (1 : Int32)), .val (.int (1 : Int32)), .val (.ref b874), .val (.long lt), .second, .unset, .unset, .unset, .unset, .unset, .unset, .unset, .unset, .unset, .unset, .unset, .unset, .unset] [(.ref x1260)])) rfl (by rw [hml]; rfl) (Steps.refl _) (argsL := []) (rest := []) (lenOf pd_8 rfl) rfl (by show 2 * 0 + _ ≤ _; exact Nat.le_of_eq rfl) (hb hby at_120) (fun _ _ => ⟨rfl, rfl, (by decide : 18 + 0 ≤ _), (by decide : 123 + 0 ≤ _)⟩)
          dsimp only [Pt.U, Pt.locs, Pt.cells, Pt.slots] at X1282 l1282 y1282 z1282 st1282 hQ1282
          subst l1282 y1282 z1282
          obtain ⟨rfl, N1283, k1284⟩ := hQ1282
          have N1285 := Fr.app N1266 N1283
          have f1287 := (Exa.keep f1214 k1262)
          have f1288 := (Fld.keep f1215 k1262 nin0)
          have f1289 := (Fld.keep f1216 k1262 nin0)
          have f1290 := (Fld.keep f1217 k1262 nin0)
          have f1291 := (Fld.keep f1218 k1262 nin0)
          have f1292 := (Exa.keep f1250 k1262)
          have f1293 := (Fld.keep f1251 k1262 nin0)
          have f1294 := (Fld.keep f1252 k1262 nin0)
          have f1295 := (Fld.keep f1253 k1262 nin0)
          have f1296 := (Fld.keep f1254 k1262 nin0)
          have f1297 := (Fld.keep f1255 k1262 nin0)
          have f1298 := (Fld.keep f1256 k1262 nin0)
          have f1299 := (Fld.keep f1257 k1262 nin0)
          have f1300 := (Exa.keep f1258 k1262)
          have f1301 := (Arv.keep f1259 k1262 nin0)
          have f1302 := (Exa.keep f1219 k1262)
          have f1303 := (Fld.keep f1220 k1262 nin0)
          have f1304 := (Fld.keep f1221 k1262 nin0)
          have f1305 := (Fld.keep f1222 k1262 nin0)
          have f1306 := (Fld.keep f1223 k1262 nin0)
          have f1307 := (Fld.keep f1224 k1262 nin0)
          have f1308 := (Fld.keep f1225 k1262 nin0)
          have f1309 := (Fld.keep f1226 k1262 nin0)
          have f1310 := (Exa.keep f1227 k1262)
          have f1311 := (Arv.keep f1228 k1262 nin0)
          obtain ⟨cq1286, kq1286, q1286a, q1286b, q1286c⟩ := isOf hZ k1284 f1287
          obtain ⟨_, _, ⟨T1286, L1286, k1286, n1286⟩, -, X1286, ⟨Lc1286, hQ1286, l1286, y1286, z1286⟩, st1286⟩ := X1282.virtualBack hx (y := (⟨"com/example/sluice/sluice/WaitRecorder", "startedAtOnceEarlier", "(J)V"⟩ : MethodName)) (z := (⟨"com/example/sluice/sluice/WaitRecorder", "startedAtOnceEarlier", "(J)V"⟩ : MethodName)) hown (mvT hZ (own_w hw 129 rfl)) (mvT hZ (own_w hw 130 rfl)) (notFace_of_selects (args := #[]) (mvT hZ (own_w hw 132 rfl))) (mvT hZ (own_w hw 132 rfl)) (mvT hZ (own_w hw 131 rfl)) (by decide) (backOf (W := 0) (rm_sae l Z a0 hw [] b874 pc_ x2 (own_fd lt x2) x963 x964 x965 x1206 x1207 x1208 ((own_fd lt x2) * x2) ((0 : Int64) + (1 : Int64)) lt (0 : Int64) T1249.heap n0 O1281 f1287 f1288 f1289 f1290 f1291 f1292 f1293 f1294 f1295 f1296 f1297 f1298 f1299 f1300 f1301 f1302 f1303 f1304 f1305 f1306 f1307 f1308 f1309 f1310 f1311 ge_b874 ge1192 ge1230 ne1193 ne1199 ne1231 ne1241 f971 ne1238 ne1246 ne1239 ne1247 f1213) hZ (own_w hw 133 rfl) (own_w hw 7 rfl) (by decide) (by decide)) q1286a q1286c (g := (mkF m 129 #[.val (.long raw), .second, .val (.long nw), .second, .val (.long lt), .second, .val (.long pc_), .second, .val (.int fl), .val (.long x2), .second, .val (.int (0 : Int32)), .val (.int (1 : Int32)), .val (.int (1 : Int32)), .val (.ref b874), .val (.long lt), .second, .val (.long ((0 : Int64) + (1 : Int64))), .second, .unset, .unset, .unset, .unset, .unset, .unset, .unset, .unset, .unset, .unset, .unset] [(.long pc_), (.ref b874)])) rfl (by rw [hml]; rfl) (Steps.refl _) (argsL := [(.long pc_)]) (rest := []) (lenOf pd_2 rfl) rfl (by show 2 * 0 + _ ≤ _; exact Nat.le_of_eq rfl) (hb hby at_129) (fun _ _ => ⟨rfl, k1284, (by decide : 18 + 0 ≤ _), (by decide : 123 + 0 ≤ _)⟩)
          dsimp only [Pt.U, Pt.locs, Pt.cells, Pt.slots] at X1286 l1286 y1286 z1286 st1286 hQ1286
          subst l1286 y1286 z1286
          obtain ⟨rfl, N1312, k1313, f1314, f1315, f1316, f1317, f1318, f1319, f1320, f1321, f1322, f1323, f1324, f1325, f1326, f1327, f1328, f1329, f1330, f1331, f1332, f1333⟩ := hQ1286
          have N1334 := Fr.app N1285 N1312
          have O1335 := O1281.keep k1313 (allS ge1192 (allS ge1230 all0))
          have f1337 := (Exa.keep f1287 k1313)
          have f1338 := (Fld.keep f1288 k1313 (ninS ne1193 (ninS ne1231 nin0)))
          have f1339 := (Fld.keep f1289 k1313 (ninS ne1193 (ninS ne1231 nin0)))
          have f1340 := (Fld.keep f1290 k1313 (ninS ne1193 (ninS ne1231 nin0)))
          have f1341 := (Fld.keep f1291 k1313 (ninS ne1193 (ninS ne1231 nin0)))
          obtain ⟨cq1336, kq1336, q1336a, q1336b, q1336c⟩ := isOf hZ rfl f1337
          obtain ⟨_, _, ⟨T1336, L1336, k1336, n1336⟩, -, X1336, ⟨Lc1336, hQ1336, l1336, y1336, z1336⟩, st1336⟩ := X1286.virtualBack hx (y := (⟨"com/example/sluice/sluice/WaitRecorder", "intervalSnapshot", "(J)Lcom/example/sluice/sluice/WaitStatistics;"⟩ : MethodName)) (z := (⟨"com/example/sluice/sluice/WaitRecorder", "intervalSnapshot", "(J)Lcom/example/sluice/sluice/WaitStatistics;"⟩ : MethodName)) hown (mvT hZ (own_w hw 82 rfl)) (mvT hZ (own_w hw 83 rfl)) (notFace_of_selects (args := #[]) (mvT hZ (own_w hw 85 rfl))) (mvT hZ (own_w hw 85 rfl)) (mvT hZ (own_w hw 84 rfl)) (by decide) (backOf (W := 0) (rm_isnap l Z a0 hw [] b874 lt x2 (own_fd lt x2) x963 x964 x965 x1206 x1207 x1208 ((own_fd lt x2) * x2) (((0 : Int64) + (1 : Int64)) + pc_) lt ((0 : Int64) + pc_) wV kV vV T1286.heap n0 O1335 f1337 f1338 f1339 f1340 f1341 f1314 f1315 f1316 f1317 f1318 f1319 f1320 f1321 f1322 f1323 f1324 f1325 f1326 f1327 f1328 f1329 f1330 f1331 f1332 f1333 ge_b874 ge1192 ge1230 ne1193 ne1199 ne1231 ne1241 f971 ne1238 ne1246 ne1239 ne1247 f1213 S_V E_V A_V hlen rfl) hZ (own_w hw 86 rfl) (own_w hw 7 rfl) (by decide) (by decide)) q1336a q1336c (g := (mkF m 136 #[.val (.long raw), .second, .val (.long nw), .second, .val (.long lt), .second, .val (.long pc_), .second, .val (.int fl), .val (.long x2), .second, .val (.int (0 : Int32)), .val (.int (1 : Int32)), .val (.int (1 : Int32)), .val (.ref b874), .val (.long lt), .second, .val (.long ((0 : Int64) + (1 : Int64))), .second, .unset, .unset, .unset, .unset, .unset, .unset, .unset, .unset, .unset, .unset, .unset] [(.long lt), (.ref b874)])) rfl (by rw [hml]; rfl) (Steps.refl _) (argsL := [(.long lt)]) (rest := []) (lenOf pd_7 rfl) rfl (by show 2 * 0 + _ ≤ _; exact Nat.le_of_eq rfl) (hb hby at_136) (fun _ _ => ⟨rfl, rfl, (by decide : 18 + 5 ≤ _), (by decide : 123 + 35 ≤ _)⟩)
          dsimp only [Pt.U, Pt.locs, Pt.cells, Pt.slots] at X1336 l1336 y1336 z1336 st1336 hQ1336
          subst l1336 y1336 z1336
          obtain ⟨x1342, rfl, N1343, k1344, f1345, f1346, f1347⟩ := hQ1336
          have N1348 := Fr.app N1334 N1343
          have ge1349 : n0 ≤ x1342 := by rw [← O1335.1]; exact Nat.le_trans O1335.2.1 f1345
          have ne1350 : b874 ≠ x1342 := Nat.ne_of_lt (Nat.lt_of_lt_of_le (Exa.lt f1337) f1345)
          have f1351 := (Exa.keep (Exa.keep f1269 k1262) k1313)
          have ne1352 : x881 ≠ x1342 := Nat.ne_of_lt (Nat.lt_of_lt_of_le (Exa.lt f1351) f1345)
          have f1353 := (Exa.keep (Exa.keep f1271 k1262) k1313)
          have ne1354 : x882 ≠ x1342 := Nat.ne_of_lt (Nat.lt_of_lt_of_le (Exa.lt f1353) f1345)
          have f1355 := (Exa.keep (Exa.keep f1273 k1262) k1313)
          have ne1356 : x884 ≠ x1342 := Nat.ne_of_lt (Nat.lt_of_lt_of_le (Exa.lt f1355) f1345)
          have f1357 := (Exa.keep (Exa.keep f1275 k1262) k1313)
          have ne1358 : x885 ≠ x1342 := Nat.ne_of_lt (Nat.lt_of_lt_of_le (Exa.lt f1357) f1345)
          have ne1359 : x963 ≠ x1342 := Nat.ne_of_lt (Nat.lt_of_lt_of_le (Exa.lt f1314) f1345)
          have ne1360 : x964 ≠ x1342 := Nat.ne_of_lt (Nat.lt_of_lt_of_le (Exa.lt f1322) f1345)
          have ne1361 : x1206 ≠ x1342 := Nat.ne_of_lt (Nat.lt_of_lt_of_le (Exa.lt f1324) f1345)
          have ne1362 : x1207 ≠ x1342 := Nat.ne_of_lt (Nat.lt_of_lt_of_le (Exa.lt f1332) f1345)
          have f1363 := (Exa.keep f1264 k1313)
          have ne1364 : x1260 ≠ x1342 := Nat.ne_of_lt (Nat.lt_of_lt_of_le (Exa.lt f1363) f1345)
          have O1365 := O1335.keep k1344 all0
          obtain ⟨cq1366, kq1366, q1366a, q1366b, q1366c⟩ := isOf hZ rfl f1346
          obtain ⟨_, _, ⟨T1366, L1366, k1366, n1366⟩, -, X1366, ⟨Lc1366, hQ1366, l1366, y1366, z1366⟩, st1366⟩ := X1336.virtualBack hx (y := (⟨"com/example/sluice/sluice/WaitStatistics", "startedAtOnce", "()J"⟩ : MethodName)) (z := (⟨"com/example/sluice/sluice/WaitStatistics", "startedAtOnce", "()J"⟩ : MethodName)) hown (mvT hZ (own_w hw 124 rfl)) (mvT hZ (own_w hw 125 rfl)) (notFace_of_selects (args := #[]) (mvT hZ (own_w hw 127 rfl))) (mvT hZ (own_w hw 127 rfl)) (mvT hZ (own_w hw 126 rfl)) (by decide) (backOf (W := 0) (rm_get l Z a0 hw [] x1342 (((0 : Int64) + (1 : Int64)) + pc_) T1336.heap n0 O1365 f1347) hZ (own_w hw 128 rfl) (own_w hw 94 rfl) (by decide) (by decide)) q1366a q1366c (g := (mkF m 139 #[.val (.long raw), .second, .val (.long nw), .second, .val (.long lt), .second, .val (.long pc_), .second, .val (.int fl), .val (.long x2), .second, .val (.int (0 : Int32)), .val (.int (1 : Int32)), .val (.int (1 : Int32)), .val (.ref b874), .val (.long lt), .second, .val (.long ((0 : Int64) + (1 : Int64))), .second, .unset, .unset, .unset, .unset, .unset, .unset, .unset, .unset, .unset, .unset, .unset] [(.ref x1342)])) rfl (by rw [hml]; rfl) (Steps.refl _) (argsL := []) (rest := []) (lenOf pd_8 rfl) rfl (by show 2 * 0 + _ ≤ _; exact Nat.le_of_eq rfl) (hb hby at_139) (fun _ _ => ⟨rfl, rfl, (by decide : 23 + 0 ≤ _), (by decide : 158 + 0 ≤ _)⟩)
          dsimp only [Pt.U, Pt.locs, Pt.cells, Pt.slots] at X1366 l1366 y1366 z1366 st1366 hQ1366
          subst l1366 y1366 z1366
          obtain ⟨rfl, N1367, k1368⟩ := hQ1366
          have N1369 := Fr.app N1348 N1367
          have f1371 := (Exa.keep f1337 k1344)
          have f1372 := (Fld.keep f1341 k1344 nin0)
          have f1373 := (Exa.keep f1324 k1344)
          have f1374 := (Fld.keep f1325 k1344 nin0)
          have f1375 := (Fld.keep f1326 k1344 nin0)
          have f1376 := (Fld.keep f1327 k1344 nin0)
          have f1377 := (Fld.keep f1328 k1344 nin0)
          have f1378 := (Fld.keep f1329 k1344 nin0)
          have f1379 := (Fld.keep f1330 k1344 nin0)
          have f1380 := (Fld.keep f1331 k1344 nin0)
          have f1381 := (Exa.keep f1332 k1344)
          have f1382 := (Arv.keep f1333 k1344 nin0)
          obtain ⟨cq1370, kq1370, q1370a, q1370b, q1370c⟩ := isOf hZ k1368 f1371
          obtain ⟨_, _, ⟨T1370, L1370, k1370, n1370⟩, -, X1370, ⟨Lc1370, hQ1370, l1370, y1370, z1370⟩, st1370⟩ := X1366.virtualBack hx (y := (⟨"com/example/sluice/sluice/WaitRecorder", "sinceResetSnapshot", "()Lcom/example/sluice/sluice/WaitStatistics;"⟩ : MethodName)) (z := (⟨"com/example/sluice/sluice/WaitRecorder", "sinceResetSnapshot", "()Lcom/example/sluice/sluice/WaitStatistics;"⟩ : MethodName)) hown (mvT hZ (own_w hw 134 rfl)) (mvT hZ (own_w hw 135 rfl)) (notFace_of_selects (args := #[]) (mvT hZ (own_w hw 137 rfl))) (mvT hZ (own_w hw 137 rfl)) (mvT hZ (own_w hw 136 rfl)) (by decide) (backOf (W := 0) (rm_ssnap l Z a0 hw [] b874 x1206 lt ((0 : Int64) + pc_) x1207 x1208 T1336.heap n0 O1365 f1372 f1373 f1374 f1375 f1376 f1377 f1378 f1379 f1380 f1381 f1382) hZ (own_w hw 138 rfl) (own_w hw 7 rfl) (by decide) (by decide)) q1370a q1370c (g := (mkF m 146 #[.val (.long raw), .second, .val (.long nw), .second, .val (.long lt), .second, .val (.long pc_), .second, .val (.int fl), .val (.long x2), .second, .val (.int (0 : Int32)), .val (.int (1 : Int32)), .val (.int (1 : Int32)), .val (.ref b874), .val (.long lt), .second, .val (.long ((0 : Int64) + (1 : Int64))), .second, .val (.long (((0 : Int64) + (1 : Int64)) + pc_)), .second, .unset, .unset, .unset, .unset, .unset, .unset, .unset, .unset, .unset] [(.ref b874)])) rfl (by rw [hml]; rfl) (Steps.refl _) (argsL := []) (rest := []) (lenOf pd_5 rfl) rfl (by show 2 * 0 + _ ≤ _; exact Nat.le_of_eq rfl) (hb hby at_146) (fun _ _ => ⟨rfl, k1368, (by decide : 23 + 2 ≤ _), (by decide : 158 + 14 ≤ _)⟩)
          dsimp only [Pt.U, Pt.locs, Pt.cells, Pt.slots] at X1370 l1370 y1370 z1370 st1370 hQ1370
          subst l1370 y1370 z1370
          obtain ⟨x1383, rfl, N1384, k1385, f1386, f1387, f1388⟩ := hQ1370
          have N1389 := Fr.app N1369 N1384
          have ge1390 : n0 ≤ x1383 := by rw [← O1365.1]; exact Nat.le_trans O1365.2.1 f1386
          have ne1391 : b874 ≠ x1383 := Nat.ne_of_lt (Nat.lt_of_lt_of_le (Exa.lt f1371) f1386)
          have f1392 := (Exa.keep f1351 k1344)
          have ne1393 : x881 ≠ x1383 := Nat.ne_of_lt (Nat.lt_of_lt_of_le (Exa.lt f1392) f1386)
          have f1394 := (Exa.keep f1353 k1344)
          have ne1395 : x882 ≠ x1383 := Nat.ne_of_lt (Nat.lt_of_lt_of_le (Exa.lt f1394) f1386)
          have f1396 := (Exa.keep f1355 k1344)
          have ne1397 : x884 ≠ x1383 := Nat.ne_of_lt (Nat.lt_of_lt_of_le (Exa.lt f1396) f1386)
          have f1398 := (Exa.keep f1357 k1344)
          have ne1399 : x885 ≠ x1383 := Nat.ne_of_lt (Nat.lt_of_lt_of_le (Exa.lt f1398) f1386)
          have f1400 := (Exa.keep f1314 k1344)
          have ne1401 : x963 ≠ x1383 := Nat.ne_of_lt (Nat.lt_of_lt_of_le (Exa.lt f1400) f1386)
          have f1402 := (Exa.keep f1322 k1344)
          have ne1403 : x964 ≠ x1383 := Nat.ne_of_lt (Nat.lt_of_lt_of_le (Exa.lt f1402) f1386)
          have ne1404 : x1206 ≠ x1383 := Nat.ne_of_lt (Nat.lt_of_lt_of_le (Exa.lt f1373) f1386)
          have ne1405 : x1207 ≠ x1383 := Nat.ne_of_lt (Nat.lt_of_lt_of_le (Exa.lt f1381) f1386)
          have f1406 := (Exa.keep f1363 k1344)
          have ne1407 : x1260 ≠ x1383 := Nat.ne_of_lt (Nat.lt_of_lt_of_le (Exa.lt f1406) f1386)
          have ne1408 : x1342 ≠ x1383 := Nat.ne_of_lt (Nat.lt_of_lt_of_le (Exa.lt f1346) f1386)
          have O1409 := O1365.keep k1385 all0
          obtain ⟨cq1410, kq1410, q1410a, q1410b, q1410c⟩ := isOf hZ rfl f1387
          obtain ⟨_, _, ⟨T1410, L1410, k1410, n1410⟩, -, X1410, ⟨Lc1410, hQ1410, l1410, y1410, z1410⟩, st1410⟩ := X1370.virtualBack hx (y := (⟨"com/example/sluice/sluice/WaitStatistics", "startedAtOnce", "()J"⟩ : MethodName)) (z := (⟨"com/example/sluice/sluice/WaitStatistics", "startedAtOnce", "()J"⟩ : MethodName)) hown (mvT hZ (own_w hw 124 rfl)) (mvT hZ (own_w hw 125 rfl)) (notFace_of_selects (args := #[]) (mvT hZ (own_w hw 127 rfl))) (mvT hZ (own_w hw 127 rfl)) (mvT hZ (own_w hw 126 rfl)) (by decide) (backOf (W := 0) (rm_get l Z a0 hw [] x1383 ((0 : Int64) + pc_) T1370.heap n0 O1409 f1388) hZ (own_w hw 128 rfl) (own_w hw 94 rfl) (by decide) (by decide)) q1410a q1410c (g := (mkF m 149 #[.val (.long raw), .second, .val (.long nw), .second, .val (.long lt), .second, .val (.long pc_), .second, .val (.int fl), .val (.long x2), .second, .val (.int (0 : Int32)), .val (.int (1 : Int32)), .val (.int (1 : Int32)), .val (.ref b874), .val (.long lt), .second, .val (.long ((0 : Int64) + (1 : Int64))), .second, .val (.long (((0 : Int64) + (1 : Int64)) + pc_)), .second, .unset, .unset, .unset, .unset, .unset, .unset, .unset, .unset, .unset] [(.ref x1383)])) rfl (by rw [hml]; rfl) (Steps.refl _) (argsL := []) (rest := []) (lenOf pd_8 rfl) rfl (by show 2 * 0 + _ ≤ _; exact Nat.le_of_eq rfl) (hb hby at_149) (fun _ _ => ⟨rfl, rfl, (by decide : 25 + 0 ≤ _), (by decide : 172 + 0 ≤ _)⟩)
          dsimp only [Pt.U, Pt.locs, Pt.cells, Pt.slots] at X1410 l1410 y1410 z1410 st1410 hQ1410
          subst l1410 y1410 z1410
          obtain ⟨rfl, N1411, k1412⟩ := hQ1410
          have N1413 := Fr.app N1389 N1411
          have S1414 : ∀ t, Steps p.tables e below (T1410.setTop (mkF m 271 #[.val (.long raw), .second, .val (.long nw), .second, .val (.long lt), .second, .val (.long pc_), .second, .val (.int fl), .val (.long x2), .second, .val (.int (0 : Int32)), .val (.int (1 : Int32)), .val (.int (1 : Int32)), .val (.ref b874), .val (.long lt), .second, .val (.long ((0 : Int64) + (1 : Int64))), .second, .val (.long (((0 : Int64) + (1 : Int64)) + pc_)), .second, .val (.long ((0 : Int64) + pc_)), .second, .val (.long (0 : Int64)), .second, .val (.long (1 : Int64)), .second, .val (.int (1 : Int32)), .val (.long ((0 : Int64) + pc_)), .second] [(.int (1 : Int32))])) t → Steps p.tables e below (s₁.setTop (mkF m 0 #[.val (.long raw), .second, .val (.long nw), .second, .val (.long lt), .second, .val (.long pc_), .second, .val (.int fl), .unset, .unset, .unset, .unset, .unset, .unset, .unset, .unset, .unset, .unset, .unset, .unset, .unset, .unset, .unset, .unset, .unset, .unset, .unset, .unset, .unset] [])) t := by
            intro t kt
            refine S620 t ?_
            refine XS.ifNo X1.here hx rfl (hb hby at_43) rfl ((if0 _ _).trans (feq (c621 : ¬ ((fl &&& (4 : Int32)) = (0 : Int32)))).1) ?_
            refine XS.iconst X1.here hx rfl (hb hby at_46) ?_
            refine XS.goto X1.here hx rfl (pc0 := 47) (pc' := 51) rfl (hb hby at_47) (by decide) (by decide) ?_
            refine XS.istore X1.here hx rfl (hb hby at_51) rfl (l' := #[.val (.long raw), .second, .val (.long nw), .second, .val (.long lt), .second, .val (.long pc_), .second, .val (.int fl), .val (.long x2), .second, .val (.int (0 : Int32)), .val (.int (1 : Int32)), .val (.int (1 : Int32)), .unset, .unset, .unset, .unset, .unset, .unset, .unset, .unset, .unset, .unset, .unset, .unset, .unset, .unset, .unset, .unset]) rfl ?_
            show Steps p.tables e below (T1.setTop (mkF m 53 #[.val (.long raw), .second, .val (.long nw), .second, .val (.long lt), .second, .val (.long pc_), .second, .val (.int fl), .val (.long x2), .second, .val (.int (0 : Int32)), .val (.int (1 : Int32)), .val (.int (1 : Int32)), .unset, .unset, .unset, .unset, .unset, .unset, .unset, .unset, .unset, .unset, .unset, .unset, .unset, .unset, .unset, .unset] [])) _
            refine st874 _ ?_
            refine XS.dup X874.here hx rfl (hb hby at_56) rfl rfl ?_
            refine XS.lload X874.here hx rfl (hb hby at_57) rfl ?_
            refine XS.lloadN X874.here hx rfl (hb hby at_59) rfl ?_
            show Steps p.tables e below (T874.setTop (mkF m 60 #[.val (.long raw), .second, .val (.long nw), .second, .val (.long lt), .second, .val (.long pc_), .second, .val (.int fl), .val (.long x2), .second, .val (.int (0 : Int32)), .val (.int (1 : Int32)), .val (.int (1 : Int32)), .unset, .unset, .unset, .unset, .unset, .unset, .unset, .unset, .unset, .unset, .unset, .unset, .unset, .unset, .unset, .unset] [(.long nw), (.long x2), (.ref b874), (.ref b874)])) _
            refine st880.trans ?_
            refine XS.astore X880.here hx rfl (hb hby at_63) rfl rfl (l' := #[.val (.long raw), .second, .val (.long nw), .second, .val (.long lt), .second, .val (.long pc_), .second, .val (.int fl), .val (.long x2), .second, .val (.int (0 : Int32)), .val (.int (1 : Int32)), .val (.int (1 : Int32)), .val (.ref b874), .unset, .unset, .unset, .unset, .unset, .unset, .unset, .unset, .unset, .unset, .unset, .unset, .unset, .unset, .unset]) rfl ?_
            refine XS.iload X880.here hx rfl (hb hby at_65) rfl ?_
            refine XS.ifYes X880.here hx rfl (pc0 := 67) (pc' := 76) rfl (hb hby at_67) rfl ((if0 _ _).trans (teq ((by decide) : (0 : Int32) = (0 : Int32))).1) (by decide) (by decide) ?_
            refine XS.iload X880.here hx rfl (hb hby at_76) rfl ?_
            refine XS.ifNo X880.here hx rfl (hb hby at_78) rfl ((if0 _ _).trans (feq ((by decide) : ¬ ((1 : Int32) = (0 : Int32)))).1) ?_
            show Steps p.tables e below (T880.setTop (mkF m 81 #[.val (.long raw), .second, .val (.long nw), .second, .val (.long lt), .second, .val (.long pc_), .second, .val (.int fl), .val (.long x2), .second, .val (.int (0 : Int32)), .val (.int (1 : Int32)), .val (.int (1 : Int32)), .val (.ref b874), .unset, .unset, .unset, .unset, .unset, .unset, .unset, .unset, .unset, .unset, .unset, .unset, .unset, .unset, .unset] [])) _
            refine XS.aload X880.here hx rfl (hb hby at_81) rfl rfl ?_
            refine XS.lload X880.here hx rfl (hb hby at_83) rfl ?_
            show Steps p.tables e below (T880.setTop (mkF m 85 #[.val (.long raw), .second, .val (.long nw), .second, .val (.long lt), .second, .val (.long pc_), .second, .val (.int fl), .val (.long x2), .second, .val (.int (0 : Int32)), .val (.int (1 : Int32)), .val (.int (1 : Int32)), .val (.ref b874), .unset, .unset, .unset, .unset, .unset, .unset, .unset, .unset, .unset, .unset, .unset, .unset, .unset, .unset, .unset] [(.long lt), (.ref b874)])) _
            refine st934.trans ?_
            refine XS.iload X934.here hx rfl (hb hby at_88) rfl ?_
            refine XS.ifNo X934.here hx rfl (hb hby at_90) rfl ((if0 _ _).trans (feq ((by decide) : ¬ ((1 : Int32) = (0 : Int32)))).1) ?_
            refine XS.aload X934.here hx rfl (hb hby at_93) rfl rfl ?_
            refine XS.lload X934.here hx rfl (hb hby at_95) rfl ?_
            show Steps p.tables e below (T934.setTop (mkF m 97 #[.val (.long raw), .second, .val (.long nw), .second, .val (.long lt), .second, .val (.long pc_), .second, .val (.int fl), .val (.long x2), .second, .val (.int (0 : Int32)), .val (.int (1 : Int32)), .val (.int (1 : Int32)), .val (.ref b874), .unset, .unset, .unset, .unset, .unset, .unset, .unset, .unset, .unset, .unset, .unset, .unset, .unset, .unset, .unset] [(.long lt), (.ref b874)])) _
            refine st1205.trans ?_
            refine XS.iload X1205.here hx rfl (hb hby at_100) rfl ?_
            refine XS.ifNo X1205.here hx rfl (hb hby at_102) rfl ((if0 _ _).trans (feq ((by decide) : ¬ ((1 : Int32) = (0 : Int32)))).1) ?_
            refine XS.lload X1205.here hx rfl (hb hby at_105) rfl ?_
            refine XS.goto X1205.here hx rfl (pc0 := 107) (pc' := 111) rfl (hb hby at_107) (by decide) (by decide) ?_
            refine XS.lstore X1205.here hx rfl (hb hby at_111) rfl (l' := #[.val (.long raw), .second, .val (.long nw), .second, .val (.long lt), .second, .val (.long pc_), .second, .val (.int fl), .val (.long x2), .second, .val (.int (0 : Int32)), .val (.int (1 : Int32)), .val (.int (1 : Int32)), .val (.ref b874), .val (.long lt), .second, .unset, .unset, .unset, .unset, .unset, .unset, .unset, .unset, .unset, .unset, .unset, .unset, .unset]) rfl ?_
            show Steps p.tables e below (T1205.setTop (mkF m 113 #[.val (.long raw), .second, .val (.long nw), .second, .val (.long lt), .second, .val (.long pc_), .second, .val (.int fl), .val (.long x2), .second, .val (.int (0 : Int32)), .val (.int (1 : Int32)), .val (.int (1 : Int32)), .val (.ref b874), .val (.long lt), .second, .unset, .unset, .unset, .unset, .unset, .unset, .unset, .unset, .unset, .unset, .unset, .unset, .unset] [])) _
            refine XS.aload X1205.here hx rfl (hb hby at_113) rfl rfl ?_
            refine XS.lload X1205.here hx rfl (hb hby at_115) rfl ?_
            show Steps p.tables e below (T1205.setTop (mkF m 117 #[.val (.long raw), .second, .val (.long nw), .second, .val (.long lt), .second, .val (.long pc_), .second, .val (.int fl), .val (.long x2), .second, .val (.int (0 : Int32)), .val (.int (1 : Int32)), .val (.int (1 : Int32)), .val (.ref b874), .val (.long lt), .second, .unset, .unset, .unset, .unset, .unset, .unset, .unset, .unset, .unset, .unset, .unset, .unset, .unset] [(.long lt), (.ref b874)])) _
            refine st1249.trans ?_
            show Steps p.tables e below (T1249.setTop (mkF m 120 #[.val (.long raw), .second, .val (.long nw), .second, .val (.long lt), .second, .val (.long pc_), .second, .val (.int fl), .val (.long x2), .second, .val (.int (0 : Int32)), .val (.int (1 : Int32)), .val (.int (1 : Int32)), .val (.ref b874), .val (.long lt), .second, .unset, .unset, .unset, .unset, .unset, .unset, .unset, .unset, .unset, .unset, .unset, .unset, .unset] [(.ref x1260)])) _
            refine st1282.trans ?_
            refine XS.lstore X1282.here hx rfl (hb hby at_123) rfl (l' := #[.val (.long raw), .second, .val (.long nw), .second, .val (.long lt), .second, .val (.long pc_), .second, .val (.int fl), .val (.long x2), .second, .val (.int (0 : Int32)), .val (.int (1 : Int32)), .val (.int (1 : Int32)), .val (.ref b874), .val (.long lt), .second, .val (.long ((0 : Int64) + (1 : Int64))), .second, .unset, .unset, .unset, .unset, .unset, .unset, .unset, .unset, .unset, .unset, .unset]) rfl ?_
            refine XS.aload X1282.here hx rfl (hb hby at_125) rfl rfl ?_
            refine XS.lload X1282.here hx rfl (hb hby at_127) rfl ?_
            show Steps p.tables e below (T1282.setTop (mkF m 129 #[.val (.long raw), .second, .val (.long nw), .second, .val (.long lt), .second, .val (.long pc_), .second, .val (.int fl), .val (.long x2), .second, .val (.int (0 : Int32)), .val (.int (1 : Int32)), .val (.int (1 : Int32)), .val (.ref b874), .val (.long lt), .second, .val (.long ((0 : Int64) + (1 : Int64))), .second, .unset, .unset, .unset, .unset, .unset, .unset, .unset, .unset, .unset, .unset, .unset] [(.long pc_), (.ref b874)])) _
            refine st1286.trans ?_
            refine XS.aload X1286.here hx rfl (hb hby at_132) rfl rfl ?_
            refine XS.lload X1286.here hx rfl (hb hby at_134) rfl ?_
            show Steps p.tables e below (T1286.setTop (mkF m 136 #[.val (.long raw), .second, .val (.long nw), .second, .val (.long lt), .second, .val (.long pc_), .second, .val (.int fl), .val (.long x2), .second, .val (.int (0 : Int32)), .val (.int (1 : Int32)), .val (.int (1 : Int32)), .val (.ref b874), .val (.long lt), .second, .val (.long ((0 : Int64) + (1 : Int64))), .second, .unset, .unset, .unset, .unset, .unset, .unset, .unset, .unset, .unset, .unset, .unset] [(.long lt), (.ref b874)])) _
            refine st1336.trans ?_
            show Steps p.tables e below (T1336.setTop (mkF m 139 #[.val (.long raw), .second, .val (.long nw), .second, .val (.long lt), .second, .val (.long pc_), .second, .val (.int fl), .val (.long x2), .second, .val (.int (0 : Int32)), .val (.int (1 : Int32)), .val (.int (1 : Int32)), .val (.ref b874), .val (.long lt), .second, .val (.long ((0 : Int64) + (1 : Int64))), .second, .unset, .unset, .unset, .unset, .unset, .unset, .unset, .unset, .unset, .unset, .unset] [(.ref x1342)])) _
            refine st1366.trans ?_
            refine XS.lstore X1366.here hx rfl (hb hby at_142) rfl (l' := #[.val (.long raw), .second, .val (.long nw), .second, .val (.long lt), .second, .val (.long pc_), .second, .val (.int fl), .val (.long x2), .second, .val (.int (0 : Int32)), .val (.int (1 : Int32)), .val (.int (1 : Int32)), .val (.ref b874), .val (.long lt), .second, .val (.long ((0 : Int64) + (1 : Int64))), .second, .val (.long (((0 : Int64) + (1 : Int64)) + pc_)), .second, .unset, .unset, .unset, .unset, .unset, .unset, .unset, .unset, .unset]) rfl ?_
            refine XS.aload X1366.here hx rfl (hb hby at_144) rfl rfl ?_
            show Steps p.tables e below (T1366.setTop (mkF m 146 #[.val (.long raw), .second, .val (.long nw), .second, .val (.long lt), .second, .val (.long pc_), .second, .val (.int fl), .val (.long x2), .second, .val (.int (0 : Int32)), .val (.int (1 : Int32)), .val (.int (1 : Int32)), .val (.ref b874), .val (.long lt), .second, .val (.long ((0 : Int64) + (1 : Int64))), .second, .val (.long (((0 : Int64) + (1 : Int64)) + pc_)), .second, .unset, .unset, .unset, .unset, .unset, .unset, .unset, .unset, .unset] [(.ref b874)])) _
            refine st1370.trans ?_
            show Steps p.tables e below (T1370.setTop (mkF m 149 #[.val (.long raw), .second, .val (.long nw), .second, .val (.long lt), .second, .val (.long pc_), .second, .val (.int fl), .val (.long x2), .second, .val (.int (0 : Int32)), .val (.int (1 : Int32)), .val (.int (1 : Int32)), .val (.ref b874), .val (.long lt), .second, .val (.long ((0 : Int64) + (1 : Int64))), .second, .val (.long (((0 : Int64) + (1 : Int64)) + pc_)), .second, .unset, .unset, .unset, .unset, .unset, .unset, .unset, .unset, .unset] [(.ref x1383)])) _
            refine st1410.trans ?_
            refine XS.lstore X1410.here hx rfl (hb hby at_152) rfl (l' := #[.val (.long raw), .second, .val (.long nw), .second, .val (.long lt), .second, .val (.long pc_), .second, .val (.int fl), .val (.long x2), .second, .val (.int (0 : Int32)), .val (.int (1 : Int32)), .val (.int (1 : Int32)), .val (.ref b874), .val (.long lt), .second, .val (.long ((0 : Int64) + (1 : Int64))), .second, .val (.long (((0 : Int64) + (1 : Int64)) + pc_)), .second, .val (.long ((0 : Int64) + pc_)), .second, .unset, .unset, .unset, .unset, .unset, .unset, .unset]) rfl ?_
            refine XS.iload X1410.here hx rfl (hb hby at_154) rfl ?_
            refine XS.ifYes X1410.here hx rfl (pc0 := 156) (pc' := 163) rfl (hb hby at_156) rfl ((if0 _ _).trans (teq ((by decide) : (0 : Int32) = (0 : Int32))).1) (by decide) (by decide) ?_
            refine XS.lconst X1410.here hx rfl (hb hby at_163) ?_
            refine XS.lstore X1410.here hx rfl (hb hby at_164) rfl (l' := #[.val (.long raw), .second, .val (.long nw), .second, .val (.long lt), .second, .val (.long pc_), .second, .val (.int fl), .val (.long x2), .second, .val (.int (0 : Int32)), .val (.int (1 : Int32)), .val (.int (1 : Int32)), .val (.ref b874), .val (.long lt), .second, .val (.long ((0 : Int64) + (1 : Int64))), .second, .val (.long (((0 : Int64) + (1 : Int64)) + pc_)), .second, .val (.long ((0 : Int64) + pc_)), .second, .val (.long (0 : Int64)), .second, .unset, .unset, .unset, .unset, .unset]) rfl ?_
            show Steps p.tables e below (T1410.setTop (mkF m 166 #[.val (.long raw), .second, .val (.long nw), .second, .val (.long lt), .second, .val (.long pc_), .second, .val (.int fl), .val (.long x2), .second, .val (.int (0 : Int32)), .val (.int (1 : Int32)), .val (.int (1 : Int32)), .val (.ref b874), .val (.long lt), .second, .val (.long ((0 : Int64) + (1 : Int64))), .second, .val (.long (((0 : Int64) + (1 : Int64)) + pc_)), .second, .val (.long ((0 : Int64) + pc_)), .second, .val (.long (0 : Int64)), .second, .unset, .unset, .unset, .unset, .unset] [])) _
            refine XS.iload X1410.here hx rfl (hb hby at_166) rfl ?_
            refine XS.ifNo X1410.here hx rfl (hb hby at_168) rfl ((if0 _ _).trans (feq ((by decide) : ¬ ((1 : Int32) = (0 : Int32)))).1) ?_
            refine XS.lconst X1410.here hx rfl (hb hby at_171) ?_
            refine XS.goto X1410.here hx rfl (pc0 := 172) (pc' := 176) rfl (hb hby at_172) (by decide) (by decide) ?_
            refine XS.lstore X1410.here hx rfl (hb hby at_176) rfl (l' := #[.val (.long raw), .second, .val (.long nw), .second, .val (.long lt), .second, .val (.long pc_), .second, .val (.int fl), .val (.long x2), .second, .val (.int (0 : Int32)), .val (.int (1 : Int32)), .val (.int (1 : Int32)), .val (.ref b874), .val (.long lt), .second, .val (.long ((0 : Int64) + (1 : Int64))), .second, .val (.long (((0 : Int64) + (1 : Int64)) + pc_)), .second, .val (.long ((0 : Int64) + pc_)), .second, .val (.long (0 : Int64)), .second, .val (.long (1 : Int64)), .second, .unset, .unset, .unset]) rfl ?_
            refine XS.iload X1410.here hx rfl (hb hby at_178) rfl ?_
            show Steps p.tables e below (T1410.setTop (mkF m 180 #[.val (.long raw), .second, .val (.long nw), .second, .val (.long lt), .second, .val (.long pc_), .second, .val (.int fl), .val (.long x2), .second, .val (.int (0 : Int32)), .val (.int (1 : Int32)), .val (.int (1 : Int32)), .val (.ref b874), .val (.long lt), .second, .val (.long ((0 : Int64) + (1 : Int64))), .second, .val (.long (((0 : Int64) + (1 : Int64)) + pc_)), .second, .val (.long ((0 : Int64) + pc_)), .second, .val (.long (0 : Int64)), .second, .val (.long (1 : Int64)), .second, .unset, .unset, .unset] [(.int (1 : Int32))])) _
            refine XS.ifNo X1410.here hx rfl (hb hby at_180) rfl ((if0 _ _).trans (feq ((by decide) : ¬ ((1 : Int32) = (0 : Int32)))).1) ?_
            refine XS.lload X1410.here hx rfl (hb hby at_183) rfl ?_
            refine XS.lconst X1410.here hx rfl (hb hby at_185) ?_
            refine XS.lcmp X1410.here hx rfl (hb hby at_186) rfl ?_
            refine XS.ifYes X1410.here hx rfl (pc0 := 187) (pc' := 200) rfl (hb hby at_187) rfl ((if0 _ _).trans (teq ((lw_eq ((0 : Int64) + (1 : Int64)) (1 : Int64)).mpr ((by decide) : ((0 : Int64) + (1 : Int64)) = (1 : Int64)) : (lcmpW ((0 : Int64) + (1 : Int64)) (1 : Int64)) = (0 : Int32))).1) (by decide) (by decide) ?_
            refine XS.iconst X1410.here hx rfl (hb hby at_200) ?_
            show Steps p.tables e below (T1410.setTop (mkF m 201 #[.val (.long raw), .second, .val (.long nw), .second, .val (.long lt), .second, .val (.long pc_), .second, .val (.int fl), .val (.long x2), .second, .val (.int (0 : Int32)), .val (.int (1 : Int32)), .val (.int (1 : Int32)), .val (.ref b874), .val (.long lt), .second, .val (.long ((0 : Int64) + (1 : Int64))), .second, .val (.long (((0 : Int64) + (1 : Int64)) + pc_)), .second, .val (.long ((0 : Int64) + pc_)), .second, .val (.long (0 : Int64)), .second, .val (.long (1 : Int64)), .second, .unset, .unset, .unset] [(.int (1 : Int32))])) _
            refine XS.goto X1410.here hx rfl (pc0 := 201) (pc' := 221) rfl (hb hby at_201) (by decide) (by decide) ?_
            refine XS.istore X1410.here hx rfl (hb hby at_221) rfl (l' := #[.val (.long raw), .second, .val (.long nw), .second, .val (.long lt), .second, .val (.long pc_), .second, .val (.int fl), .val (.long x2), .second, .val (.int (0 : Int32)), .val (.int (1 : Int32)), .val (.int (1 : Int32)), .val (.ref b874), .val (.long lt), .second, .val (.long ((0 : Int64) + (1 : Int64))), .second, .val (.long (((0 : Int64) + (1 : Int64)) + pc_)), .second, .val (.long ((0 : Int64) + pc_)), .second, .val (.long (0 : Int64)), .second, .val (.long (1 : Int64)), .second, .val (.int (1 : Int32)), .unset, .unset]) rfl ?_
            refine XS.iload X1410.here hx rfl (hb hby at_223) rfl ?_
            refine XS.ifNo X1410.here hx rfl (hb hby at_225) rfl ((if0 _ _).trans (feq ((by decide) : ¬ ((1 : Int32) = (0 : Int32)))).1) ?_
            refine XS.lconst X1410.here hx rfl (hb hby at_228) ?_
            refine XS.goto X1410.here hx rfl (pc0 := 229) (pc' := 237) rfl (hb hby at_229) (by decide) (by decide) ?_
            show Steps p.tables e below (T1410.setTop (mkF m 237 #[.val (.long raw), .second, .val (.long nw), .second, .val (.long lt), .second, .val (.long pc_), .second, .val (.int fl), .val (.long x2), .second, .val (.int (0 : Int32)), .val (.int (1 : Int32)), .val (.int (1 : Int32)), .val (.ref b874), .val (.long lt), .second, .val (.long ((0 : Int64) + (1 : Int64))), .second, .val (.long (((0 : Int64) + (1 : Int64)) + pc_)), .second, .val (.long ((0 : Int64) + pc_)), .second, .val (.long (0 : Int64)), .second, .val (.long (1 : Int64)), .second, .val (.int (1 : Int32)), .unset, .unset] [(.long (0 : Int64))])) _
            refine XS.lload X1410.here hx rfl (hb hby at_237) rfl ?_
            refine XS.ladd X1410.here hx rfl (hb hby at_239) rfl ?_
            refine XS.lstore X1410.here hx rfl (hb hby at_240) rfl (l' := #[.val (.long raw), .second, .val (.long nw), .second, .val (.long lt), .second, .val (.long pc_), .second, .val (.int fl), .val (.long x2), .second, .val (.int (0 : Int32)), .val (.int (1 : Int32)), .val (.int (1 : Int32)), .val (.ref b874), .val (.long lt), .second, .val (.long ((0 : Int64) + (1 : Int64))), .second, .val (.long (((0 : Int64) + (1 : Int64)) + pc_)), .second, .val (.long ((0 : Int64) + pc_)), .second, .val (.long (0 : Int64)), .second, .val (.long (1 : Int64)), .second, .val (.int (1 : Int32)), .val (.long ((0 : Int64) + pc_)), .second]) rfl ?_
            refine XS.iload X1410.here hx rfl (hb hby at_242) rfl ?_
            refine XS.ifNo X1410.here hx rfl (hb hby at_244) rfl ((if0 _ _).trans (feq ((by decide) : ¬ ((1 : Int32) = (0 : Int32)))).1) ?_
            refine XS.lload X1410.here hx rfl (hb hby at_247) rfl ?_
            show Steps p.tables e below (T1410.setTop (mkF m 249 #[.val (.long raw), .second, .val (.long nw), .second, .val (.long lt), .second, .val (.long pc_), .second, .val (.int fl), .val (.long x2), .second, .val (.int (0 : Int32)), .val (.int (1 : Int32)), .val (.int (1 : Int32)), .val (.ref b874), .val (.long lt), .second, .val (.long ((0 : Int64) + (1 : Int64))), .second, .val (.long (((0 : Int64) + (1 : Int64)) + pc_)), .second, .val (.long ((0 : Int64) + pc_)), .second, .val (.long (0 : Int64)), .second, .val (.long (1 : Int64)), .second, .val (.int (1 : Int32)), .val (.long ((0 : Int64) + pc_)), .second] [(.long (((0 : Int64) + (1 : Int64)) + pc_))])) _
            refine XS.lload X1410.here hx rfl (hb hby at_249) rfl ?_
            refine XS.lload X1410.here hx rfl (hb hby at_251) rfl ?_
            refine XS.ladd X1410.here hx rfl (hb hby at_253) rfl ?_
            refine XS.lcmp X1410.here hx rfl (hb hby at_254) rfl ?_
            refine XS.ifNo X1410.here hx rfl (hb hby at_255) rfl ((if0 _ _).trans (teq ((lw_eq (((0 : Int64) + (1 : Int64)) + pc_) (((0 : Int64) + (1 : Int64)) + pc_)).mpr (rfl : (((0 : Int64) + (1 : Int64)) + pc_) = (((0 : Int64) + (1 : Int64)) + pc_)) : (lcmpW (((0 : Int64) + (1 : Int64)) + pc_) (((0 : Int64) + (1 : Int64)) + pc_)) = (0 : Int32))).2) ?_
            refine XS.lload X1410.here hx rfl (hb hby at_258) rfl ?_
            show Steps p.tables e below (T1410.setTop (mkF m 260 #[.val (.long raw), .second, .val (.long nw), .second, .val (.long lt), .second, .val (.long pc_), .second, .val (.int fl), .val (.long x2), .second, .val (.int (0 : Int32)), .val (.int (1 : Int32)), .val (.int (1 : Int32)), .val (.ref b874), .val (.long lt), .second, .val (.long ((0 : Int64) + (1 : Int64))), .second, .val (.long (((0 : Int64) + (1 : Int64)) + pc_)), .second, .val (.long ((0 : Int64) + pc_)), .second, .val (.long (0 : Int64)), .second, .val (.long (1 : Int64)), .second, .val (.int (1 : Int32)), .val (.long ((0 : Int64) + pc_)), .second] [(.long ((0 : Int64) + pc_))])) _
            refine XS.lload X1410.here hx rfl (hb hby at_260) rfl ?_
            refine XS.lcmp X1410.here hx rfl (hb hby at_262) rfl ?_
            refine XS.ifNo X1410.here hx rfl (hb hby at_263) rfl ((if0 _ _).trans (teq ((lw_eq ((0 : Int64) + pc_) ((0 : Int64) + pc_)).mpr (rfl : ((0 : Int64) + pc_) = ((0 : Int64) + pc_)) : (lcmpW ((0 : Int64) + pc_) ((0 : Int64) + pc_)) = (0 : Int32))).2) ?_
            refine XS.iconst X1410.here hx rfl (hb hby at_266) ?_
            refine XS.goto X1410.here hx rfl (pc0 := 267) (pc' := 271) rfl (hb hby at_267) (by decide) (by decide) ?_
            exact kt
          obtain ⟨fs, hr, hrun, hended, hW, hsame⟩ := X1410.leave (v := some (.int (1 : Int32))) (fun h => by rw [Bd.returns] at h; cases h)
          refine ⟨_, _, pre0 _ (S1414 _ ?_), hrun, hended, _, _, rfl, ?_, ⟨_, rfl⟩, hW, hsame.mono (by decide) (by decide)⟩
          · exact retN X1410 hx (t := .boolean) Bd.returns (by simp) (hb hby at_271) hr
          · show Q_rm_law Z raw nw lt pc_ fl wV kV vV h0 n0 _ T1410.heap _
            rw [k1412]
            exact ⟨rfl, N1413⟩
  · have S1415 : ∀ t, Steps p.tables e below (T1.setTop (mkF m 29 #[.val (.long raw), .second, .val (.long nw), .second, .val (.long lt), .second, .val (.long pc_), .second, .val (.int fl), .val (.long x2), .second, .val (.int (1 : Int32)), .unset, .unset, .unset, .unset, .unset, .unset, .unset, .unset, .unset, .unset, .unset, .unset, .unset, .unset, .unset, .unset, .unset, .unset] [(.int (fl &&& (2 : Int32)))])) t → Steps p.tables e below (s₁.setTop (mkF m 0 #[.val (.long raw), .second, .val (.long nw), .second, .val (.long lt), .second, .val (.long pc_), .second, .val (.int fl), .unset, .unset, .unset, .unset, .unset, .unset, .unset, .unset, .unset, .unset, .unset, .unset, .unset, .unset, .unset, .unset, .unset, .unset, .unset, .unset, .unset] [])) t := by
      intro t kt
      refine S7 t ?_
      refine XS.ifNo X1.here hx rfl (hb hby at_15) rfl ((if0 _ _).trans (feq (c8 : ¬ ((fl &&& (1 : Int32)) = (0 : Int32)))).1) ?_
      refine XS.iconst X1.here hx rfl (hb hby at_18) ?_
      refine XS.goto X1.here hx rfl (pc0 := 19) (pc' := 23) rfl (hb hby at_19) (by decide) (by decide) ?_
      refine XS.istore X1.here hx rfl (hb hby at_23) rfl (l' := #[.val (.long raw), .second, .val (.long nw), .second, .val (.long lt), .second, .val (.long pc_), .second, .val (.int fl), .val (.long x2), .second, .val (.int (1 : Int32)), .unset, .unset, .unset, .unset, .unset, .unset, .unset, .unset, .unset, .unset, .unset, .unset, .unset, .unset, .unset, .unset, .unset, .unset]) rfl ?_
      refine XS.iload X1.here hx rfl (hb hby at_25) rfl ?_
      refine XS.iconst X1.here hx rfl (hb hby at_27) ?_
      show Steps p.tables e below (T1.setTop (mkF m 28 #[.val (.long raw), .second, .val (.long nw), .second, .val (.long lt), .second, .val (.long pc_), .second, .val (.int fl), .val (.long x2), .second, .val (.int (1 : Int32)), .unset, .unset, .unset, .unset, .unset, .unset, .unset, .unset, .unset, .unset, .unset, .unset, .unset, .unset, .unset, .unset, .unset, .unset] [(.int (2 : Int32)), (.int fl)])) _
      refine XS.iand X1.here hx rfl (hb hby at_28) rfl ?_
      exact kt
    rcases Decidable.em ((fl &&& (2 : Int32)) = (0 : Int32)) with c1416 | c1416
    · have S1417 : ∀ t, Steps p.tables e below (T1.setTop (mkF m 43 #[.val (.long raw), .second, .val (.long nw), .second, .val (.long lt), .second, .val (.long pc_), .second, .val (.int fl), .val (.long x2), .second, .val (.int (1 : Int32)), .val (.int (0 : Int32)), .unset, .unset, .unset, .unset, .unset, .unset, .unset, .unset, .unset, .unset, .unset, .unset, .unset, .unset, .unset, .unset, .unset] [(.int (fl &&& (4 : Int32)))])) t → Steps p.tables e below (s₁.setTop (mkF m 0 #[.val (.long raw), .second, .val (.long nw), .second, .val (.long lt), .second, .val (.long pc_), .second, .val (.int fl), .unset, .unset, .unset, .unset, .unset, .unset, .unset, .unset, .unset, .unset, .unset, .unset, .unset, .unset, .unset, .unset, .unset, .unset, .unset, .unset, .unset] [])) t := by
        intro t kt
        refine S1415 t ?_
        refine XS.ifYes X1.here hx rfl (pc0 := 29) (pc' := 36) rfl (hb hby at_29) rfl ((if0 _ _).trans (teq (c1416 : (fl &&& (2 : Int32)) = (0 : Int32))).1) (by decide) (by decide) ?_
        refine XS.iconst X1.here hx rfl (hb hby at_36) ?_
        refine XS.istore X1.here hx rfl (hb hby at_37) rfl (l' := #[.val (.long raw), .second, .val (.long nw), .second, .val (.long lt), .second, .val (.long pc_), .second, .val (.int fl), .val (.long x2), .second, .val (.int (1 : Int32)), .val (.int (0 : Int32)), .unset, .unset, .unset, .unset, .unset, .unset, .unset, .unset, .unset, .unset, .unset, .unset, .unset, .unset, .unset, .unset, .unset]) rfl ?_
        refine XS.iload X1.here hx rfl (hb hby at_39) rfl ?_
        refine XS.iconst X1.here hx rfl (hb hby at_41) ?_
        refine XS.iand X1.here hx rfl (hb hby at_42) rfl ?_
        exact kt
      rcases Decidable.em ((fl &&& (4 : Int32)) = (0 : Int32)) with c1418 | c1418
      · obtain ⟨T1419, h1419, X1419, e1419, E1419, A1419, D1419, -, st1419⟩ := newO X1 hx hZ hown (own_w hw 5 rfl) (own_w hw 6 rfl) (own_w hw 7 rfl) k5 (g := (mkF m 53 #[.val (.long raw), .second, .val (.long nw), .second, .val (.long lt), .second, .val (.long pc_), .second, .val (.int fl), .val (.long x2), .second, .val (.int (1 : Int32)), .val (.int (0 : Int32)), .val (.int (0 : Int32)), .unset, .unset, .unset, .unset, .unset, .unset, .unset, .unset, .unset, .unset, .unset, .unset, .unset, .unset, .unset, .unset] [])) rfl (hb hby at_53) (by decide) (by decide)
        obtain ⟨b1419, g1419⟩ : ∃ z, z = h0.size := ⟨_, rfl⟩
        have ge_b1419 : n0 ≤ b1419 := by rw [g1419, ← O0.1]; exact O0.2.1
        rw [← g1419] at A1419 D1419 st1419
        have O1420 := O0.ext E1419
        have F1421 : Fld Z h1419 b1419 "com/example/sluice/sluice/WaitRecorder" "intervalMillis" "J" (.long (0 : Int64)) := D1419 (Or.inr (own_w hw 15 rfl)) (ty := .long) (by decide)
        have F1422 : Fld Z h1419 b1419 "com/example/sluice/sluice/WaitRecorder" "intervalIndex" "J" (.long (0 : Int64)) := D1419 (Or.inl (own_w hw 20 rfl)) (ty := .long) (by decide)
        have F1423 : Fld Z h1419 b1419 "com/example/sluice/sluice/WaitRecorder" "interval" "Lcom/example/sluice/sluice/WaitRecorder$Tally;" .null := D1419 (Or.inl (own_w hw 63 rfl)) (ty := (.object "com/example/sluice/sluice/WaitRecorder$Tally")) (by decide)
        have F1424 : Fld Z h1419 b1419 "com/example/sluice/sluice/WaitRecorder" "sinceReset" "Lcom/example/sluice/sluice/WaitRecorder$Tally;" .null := D1419 (Or.inl (own_w hw 65 rfl)) (ty := (.object "com/example/sluice/sluice/WaitRecorder$Tally")) (by decide)
        obtain ⟨_, _, ⟨T1425, L1425, k1425, n1425⟩, -, X1425, ⟨Lc1425, hQ1425, l1425, y1425, z1425⟩, st1425⟩ := X1419.specialBack hx (y := (⟨"com/example/sluice/sluice/WaitRecorder", "<init>", "(JJ)V"⟩ : MethodName)) rfl hown (mvT hZ (own_w hw 8 rfl)) (mvT hZ (own_w hw 9 rfl)) (mvT hZ (own_w hw 10 rfl)) (by decide) (backOf (W := 1) (rm_rinit l Z a0 hw [] b1419 x2 nw wV kV vV h1419 n0 O1420 A1419 ge_b1419 F1421 F1422 F1423 F1424 S_V E_V A_V hlen) hZ (own_w hw 10 rfl) (own_w hw 7 rfl) (by decide) (by decide)) (g := (mkF m 60 #[.val (.long raw), .second, .val (.long nw), .second, .val (.long lt), .second, .val (.long pc_), .second, .val (.int fl), .val (.long x2), .second, .val (.int (1 : Int32)), .val (.int (0 : Int32)), .val (.int (0 : Int32)), .unset, .unset, .unset, .unset, .unset, .unset, .unset, .unset, .unset, .unset, .unset, .unset, .unset, .unset, .unset, .unset] [(.long nw), (.long x2), (.ref b1419), (.ref b1419)])) rfl (by rw [hml]; rfl) (Steps.refl _) (a := b1419) (argsL := [(.long x2), (.long nw)]) (rest := [(.ref b1419)]) (lenOf pd_6 rfl) rfl (by show 2 * 0 + _ ≤ _; exact Nat.le_of_eq rfl) (hb hby at_60) (fun _ _ => ⟨rfl, e1419, (by decide : 1 + 6 ≤ _), (by decide : 4 + 42 ≤ _)⟩)
        dsimp only [Pt.U, Pt.locs, Pt.cells, Pt.slots] at X1425 l1425 y1425 z1425 st1425 hQ1425
        subst l1425 y1425 z1425
        obtain ⟨x1426, x1427, x1428, x1429, x1430, x1431, rfl, N1432, k1433, f1434, f1435, f1436, f1437, f1438, f1439, f1440, f1441, f1442, f1443, f1444, f1445, f1446, f1447, f1448, f1449, f1450, f1451, f1452, f1453, f1454, f1455, f1456, f1457, f1458, f1459, f1460, f1461, f1462, f1463, f1464, f1465, f1466, f1467, f1468⟩ := hQ1425
        have N1469 := Fr.app N6 N1432
        have ge1470 : n0 ≤ x1426 := by rw [← O1420.1]; exact Nat.le_trans O1420.2.1 f1434
        have ne1471 : b1419 ≠ x1426 := Nat.ne_of_lt (Nat.lt_of_lt_of_le (Exa.lt A1419) f1434)
        have ge1472 : n0 ≤ x1427 := by rw [← O1420.1]; exact Nat.le_trans O1420.2.1 f1435
        have ne1473 : b1419 ≠ x1427 := Nat.ne_of_lt (Nat.lt_of_lt_of_le (Exa.lt A1419) f1435)
        have ge1474 : n0 ≤ x1429 := by rw [← O1420.1]; exact Nat.le_trans O1420.2.1 f1436
        have ne1475 : b1419 ≠ x1429 := Nat.ne_of_lt (Nat.lt_of_lt_of_le (Exa.lt A1419) f1436)
        have ge1476 : n0 ≤ x1430 := by rw [← O1420.1]; exact Nat.le_trans O1420.2.1 f1437
        have ne1477 : b1419 ≠ x1430 := Nat.ne_of_lt (Nat.lt_of_lt_of_le (Exa.lt A1419) f1437)
        have O1478 := O1420.keep k1433 (allS ge_b1419 all0)
        obtain ⟨cq1479, kq1479, q1479a, q1479b, q1479c⟩ := isOf hZ rfl f1444
        obtain ⟨_, _, ⟨T1479, L1479, k1479, n1479⟩, -, X1479, ⟨Lc1479, hQ1479, l1479, y1479, z1479⟩, st1479⟩ := X1425.virtualBack hx (y := (⟨"com/example/sluice/sluice/WaitRecorder", "startedAtOnce", "(J)V"⟩ : MethodName)) (z := (⟨"com/example/sluice/sluice/WaitRecorder", "startedAtOnce", "(J)V"⟩ : MethodName)) hown (mvT hZ (own_w hw 66 rfl)) (mvT hZ (own_w hw 67 rfl)) (notFace_of_selects (args := #[]) (mvT hZ (own_w hw 69 rfl))) (mvT hZ (own_w hw 69 rfl)) (mvT hZ (own_w hw 68 rfl)) (by decide) (backOf (W := 0) (rm_sao l Z a0 hw [] b1419 nw x2 (own_fd nw x2) x1426 x1427 x1428 x1429 x1430 x1431 ((own_fd nw x2) * x2) (0 : Int64) nw (0 : Int64) wV kV vV T1425.heap n0 O1478 f1444 f1445 f1446 f1447 f1448 f1449 f1450 f1451 f1452 f1453 f1454 f1455 f1456 f1457 f1458 f1459 f1460 f1461 f1462 f1463 f1464 f1465 f1466 f1467 f1468 ge_b1419 ge1470 ge1474 ne1471 ne1473 ne1475 ne1477 f1438 f1439 f1440 f1441 f1442 f1443 S_V E_V A_V hlen) hZ (own_w hw 70 rfl) (own_w hw 7 rfl) (by decide) (by decide)) q1479a q1479c (g := (mkF m 73 #[.val (.long raw), .second, .val (.long nw), .second, .val (.long lt), .second, .val (.long pc_), .second, .val (.int fl), .val (.long x2), .second, .val (.int (1 : Int32)), .val (.int (0 : Int32)), .val (.int (0 : Int32)), .val (.ref b1419), .unset, .unset, .unset, .unset, .unset, .unset, .unset, .unset, .unset, .unset, .unset, .unset, .unset, .unset, .unset] [(.long nw), (.ref b1419)])) rfl (by rw [hml]; rfl) (Steps.refl _) (argsL := [(.long nw)]) (rest := []) (lenOf pd_2 rfl) rfl (by show 2 * 0 + _ ≤ _; exact Nat.le_of_eq rfl) (hb hby at_73) (fun _ _ => ⟨rfl, rfl, (by decide : 7 + 3 ≤ _), (by decide : 46 + 21 ≤ _)⟩)
        dsimp only [Pt.U, Pt.locs, Pt.cells, Pt.slots] at X1479 l1479 y1479 z1479 st1479 hQ1479
        subst l1479 y1479 z1479
        rcases hQ1479 with ⟨c1480, rfl, N1481, k1482, f1483, f1484, f1485, f1486, f1487, f1488, f1489, f1490, f1491, f1492, f1493, f1494, f1495, f1496, f1497, f1498, f1499, f1500, f1501, f1502, f1503, f1504, f1505, f1506, f1507⟩ | ⟨x1508, x1509, x1510, c1511, rfl, N1512, k1513, f1514, f1515, f1516, f1517, f1518, f1519, f1520, f1521, f1522, f1523, f1524, f1525, f1526, f1527, f1528, f1529, f1530, f1531, f1532, f1533, f1534, f1535, f1536, f1537, f1538, f1539, f1540, f1541⟩
        · have N1542 := Fr.app N1469 N1481
          have O1543 := O1478.keep k1482 (allS ge_b1419 (allS ge1470 (allS ge1474 all0)))
          obtain ⟨cq1544, kq1544, q1544a, q1544b, q1544c⟩ := isOf hZ rfl f1483
          obtain ⟨_, _, ⟨T1544, L1544, k1544, n1544⟩, -, X1544, ⟨Lc1544, hQ1544, l1544, y1544, z1544⟩, st1544⟩ := X1479.virtualBack hx (y := (⟨"com/example/sluice/sluice/WaitRecorder", "intervalSnapshot", "(J)Lcom/example/sluice/sluice/WaitStatistics;"⟩ : MethodName)) (z := (⟨"com/example/sluice/sluice/WaitRecorder", "intervalSnapshot", "(J)Lcom/example/sluice/sluice/WaitStatistics;"⟩ : MethodName)) hown (mvT hZ (own_w hw 82 rfl)) (mvT hZ (own_w hw 83 rfl)) (notFace_of_selects (args := #[]) (mvT hZ (own_w hw 85 rfl))) (mvT hZ (own_w hw 85 rfl)) (mvT hZ (own_w hw 84 rfl)) (by decide) (backOf (W := 0) (rm_isnap l Z a0 hw [] b1419 nw x2 (own_fd nw x2) x1426 x1427 x1428 x1429 x1430 x1431 ((own_fd nw x2) * x2) ((0 : Int64) + (1 : Int64)) nw ((0 : Int64) + (1 : Int64)) wV kV vV T1479.heap n0 O1543 f1483 f1484 f1485 f1486 f1487 f1488 f1489 f1490 f1491 f1492 f1493 f1494 f1495 f1496 f1497 f1498 f1499 f1500 f1501 f1502 f1503 f1504 f1505 f1506 f1507 ge_b1419 ge1470 ge1474 ne1471 ne1473 ne1475 ne1477 f1438 f1439 f1440 f1441 f1442 f1443 S_V E_V A_V hlen c1480) hZ (own_w hw 86 rfl) (own_w hw 7 rfl) (by decide) (by decide)) q1544a q1544c (g := (mkF m 117 #[.val (.long raw), .second, .val (.long nw), .second, .val (.long lt), .second, .val (.long pc_), .second, .val (.int fl), .val (.long x2), .second, .val (.int (1 : Int32)), .val (.int (0 : Int32)), .val (.int (0 : Int32)), .val (.ref b1419), .val (.long nw), .second, .unset, .unset, .unset, .unset, .unset, .unset, .unset, .unset, .unset, .unset, .unset, .unset, .unset] [(.long nw), (.ref b1419)])) rfl (by rw [hml]; rfl) (Steps.refl _) (argsL := [(.long nw)]) (rest := []) (lenOf pd_7 rfl) rfl (by show 2 * 0 + _ ≤ _; exact Nat.le_of_eq rfl) (hb hby at_117) (fun _ _ => ⟨rfl, rfl, (by decide : 10 + 5 ≤ _), (by decide : 67 + 35 ≤ _)⟩)
          dsimp only [Pt.U, Pt.locs, Pt.cells, Pt.slots] at X1544 l1544 y1544 z1544 st1544 hQ1544
          subst l1544 y1544 z1544
          obtain ⟨x1545, rfl, N1546, k1547, f1548, f1549, f1550⟩ := hQ1544
          have N1551 := Fr.app N1542 N1546
          have ge1552 : n0 ≤ x1545 := by rw [← O1543.1]; exact Nat.le_trans O1543.2.1 f1548
          have ne1553 : b1419 ≠ x1545 := Nat.ne_of_lt (Nat.lt_of_lt_of_le (Exa.lt f1483) f1548)
          have ne1554 : x1426 ≠ x1545 := Nat.ne_of_lt (Nat.lt_of_lt_of_le (Exa.lt f1488) f1548)
          have ne1555 : x1427 ≠ x1545 := Nat.ne_of_lt (Nat.lt_of_lt_of_le (Exa.lt f1496) f1548)
          have ne1556 : x1429 ≠ x1545 := Nat.ne_of_lt (Nat.lt_of_lt_of_le (Exa.lt f1498) f1548)
          have ne1557 : x1430 ≠ x1545 := Nat.ne_of_lt (Nat.lt_of_lt_of_le (Exa.lt f1506) f1548)
          have O1558 := O1543.keep k1547 all0
          obtain ⟨cq1559, kq1559, q1559a, q1559b, q1559c⟩ := isOf hZ rfl f1549
          obtain ⟨_, _, ⟨T1559, L1559, k1559, n1559⟩, -, X1559, ⟨Lc1559, hQ1559, l1559, y1559, z1559⟩, st1559⟩ := X1544.virtualBack hx (y := (⟨"com/example/sluice/sluice/WaitStatistics", "startedAtOnce", "()J"⟩ : MethodName)) (z := (⟨"com/example/sluice/sluice/WaitStatistics", "startedAtOnce", "()J"⟩ : MethodName)) hown (mvT hZ (own_w hw 124 rfl)) (mvT hZ (own_w hw 125 rfl)) (notFace_of_selects (args := #[]) (mvT hZ (own_w hw 127 rfl))) (mvT hZ (own_w hw 127 rfl)) (mvT hZ (own_w hw 126 rfl)) (by decide) (backOf (W := 0) (rm_get l Z a0 hw [] x1545 ((0 : Int64) + (1 : Int64)) T1544.heap n0 O1558 f1550) hZ (own_w hw 128 rfl) (own_w hw 94 rfl) (by decide) (by decide)) q1559a q1559c (g := (mkF m 120 #[.val (.long raw), .second, .val (.long nw), .second, .val (.long lt), .second, .val (.long pc_), .second, .val (.int fl), .val (.long x2), .second, .val (.int (1 : Int32)), .val (.int (0 : Int32)), .val (.int (0 : Int32)), .val (.ref b1419), .val (.long nw), .second, .unset, .unset, .unset, .unset, .unset, .unset, .unset, .unset, .unset, .unset, .unset, .unset, .unset] [(.ref x1545)])) rfl (by rw [hml]; rfl) (Steps.refl _) (argsL := []) (rest := []) (lenOf pd_8 rfl) rfl (by show 2 * 0 + _ ≤ _; exact Nat.le_of_eq rfl) (hb hby at_120) (fun _ _ => ⟨rfl, rfl, (by decide : 15 + 0 ≤ _), (by decide : 102 + 0 ≤ _)⟩)
          dsimp only [Pt.U, Pt.locs, Pt.cells, Pt.slots] at X1559 l1559 y1559 z1559 st1559 hQ1559
          subst l1559 y1559 z1559
          obtain ⟨rfl, N1560, k1561⟩ := hQ1559
          have N1562 := Fr.app N1551 N1560
          have f1564 := (Exa.keep f1483 k1547)
          have f1565 := (Fld.keep f1484 k1547 nin0)
          have f1566 := (Fld.keep f1485 k1547 nin0)
          have f1567 := (Fld.keep f1486 k1547 nin0)
          have f1568 := (Fld.keep f1487 k1547 nin0)
          have f1569 := (Exa.keep f1488 k1547)
          have f1570 := (Fld.keep f1489 k1547 nin0)
          have f1571 := (Fld.keep f1490 k1547 nin0)
          have f1572 := (Fld.keep f1491 k1547 nin0)
          have f1573 := (Fld.keep f1492 k1547 nin0)
          have f1574 := (Fld.keep f1493 k1547 nin0)
          have f1575 := (Fld.keep f1494 k1547 nin0)
          have f1576 := (Fld.keep f1495 k1547 nin0)
          have f1577 := (Exa.keep f1496 k1547)
          have f1578 := (Arv.keep f1497 k1547 nin0)
          have f1579 := (Exa.keep f1498 k1547)
          have f1580 := (Fld.keep f1499 k1547 nin0)
          have f1581 := (Fld.keep f1500 k1547 nin0)
          have f1582 := (Fld.keep f1501 k1547 nin0)
          have f1583 := (Fld.keep f1502 k1547 nin0)
          have f1584 := (Fld.keep f1503 k1547 nin0)
          have f1585 := (Fld.keep f1504 k1547 nin0)
          have f1586 := (Fld.keep f1505 k1547 nin0)
          have f1587 := (Exa.keep f1506 k1547)
          have f1588 := (Arv.keep f1507 k1547 nin0)
          obtain ⟨cq1563, kq1563, q1563a, q1563b, q1563c⟩ := isOf hZ k1561 f1564
          obtain ⟨_, _, ⟨T1563, L1563, k1563, n1563⟩, -, X1563, ⟨Lc1563, hQ1563, l1563, y1563, z1563⟩, st1563⟩ := X1559.virtualBack hx (y := (⟨"com/example/sluice/sluice/WaitRecorder", "startedAtOnceEarlier", "(J)V"⟩ : MethodName)) (z := (⟨"com/example/sluice/sluice/WaitRecorder", "startedAtOnceEarlier", "(J)V"⟩ : MethodName)) hown (mvT hZ (own_w hw 129 rfl)) (mvT hZ (own_w hw 130 rfl)) (notFace_of_selects (args := #[]) (mvT hZ (own_w hw 132 rfl))) (mvT hZ (own_w hw 132 rfl)) (mvT hZ (own_w hw 131 rfl)) (by decide) (backOf (W := 0) (rm_sae l Z a0 hw [] b1419 pc_ x2 (own_fd nw x2) x1426 x1427 x1428 x1429 x1430 x1431 ((own_fd nw x2) * x2) ((0 : Int64) + (1 : Int64)) nw ((0 : Int64) + (1 : Int64)) T1544.heap n0 O1558 f1564 f1565 f1566 f1567 f1568 f1569 f1570 f1571 f1572 f1573 f1574 f1575 f1576 f1577 f1578 f1579 f1580 f1581 f1582 f1583 f1584 f1585 f1586 f1587 f1588 ge_b1419 ge1470 ge1474 ne1471 ne1473 ne1475 ne1477 f1438 f1439 f1440 f1441 f1442 f1443) hZ (own_w hw 133 rfl) (own_w hw 7 rfl) (by decide) (by decide)) q1563a q1563c (g := (mkF m 129 #[.val (.long raw), .second, .val (.long nw), .second, .val (.long lt), .second, .val (.long pc_), .second, .val (.int fl), .val (.long x2), .second, .val (.int (1 : Int32)), .val (.int (0 : Int32)), .val (.int (0 : Int32)), .val (.ref b1419), .val (.long nw), .second, .val (.long ((0 : Int64) + (1 : Int64))), .second, .unset, .unset, .unset, .unset, .unset, .unset, .unset, .unset, .unset, .unset, .unset] [(.long pc_), (.ref b1419)])) rfl (by rw [hml]; rfl) (Steps.refl _) (argsL := [(.long pc_)]) (rest := []) (lenOf pd_2 rfl) rfl (by show 2 * 0 + _ ≤ _; exact Nat.le_of_eq rfl) (hb hby at_129) (fun _ _ => ⟨rfl, k1561, (by decide : 15 + 0 ≤ _), (by decide : 102 + 0 ≤ _)⟩)
          dsimp only [Pt.U, Pt.locs, Pt.cells, Pt.slots] at X1563 l1563 y1563 z1563 st1563 hQ1563
          subst l1563 y1563 z1563
          obtain ⟨rfl, N1589, k1590, f1591, f1592, f1593, f1594, f1595, f1596, f1597, f1598, f1599, f1600, f1601, f1602, f1603, f1604, f1605, f1606, f1607, f1608, f1609, f1610⟩ := hQ1563
          have N1611 := Fr.app N1562 N1589
          have O1612 := O1558.keep k1590 (allS ge1470 (allS ge1474 all0))
          have f1614 := (Exa.keep f1564 k1590)
          have f1615 := (Fld.keep f1565 k1590 (ninS ne1471 (ninS ne1475 nin0)))
          have f1616 := (Fld.keep f1566 k1590 (ninS ne1471 (ninS ne1475 nin0)))
          have f1617 := (Fld.keep f1567 k1590 (ninS ne1471 (ninS ne1475 nin0)))
          have f1618 := (Fld.keep f1568 k1590 (ninS ne1471 (ninS ne1475 nin0)))
          obtain ⟨cq1613, kq1613, q1613a, q1613b, q1613c⟩ := isOf hZ rfl f1614
          obtain ⟨_, _, ⟨T1613, L1613, k1613, n1613⟩, -, X1613, ⟨Lc1613, hQ1613, l1613, y1613, z1613⟩, st1613⟩ := X1563.virtualBack hx (y := (⟨"com/example/sluice/sluice/WaitRecorder", "intervalSnapshot", "(J)Lcom/example/sluice/sluice/WaitStatistics;"⟩ : MethodName)) (z := (⟨"com/example/sluice/sluice/WaitRecorder", "intervalSnapshot", "(J)Lcom/example/sluice/sluice/WaitStatistics;"⟩ : MethodName)) hown (mvT hZ (own_w hw 82 rfl)) (mvT hZ (own_w hw 83 rfl)) (notFace_of_selects (args := #[]) (mvT hZ (own_w hw 85 rfl))) (mvT hZ (own_w hw 85 rfl)) (mvT hZ (own_w hw 84 rfl)) (by decide) (backOf (W := 0) (rm_isnap l Z a0 hw [] b1419 nw x2 (own_fd nw x2) x1426 x1427 x1428 x1429 x1430 x1431 ((own_fd nw x2) * x2) (((0 : Int64) + (1 : Int64)) + pc_) nw (((0 : Int64) + (1 : Int64)) + pc_) wV kV vV T1563.heap n0 O1612 f1614 f1615 f1616 f1617 f1618 f1591 f1592 f1593 f1594 f1595 f1596 f1597 f1598 f1599 f1600 f1601 f1602 f1603 f1604 f1605 f1606 f1607 f1608 f1609 f1610 ge_b1419 ge1470 ge1474 ne1471 ne1473 ne1475 ne1477 f1438 f1439 f1440 f1441 f1442 f1443 S_V E_V A_V hlen c1480) hZ (own_w hw 86 rfl) (own_w hw 7 rfl) (by decide) (by decide)) q1613a q1613c (g := (mkF m 136 #[.val (.long raw), .second, .val (.long nw), .second, .val (.long lt), .second, .val (.long pc_), .second, .val (.int fl), .val (.long x2), .second, .val (.int (1 : Int32)), .val (.int (0 : Int32)), .val (.int (0 : Int32)), .val (.ref b1419), .val (.long nw), .second, .val (.long ((0 : Int64) + (1 : Int64))), .second, .unset, .unset, .unset, .unset, .unset, .unset, .unset, .unset, .unset, .unset, .unset] [(.long nw), (.ref b1419)])) rfl (by rw [hml]; rfl) (Steps.refl _) (argsL := [(.long nw)]) (rest := []) (lenOf pd_7 rfl) rfl (by show 2 * 0 + _ ≤ _; exact Nat.le_of_eq rfl) (hb hby at_136) (fun _ _ => ⟨rfl, rfl, (by decide : 15 + 5 ≤ _), (by decide : 102 + 35 ≤ _)⟩)
          dsimp only [Pt.U, Pt.locs, Pt.cells, Pt.slots] at X1613 l1613 y1613 z1613 st1613 hQ1613
          subst l1613 y1613 z1613
          obtain ⟨x1619, rfl, N1620, k1621, f1622, f1623, f1624⟩ := hQ1613
          have N1625 := Fr.app N1611 N1620
          have ge1626 : n0 ≤ x1619 := by rw [← O1612.1]; exact Nat.le_trans O1612.2.1 f1622
          have ne1627 : b1419 ≠ x1619 := Nat.ne_of_lt (Nat.lt_of_lt_of_le (Exa.lt f1614) f1622)
          have ne1628 : x1426 ≠ x1619 := Nat.ne_of_lt (Nat.lt_of_lt_of_le (Exa.lt f1591) f1622)
          have ne1629 : x1427 ≠ x1619 := Nat.ne_of_lt (Nat.lt_of_lt_of_le (Exa.lt f1599) f1622)
          have ne1630 : x1429 ≠ x1619 := Nat.ne_of_lt (Nat.lt_of_lt_of_le (Exa.lt f1601) f1622)
          have ne1631 : x1430 ≠ x1619 := Nat.ne_of_lt (Nat.lt_of_lt_of_le (Exa.lt f1609) f1622)
          have f1632 := (Exa.keep f1549 k1590)
          have ne1633 : x1545 ≠ x1619 := Nat.ne_of_lt (Nat.lt_of_lt_of_le (Exa.lt f1632) f1622)
          have O1634 := O1612.keep k1621 all0
          obtain ⟨cq1635, kq1635, q1635a, q1635b, q1635c⟩ := isOf hZ rfl f1623
          obtain ⟨_, _, ⟨T1635, L1635, k1635, n1635⟩, -, X1635, ⟨Lc1635, hQ1635, l1635, y1635, z1635⟩, st1635⟩ := X1613.virtualBack hx (y := (⟨"com/example/sluice/sluice/WaitStatistics", "startedAtOnce", "()J"⟩ : MethodName)) (z := (⟨"com/example/sluice/sluice/WaitStatistics", "startedAtOnce", "()J"⟩ : MethodName)) hown (mvT hZ (own_w hw 124 rfl)) (mvT hZ (own_w hw 125 rfl)) (notFace_of_selects (args := #[]) (mvT hZ (own_w hw 127 rfl))) (mvT hZ (own_w hw 127 rfl)) (mvT hZ (own_w hw 126 rfl)) (by decide) (backOf (W := 0) (rm_get l Z a0 hw [] x1619 (((0 : Int64) + (1 : Int64)) + pc_) T1613.heap n0 O1634 f1624) hZ (own_w hw 128 rfl) (own_w hw 94 rfl) (by decide) (by decide)) q1635a q1635c (g := (mkF m 139 #[.val (.long raw), .second, .val (.long nw), .second, .val (.long lt), .second, .val (.long pc_), .second, .val (.int fl), .val (.long x2), .second, .val (.int (1 : Int32)), .val (.int (0 : Int32)), .val (.int (0 : Int32)), .val (.ref b1419), .val (.long nw), .second, .val (.long ((0 : Int64) + (1 : Int64))), .second, .unset, .unset, .unset, .unset, .unset, .unset, .unset, .unset, .unset, .unset, .unset] [(.ref x1619)])) rfl (by rw [hml]; rfl) (Steps.refl _) (argsL := []) (rest := []) (lenOf pd_8 rfl) rfl (by show 2 * 0 + _ ≤ _; exact Nat.le_of_eq rfl) (hb hby at_139) (fun _ _ => ⟨rfl, rfl, (by decide : 20 + 0 ≤ _), (by decide : 137 + 0 ≤ _)⟩)
          dsimp only [Pt.U, Pt.locs, Pt.cells, Pt.slots] at X1635 l1635 y1635 z1635 st1635 hQ1635
          subst l1635 y1635 z1635
          obtain ⟨rfl, N1636, k1637⟩ := hQ1635
          have N1638 := Fr.app N1625 N1636
          have f1640 := (Exa.keep f1614 k1621)
          have f1641 := (Fld.keep f1618 k1621 nin0)
          have f1642 := (Exa.keep f1601 k1621)
          have f1643 := (Fld.keep f1602 k1621 nin0)
          have f1644 := (Fld.keep f1603 k1621 nin0)
          have f1645 := (Fld.keep f1604 k1621 nin0)
          have f1646 := (Fld.keep f1605 k1621 nin0)
          have f1647 := (Fld.keep f1606 k1621 nin0)
          have f1648 := (Fld.keep f1607 k1621 nin0)
          have f1649 := (Fld.keep f1608 k1621 nin0)
          have f1650 := (Exa.keep f1609 k1621)
          have f1651 := (Arv.keep f1610 k1621 nin0)
          obtain ⟨cq1639, kq1639, q1639a, q1639b, q1639c⟩ := isOf hZ k1637 f1640
          obtain ⟨_, _, ⟨T1639, L1639, k1639, n1639⟩, -, X1639, ⟨Lc1639, hQ1639, l1639, y1639, z1639⟩, st1639⟩ := X1635.virtualBack hx (y := (⟨"com/example/sluice/sluice/WaitRecorder", "sinceResetSnapshot", "()Lcom/example/sluice/sluice/WaitStatistics;"⟩ : MethodName)) (z := (⟨"com/example/sluice/sluice/WaitRecorder", "sinceResetSnapshot", "()Lcom/example/sluice/sluice/WaitStatistics;"⟩ : MethodName)) hown (mvT hZ (own_w hw 134 rfl)) (mvT hZ (own_w hw 135 rfl)) (notFace_of_selects (args := #[]) (mvT hZ (own_w hw 137 rfl))) (mvT hZ (own_w hw 137 rfl)) (mvT hZ (own_w hw 136 rfl)) (by decide) (backOf (W := 0) (rm_ssnap l Z a0 hw [] b1419 x1429 nw (((0 : Int64) + (1 : Int64)) + pc_) x1430 x1431 T1613.heap n0 O1634 f1641 f1642 f1643 f1644 f1645 f1646 f1647 f1648 f1649 f1650 f1651) hZ (own_w hw 138 rfl) (own_w hw 7 rfl) (by decide) (by decide)) q1639a q1639c (g := (mkF m 146 #[.val (.long raw), .second, .val (.long nw), .second, .val (.long lt), .second, .val (.long pc_), .second, .val (.int fl), .val (.long x2), .second, .val (.int (1 : Int32)), .val (.int (0 : Int32)), .val (.int (0 : Int32)), .val (.ref b1419), .val (.long nw), .second, .val (.long ((0 : Int64) + (1 : Int64))), .second, .val (.long (((0 : Int64) + (1 : Int64)) + pc_)), .second, .unset, .unset, .unset, .unset, .unset, .unset, .unset, .unset, .unset] [(.ref b1419)])) rfl (by rw [hml]; rfl) (Steps.refl _) (argsL := []) (rest := []) (lenOf pd_5 rfl) rfl (by show 2 * 0 + _ ≤ _; exact Nat.le_of_eq rfl) (hb hby at_146) (fun _ _ => ⟨rfl, k1637, (by decide : 20 + 2 ≤ _), (by decide : 137 + 14 ≤ _)⟩)
          dsimp only [Pt.U, Pt.locs, Pt.cells, Pt.slots] at X1639 l1639 y1639 z1639 st1639 hQ1639
          subst l1639 y1639 z1639
          obtain ⟨x1652, rfl, N1653, k1654, f1655, f1656, f1657⟩ := hQ1639
          have N1658 := Fr.app N1638 N1653
          have ge1659 : n0 ≤ x1652 := by rw [← O1634.1]; exact Nat.le_trans O1634.2.1 f1655
          have ne1660 : b1419 ≠ x1652 := Nat.ne_of_lt (Nat.lt_of_lt_of_le (Exa.lt f1640) f1655)
          have f1661 := (Exa.keep f1591 k1621)
          have ne1662 : x1426 ≠ x1652 := Nat.ne_of_lt (Nat.lt_of_lt_of_le (Exa.lt f1661) f1655)
          have f1663 := (Exa.keep f1599 k1621)
          have ne1664 : x1427 ≠ x1652 := Nat.ne_of_lt (Nat.lt_of_lt_of_le (Exa.lt f1663) f1655)
          have ne1665 : x1429 ≠ x1652 := Nat.ne_of_lt (Nat.lt_of_lt_of_le (Exa.lt f1642) f1655)
          have ne1666 : x1430 ≠ x1652 := Nat.ne_of_lt (Nat.lt_of_lt_of_le (Exa.lt f1650) f1655)
          have f1667 := (Exa.keep f1632 k1621)
          have ne1668 : x1545 ≠ x1652 := Nat.ne_of_lt (Nat.lt_of_lt_of_le (Exa.lt f1667) f1655)
          have ne1669 : x1619 ≠ x1652 := Nat.ne_of_lt (Nat.lt_of_lt_of_le (Exa.lt f1623) f1655)
          have O1670 := O1634.keep k1654 all0
          obtain ⟨cq1671, kq1671, q1671a, q1671b, q1671c⟩ := isOf hZ rfl f1656
          obtain ⟨_, _, ⟨T1671, L1671, k1671, n1671⟩, -, X1671, ⟨Lc1671, hQ1671, l1671, y1671, z1671⟩, st1671⟩ := X1639.virtualBack hx (y := (⟨"com/example/sluice/sluice/WaitStatistics", "startedAtOnce", "()J"⟩ : MethodName)) (z := (⟨"com/example/sluice/sluice/WaitStatistics", "startedAtOnce", "()J"⟩ : MethodName)) hown (mvT hZ (own_w hw 124 rfl)) (mvT hZ (own_w hw 125 rfl)) (notFace_of_selects (args := #[]) (mvT hZ (own_w hw 127 rfl))) (mvT hZ (own_w hw 127 rfl)) (mvT hZ (own_w hw 126 rfl)) (by decide) (backOf (W := 0) (rm_get l Z a0 hw [] x1652 (((0 : Int64) + (1 : Int64)) + pc_) T1639.heap n0 O1670 f1657) hZ (own_w hw 128 rfl) (own_w hw 94 rfl) (by decide) (by decide)) q1671a q1671c (g := (mkF m 149 #[.val (.long raw), .second, .val (.long nw), .second, .val (.long lt), .second, .val (.long pc_), .second, .val (.int fl), .val (.long x2), .second, .val (.int (1 : Int32)), .val (.int (0 : Int32)), .val (.int (0 : Int32)), .val (.ref b1419), .val (.long nw), .second, .val (.long ((0 : Int64) + (1 : Int64))), .second, .val (.long (((0 : Int64) + (1 : Int64)) + pc_)), .second, .unset, .unset, .unset, .unset, .unset, .unset, .unset, .unset, .unset] [(.ref x1652)])) rfl (by rw [hml]; rfl) (Steps.refl _) (argsL := []) (rest := []) (lenOf pd_8 rfl) rfl (by show 2 * 0 + _ ≤ _; exact Nat.le_of_eq rfl) (hb hby at_149) (fun _ _ => ⟨rfl, rfl, (by decide : 22 + 0 ≤ _), (by decide : 151 + 0 ≤ _)⟩)
          dsimp only [Pt.U, Pt.locs, Pt.cells, Pt.slots] at X1671 l1671 y1671 z1671 st1671 hQ1671
          subst l1671 y1671 z1671
          obtain ⟨rfl, N1672, k1673⟩ := hQ1671
          have N1674 := Fr.app N1658 N1672
          have S1675 : ∀ t, Steps p.tables e below (T1671.setTop (mkF m 271 #[.val (.long raw), .second, .val (.long nw), .second, .val (.long lt), .second, .val (.long pc_), .second, .val (.int fl), .val (.long x2), .second, .val (.int (1 : Int32)), .val (.int (0 : Int32)), .val (.int (0 : Int32)), .val (.ref b1419), .val (.long nw), .second, .val (.long ((0 : Int64) + (1 : Int64))), .second, .val (.long (((0 : Int64) + (1 : Int64)) + pc_)), .second, .val (.long (((0 : Int64) + (1 : Int64)) + pc_)), .second, .val (.long (1 : Int64)), .second, .val (.long (0 : Int64)), .second, .val (.int (1 : Int32)), .val (.long ((1 : Int64) + pc_)), .second] [(.int (1 : Int32))])) t → Steps p.tables e below (s₁.setTop (mkF m 0 #[.val (.long raw), .second, .val (.long nw), .second, .val (.long lt), .second, .val (.long pc_), .second, .val (.int fl), .unset, .unset, .unset, .unset, .unset, .unset, .unset, .unset, .unset, .unset, .unset, .unset, .unset, .unset, .unset, .unset, .unset, .unset, .unset, .unset, .unset] [])) t := by
            intro t kt
            refine S1417 t ?_
            refine XS.ifYes X1.here hx rfl (pc0 := 43) (pc' := 50) rfl (hb hby at_43) rfl ((if0 _ _).trans (teq (c1418 : (fl &&& (4 : Int32)) = (0 : Int32))).1) (by decide) (by decide) ?_
            refine XS.iconst X1.here hx rfl (hb hby at_50) ?_
            refine XS.istore X1.here hx rfl (hb hby at_51) rfl (l' := #[.val (.long raw), .second, .val (.long nw), .second, .val (.long lt), .second, .val (.long pc_), .second, .val (.int fl), .val (.long x2), .second, .val (.int (1 : Int32)), .val (.int (0 : Int32)), .val (.int (0 : Int32)), .unset, .unset, .unset, .unset, .unset, .unset, .unset, .unset, .unset, .unset, .unset, .unset, .unset, .unset, .unset, .unset]) rfl ?_
            show Steps p.tables e below (T1.setTop (mkF m 53 #[.val (.long raw), .second, .val (.long nw), .second, .val (.long lt), .second, .val (.long pc_), .second, .val (.int fl), .val (.long x2), .second, .val (.int (1 : Int32)), .val (.int (0 : Int32)), .val (.int (0 : Int32)), .unset, .unset, .unset, .unset, .unset, .unset, .unset, .unset, .unset, .unset, .unset, .unset, .unset, .unset, .unset, .unset] [])) _
            refine st1419 _ ?_
            refine XS.dup X1419.here hx rfl (hb hby at_56) rfl rfl ?_
            refine XS.lload X1419.here hx rfl (hb hby at_57) rfl ?_
            refine XS.lloadN X1419.here hx rfl (hb hby at_59) rfl ?_
            show Steps p.tables e below (T1419.setTop (mkF m 60 #[.val (.long raw), .second, .val (.long nw), .second, .val (.long lt), .second, .val (.long pc_), .second, .val (.int fl), .val (.long x2), .second, .val (.int (1 : Int32)), .val (.int (0 : Int32)), .val (.int (0 : Int32)), .unset, .unset, .unset, .unset, .unset, .unset, .unset, .unset, .unset, .unset, .unset, .unset, .unset, .unset, .unset, .unset] [(.long nw), (.long x2), (.ref b1419), (.ref b1419)])) _
            refine st1425.trans ?_
            refine XS.astore X1425.here hx rfl (hb hby at_63) rfl rfl (l' := #[.val (.long raw), .second, .val (.long nw), .second, .val (.long lt), .second, .val (.long pc_), .second, .val (.int fl), .val (.long x2), .second, .val (.int (1 : Int32)), .val (.int (0 : Int32)), .val (.int (0 : Int32)), .val (.ref b1419), .unset, .unset, .unset, .unset, .unset, .unset, .unset, .unset, .unset, .unset, .unset, .unset, .unset, .unset, .unset]) rfl ?_
            refine XS.iload X1425.here hx rfl (hb hby at_65) rfl ?_
            refine XS.ifNo X1425.here hx rfl (hb hby at_67) rfl ((if0 _ _).trans (feq ((by decide) : ¬ ((1 : Int32) = (0 : Int32)))).1) ?_
            refine XS.aload X1425.here hx rfl (hb hby at_70) rfl rfl ?_
            refine XS.lloadN X1425.here hx rfl (hb hby at_72) rfl ?_
            show Steps p.tables e below (T1425.setTop (mkF m 73 #[.val (.long raw), .second, .val (.long nw), .second, .val (.long lt), .second, .val (.long pc_), .second, .val (.int fl), .val (.long x2), .second, .val (.int (1 : Int32)), .val (.int (0 : Int32)), .val (.int (0 : Int32)), .val (.ref b1419), .unset, .unset, .unset, .unset, .unset, .unset, .unset, .unset, .unset, .unset, .unset, .unset, .unset, .unset, .unset] [(.long nw), (.ref b1419)])) _
            refine st1479.trans ?_
            refine XS.iload X1479.here hx rfl (hb hby at_76) rfl ?_
            refine XS.ifYes X1479.here hx rfl (pc0 := 78) (pc' := 88) rfl (hb hby at_78) rfl ((if0 _ _).trans (teq ((by decide) : (0 : Int32) = (0 : Int32))).1) (by decide) (by decide) ?_
            refine XS.iload X1479.here hx rfl (hb hby at_88) rfl ?_
            refine XS.ifYes X1479.here hx rfl (pc0 := 90) (pc' := 100) rfl (hb hby at_90) rfl ((if0 _ _).trans (teq ((by decide) : (0 : Int32) = (0 : Int32))).1) (by decide) (by decide) ?_
            refine XS.iload X1479.here hx rfl (hb hby at_100) rfl ?_
            show Steps p.tables e below (T1479.setTop (mkF m 102 #[.val (.long raw), .second, .val (.long nw), .second, .val (.long lt), .second, .val (.long pc_), .second, .val (.int fl), .val (.long x2), .second, .val (.int (1 : Int32)), .val (.int (0 : Int32)), .val (.int (0 : Int32)), .val (.ref b1419), .unset, .unset, .unset, .unset, .unset, .unset, .unset, .unset, .unset, .unset, .unset, .unset, .unset, .unset, .unset] [(.int (0 : Int32))])) _
            refine XS.ifYes X1479.here hx rfl (pc0 := 102) (pc' := 110) rfl (hb hby at_102) rfl ((if0 _ _).trans (teq ((by decide) : (0 : Int32) = (0 : Int32))).1) (by decide) (by decide) ?_
            refine XS.lloadN X1479.here hx rfl (hb hby at_110) rfl ?_
            refine XS.lstore X1479.here hx rfl (hb hby at_111) rfl (l' := #[.val (.long raw), .second, .val (.long nw), .second, .val (.long lt), .second, .val (.long pc_), .second, .val (.int fl), .val (.long x2), .second, .val (.int (1 : Int32)), .val (.int (0 : Int32)), .val (.int (0 : Int32)), .val (.ref b1419), .val (.long nw), .second, .unset, .unset, .unset, .unset, .unset, .unset, .unset, .unset, .unset, .unset, .unset, .unset, .unset]) rfl ?_
            refine XS.aload X1479.here hx rfl (hb hby at_113) rfl rfl ?_
            refine XS.lload X1479.here hx rfl (hb hby at_115) rfl ?_
            show Steps p.tables e below (T1479.setTop (mkF m 117 #[.val (.long raw), .second, .val (.long nw), .second, .val (.long lt), .second, .val (.long pc_), .second, .val (.int fl), .val (.long x2), .second, .val (.int (1 : Int32)), .val (.int (0 : Int32)), .val (.int (0 : Int32)), .val (.ref b1419), .val (.long nw), .second, .unset, .unset, .unset, .unset, .unset, .unset, .unset, .unset, .unset, .unset, .unset, .unset, .unset] [(.long nw), (.ref b1419)])) _
            refine st1544.trans ?_
            show Steps p.tables e below (T1544.setTop (mkF m 120 #[.val (.long raw), .second, .val (.long nw), .second, .val (.long lt), .second, .val (.long pc_), .second, .val (.int fl), .val (.long x2), .second, .val (.int (1 : Int32)), .val (.int (0 : Int32)), .val (.int (0 : Int32)), .val (.ref b1419), .val (.long nw), .second, .unset, .unset, .unset, .unset, .unset, .unset, .unset, .unset, .unset, .unset, .unset, .unset, .unset] [(.ref x1545)])) _
            refine st1559.trans ?_
            refine XS.lstore X1559.here hx rfl (hb hby at_123) rfl (l' := #[.val (.long raw), .second, .val (.long nw), .second, .val (.long lt), .second, .val (.long pc_), .second, .val (.int fl), .val (.long x2), .second, .val (.int (1 : Int32)), .val (.int (0 : Int32)), .val (.int (0 : Int32)), .val (.ref b1419), .val (.long nw), .second, .val (.long ((0 : Int64) + (1 : Int64))), .second, .unset, .unset, .unset, .unset, .unset, .unset, .unset, .unset, .unset, .unset, .unset]) rfl ?_
            refine XS.aload X1559.here hx rfl (hb hby at_125) rfl rfl ?_
            refine XS.lload X1559.here hx rfl (hb hby at_127) rfl ?_
            show Steps p.tables e below (T1559.setTop (mkF m 129 #[.val (.long raw), .second, .val (.long nw), .second, .val (.long lt), .second, .val (.long pc_), .second, .val (.int fl), .val (.long x2), .second, .val (.int (1 : Int32)), .val (.int (0 : Int32)), .val (.int (0 : Int32)), .val (.ref b1419), .val (.long nw), .second, .val (.long ((0 : Int64) + (1 : Int64))), .second, .unset, .unset, .unset, .unset, .unset, .unset, .unset, .unset, .unset, .unset, .unset] [(.long pc_), (.ref b1419)])) _
            refine st1563.trans ?_
            refine XS.aload X1563.here hx rfl (hb hby at_132) rfl rfl ?_
            refine XS.lload X1563.here hx rfl (hb hby at_134) rfl ?_
            show Steps p.tables e below (T1563.setTop (mkF m 136 #[.val (.long raw), .second, .val (.long nw), .second, .val (.long lt), .second, .val (.long pc_), .second, .val (.int fl), .val (.long x2), .second, .val (.int (1 : Int32)), .val (.int (0 : Int32)), .val (.int (0 : Int32)), .val (.ref b1419), .val (.long nw), .second, .val (.long ((0 : Int64) + (1 : Int64))), .second, .unset, .unset, .unset, .unset, .unset, .unset, .unset, .unset, .unset, .unset, .unset] [(.long nw), (.ref b1419)])) _
            refine st1613.trans ?_
            show Steps p.tables e below (T1613.setTop (mkF m 139 #[.val (.long raw), .second, .val (.long nw), .second, .val (.long lt), .second, .val (.long pc_), .second, .val (.int fl), .val (.long x2), .second, .val (.int (1 : Int32)), .val (.int (0 : Int32)), .val (.int (0 : Int32)), .val (.ref b1419), .val (.long nw), .second, .val (.long ((0 : Int64) + (1 : Int64))), .second, .unset, .unset, .unset, .unset, .unset, .unset, .unset, .unset, .unset, .unset, .unset] [(.ref x1619)])) _
            refine st1635.trans ?_
            refine XS.lstore X1635.here hx rfl (hb hby at_142) rfl (l' := #[.val (.long raw), .second, .val (.long nw), .second, .val (.long lt), .second, .val (.long pc_), .second, .val (.int fl), .val (.long x2), .second, .val (.int (1 : Int32)), .val (.int (0 : Int32)), .val (.int (0 : Int32)), .val (.ref b1419), .val (.long nw), .second, .val (.long ((0 : Int64) + (1 : Int64))), .second, .val (.long (((0 : Int64) + (1 : Int64)) + pc_)), .second, .unset, .unset, .unset, .unset, .unset, .unset, .unset, .unset, .unset]) rfl ?_
            refine XS.aload X1635.here hx rfl (hb hby at_144) rfl rfl ?_
            show Steps p.tables e below (T1635.setTop (mkF m 146 #[.val (.long raw), .second, .val (.long nw), .second, .val (.long lt), .second, .val (.long pc_), .second, .val (.int fl), .val (.long x2), .second, .val (.int (1 : Int32)), .val (.int (0 : Int32)), .val (.int (0 : Int32)), .val (.ref b1419), .val (.long nw), .second, .val (.long ((0 : Int64) + (1 : Int64))), .second, .val (.long (((0 : Int64) + (1 : Int64)) + pc_)), .second, .unset, .unset, .unset, .unset, .unset, .unset, .unset, .unset, .unset] [(.ref b1419)])) _
            refine st1639.trans ?_
            show Steps p.tables e below (T1639.setTop (mkF m 149 #[.val (.long raw), .second, .val (.long nw), .second, .val (.long lt), .second, .val (.long pc_), .second, .val (.int fl), .val (.long x2), .second, .val (.int (1 : Int32)), .val (.int (0 : Int32)), .val (.int (0 : Int32)), .val (.ref b1419), .val (.long nw), .second, .val (.long ((0 : Int64) + (1 : Int64))), .second, .val (.long (((0 : Int64) + (1 : Int64)) + pc_)), .second, .unset, .unset, .unset, .unset, .unset, .unset, .unset, .unset, .unset] [(.ref x1652)])) _
            refine st1671.trans ?_
            refine XS.lstore X1671.here hx rfl (hb hby at_152) rfl (l' := #[.val (.long raw), .second, .val (.long nw), .second, .val (.long lt), .second, .val (.long pc_), .second, .val (.int fl), .val (.long x2), .second, .val (.int (1 : Int32)), .val (.int (0 : Int32)), .val (.int (0 : Int32)), .val (.ref b1419), .val (.long nw), .second, .val (.long ((0 : Int64) + (1 : Int64))), .second, .val (.long (((0 : Int64) + (1 : Int64)) + pc_)), .second, .val (.long (((0 : Int64) + (1 : Int64)) + pc_)), .second, .unset, .unset, .unset, .unset, .unset, .unset, .unset]) rfl ?_
            refine XS.iload X1671.here hx rfl (hb hby at_154) rfl ?_
            refine XS.ifNo X1671.here hx rfl (hb hby at_156) rfl ((if0 _ _).trans (feq ((by decide) : ¬ ((1 : Int32) = (0 : Int32)))).1) ?_
            refine XS.lconst X1671.here hx rfl (hb hby at_159) ?_
            refine XS.goto X1671.here hx rfl (pc0 := 160) (pc' := 164) rfl (hb hby at_160) (by decide) (by decide) ?_
            show Steps p.tables e below (T1671.setTop (mkF m 164 #[.val (.long raw), .second, .val (.long nw), .second, .val (.long lt), .second, .val (.long pc_), .second, .val (.int fl), .val (.long x2), .second, .val (.int (1 : Int32)), .val (.int (0 : Int32)), .val (.int (0 : Int32)), .val (.ref b1419), .val (.long nw), .second, .val (.long ((0 : Int64) + (1 : Int64))), .second, .val (.long (((0 : Int64) + (1 : Int64)) + pc_)), .second, .val (.long (((0 : Int64) + (1 : Int64)) + pc_)), .second, .unset, .unset, .unset, .unset, .unset, .unset, .unset] [(.long (1 : Int64))])) _
            refine XS.lstore X1671.here hx rfl (hb hby at_164) rfl (l' := #[.val (.long raw), .second, .val (.long nw), .second, .val (.long lt), .second, .val (.long pc_), .second, .val (.int fl), .val (.long x2), .second, .val (.int (1 : Int32)), .val (.int (0 : Int32)), .val (.int (0 : Int32)), .val (.ref b1419), .val (.long nw), .second, .val (.long ((0 : Int64) + (1 : Int64))), .second, .val (.long (((0 : Int64) + (1 : Int64)) + pc_)), .second, .val (.long (((0 : Int64) + (1 : Int64)) + pc_)), .second, .val (.long (1 : Int64)), .second, .unset, .unset, .unset, .unset, .unset]) rfl ?_
            refine XS.iload X1671.here hx rfl (hb hby at_166) rfl ?_
            refine XS.ifYes X1671.here hx rfl (pc0 := 168) (pc' := 175) rfl (hb hby at_168) rfl ((if0 _ _).trans (teq ((by decide) : (0 : Int32) = (0 : Int32))).1) (by decide) (by decide) ?_
            refine XS.lconst X1671.here hx rfl (hb hby at_175) ?_
            refine XS.lstore X1671.here hx rfl (hb hby at_176) rfl (l' := #[.val (.long raw), .second, .val (.long nw), .second, .val (.long lt), .second, .val (.long pc_), .second, .val (.int fl), .val (.long x2), .second, .val (.int (1 : Int32)), .val (.int (0 : Int32)), .val (.int (0 : Int32)), .val (.ref b1419), .val (.long nw), .second, .val (.long ((0 : Int64) + (1 : Int64))), .second, .val (.long (((0 : Int64) + (1 : Int64)) + pc_)), .second, .val (.long (((0 : Int64) + (1 : Int64)) + pc_)), .second, .val (.long (1 : Int64)), .second, .val (.long (0 : Int64)), .second, .unset, .unset, .unset]) rfl ?_
            refine XS.iload X1671.here hx rfl (hb hby at_178) rfl ?_
            show Steps p.tables e below (T1671.setTop (mkF m 180 #[.val (.long raw), .second, .val (.long nw), .second, .val (.long lt), .second, .val (.long pc_), .second, .val (.int fl), .val (.long x2), .second, .val (.int (1 : Int32)), .val (.int (0 : Int32)), .val (.int (0 : Int32)), .val (.ref b1419), .val (.long nw), .second, .val (.long ((0 : Int64) + (1 : Int64))), .second, .val (.long (((0 : Int64) + (1 : Int64)) + pc_)), .second, .val (.long (((0 : Int64) + (1 : Int64)) + pc_)), .second, .val (.long (1 : Int64)), .second, .val (.long (0 : Int64)), .second, .unset, .unset, .unset] [(.int (0 : Int32))])) _
            refine XS.ifYes X1671.here hx rfl (pc0 := 180) (pc' := 208) rfl (hb hby at_180) rfl ((if0 _ _).trans (teq ((by decide) : (0 : Int32) = (0 : Int32))).1) (by decide) (by decide) ?_
            refine XS.lload X1671.here hx rfl (hb hby at_208) rfl ?_
            refine XS.lload X1671.here hx rfl (hb hby at_210) rfl ?_
            refine XS.lcmp X1671.here hx rfl (hb hby at_212) rfl ?_
            refine XS.ifNo X1671.here hx rfl (hb hby at_213) rfl ((if0 _ _).trans (teq ((lw_eq ((0 : Int64) + (1 : Int64)) (1 : Int64)).mpr ((by decide) : ((0 : Int64) + (1 : Int64)) = (1 : Int64)) : (lcmpW ((0 : Int64) + (1 : Int64)) (1 : Int64)) = (0 : Int32))).2) ?_
            refine XS.iconst X1671.here hx rfl (hb hby at_216) ?_
            show Steps p.tables e below (T1671.setTop (mkF m 217 #[.val (.long raw), .second, .val (.long nw), .second, .val (.long lt), .second, .val (.long pc_), .second, .val (.int fl), .val (.long x2), .second, .val (.int (1 : Int32)), .val (.int (0 : Int32)), .val (.int (0 : Int32)), .val (.ref b1419), .val (.long nw), .second, .val (.long ((0 : Int64) + (1 : Int64))), .second, .val (.long (((0 : Int64) + (1 : Int64)) + pc_)), .second, .val (.long (((0 : Int64) + (1 : Int64)) + pc_)), .second, .val (.long (1 : Int64)), .second, .val (.long (0 : Int64)), .second, .unset, .unset, .unset] [(.int (1 : Int32))])) _
            refine XS.goto X1671.here hx rfl (pc0 := 217) (pc' := 221) rfl (hb hby at_217) (by decide) (by decide) ?_
            refine XS.istore X1671.here hx rfl (hb hby at_221) rfl (l' := #[.val (.long raw), .second, .val (.long nw), .second, .val (.long lt), .second, .val (.long pc_), .second, .val (.int fl), .val (.long x2), .second, .val (.int (1 : Int32)), .val (.int (0 : Int32)), .val (.int (0 : Int32)), .val (.ref b1419), .val (.long nw), .second, .val (.long ((0 : Int64) + (1 : Int64))), .second, .val (.long (((0 : Int64) + (1 : Int64)) + pc_)), .second, .val (.long (((0 : Int64) + (1 : Int64)) + pc_)), .second, .val (.long (1 : Int64)), .second, .val (.long (0 : Int64)), .second, .val (.int (1 : Int32)), .unset, .unset]) rfl ?_
            refine XS.iload X1671.here hx rfl (hb hby at_223) rfl ?_
            refine XS.ifYes X1671.here hx rfl (pc0 := 225) (pc' := 232) rfl (hb hby at_225) rfl ((if0 _ _).trans (teq ((by decide) : (0 : Int32) = (0 : Int32))).1) (by decide) (by decide) ?_
            refine XS.lload X1671.here hx rfl (hb hby at_232) rfl ?_
            refine XS.lload X1671.here hx rfl (hb hby at_234) rfl ?_
            show Steps p.tables e below (T1671.setTop (mkF m 236 #[.val (.long raw), .second, .val (.long nw), .second, .val (.long lt), .second, .val (.long pc_), .second, .val (.int fl), .val (.long x2), .second, .val (.int (1 : Int32)), .val (.int (0 : Int32)), .val (.int (0 : Int32)), .val (.ref b1419), .val (.long nw), .second, .val (.long ((0 : Int64) + (1 : Int64))), .second, .val (.long (((0 : Int64) + (1 : Int64)) + pc_)), .second, .val (.long (((0 : Int64) + (1 : Int64)) + pc_)), .second, .val (.long (1 : Int64)), .second, .val (.long (0 : Int64)), .second, .val (.int (1 : Int32)), .unset, .unset] [(.long (0 : Int64)), (.long (1 : Int64))])) _
            refine XS.ladd X1671.here hx rfl (hb hby at_236) rfl ?_
            refine XS.lload X1671.here hx rfl (hb hby at_237) rfl ?_
            refine XS.ladd X1671.here hx rfl (hb hby at_239) rfl ?_
            refine XS.lstore X1671.here hx rfl (hb hby at_240) rfl (l' := #[.val (.long raw), .second, .val (.long nw), .second, .val (.long lt), .second, .val (.long pc_), .second, .val (.int fl), .val (.long x2), .second, .val (.int (1 : Int32)), .val (.int (0 : Int32)), .val (.int (0 : Int32)), .val (.ref b1419), .val (.long nw), .second, .val (.long ((0 : Int64) + (1 : Int64))), .second, .val (.long (((0 : Int64) + (1 : Int64)) + pc_)), .second, .val (.long (((0 : Int64) + (1 : Int64)) + pc_)), .second, .val (.long (1 : Int64)), .second, .val (.long (0 : Int64)), .second, .val (.int (1 : Int32)), .val (.long ((1 : Int64) + pc_)), .second]) rfl ?_
            refine XS.iload X1671.here hx rfl (hb hby at_242) rfl ?_
            refine XS.ifNo X1671.here hx rfl (hb hby at_244) rfl ((if0 _ _).trans (feq ((by decide) : ¬ ((1 : Int32) = (0 : Int32)))).1) ?_
            show Steps p.tables e below (T1671.setTop (mkF m 247 #[.val (.long raw), .second, .val (.long nw), .second, .val (.long lt), .second, .val (.long pc_), .second, .val (.int fl), .val (.long x2), .second, .val (.int (1 : Int32)), .val (.int (0 : Int32)), .val (.int (0 : Int32)), .val (.ref b1419), .val (.long nw), .second, .val (.long ((0 : Int64) + (1 : Int64))), .second, .val (.long (((0 : Int64) + (1 : Int64)) + pc_)), .second, .val (.long (((0 : Int64) + (1 : Int64)) + pc_)), .second, .val (.long (1 : Int64)), .second, .val (.long (0 : Int64)), .second, .val (.int (1 : Int32)), .val (.long ((1 : Int64) + pc_)), .second] [])) _
            refine XS.lload X1671.here hx rfl (hb hby at_247) rfl ?_
            refine XS.lload X1671.here hx rfl (hb hby at_249) rfl ?_
            refine XS.lload X1671.here hx rfl (hb hby at_251) rfl ?_
            refine XS.ladd X1671.here hx rfl (hb hby at_253) rfl ?_
            refine XS.lcmp X1671.here hx rfl (hb hby at_254) rfl ?_
            refine XS.ifNo X1671.here hx rfl (hb hby at_255) rfl ((if0 _ _).trans (teq ((lw_eq (((0 : Int64) + (1 : Int64)) + pc_) (((0 : Int64) + (1 : Int64)) + pc_)).mpr (rfl : (((0 : Int64) + (1 : Int64)) + pc_) = (((0 : Int64) + (1 : Int64)) + pc_)) : (lcmpW (((0 : Int64) + (1 : Int64)) + pc_) (((0 : Int64) + (1 : Int64)) + pc_)) = (0 : Int32))).2) ?_
            show Steps p.tables e below (T1671.setTop (mkF m 258 #[.val (.long raw), .second, .val (.long nw), .second, .val (.long lt), .second, .val (.long pc_), .second, .val (.int fl), .val (.long x2), .second, .val (.int (1 : Int32)), .val (.int (0 : Int32)), .val (.int (0 : Int32)), .val (.ref b1419), .val (.long nw), .second, .val (.long ((0 : Int64) + (1 : Int64))), .second, .val (.long (((0 : Int64) + (1 : Int64)) + pc_)), .second, .val (.long (((0 : Int64) + (1 : Int64)) + pc_)), .second, .val (.long (1 : Int64)), .second, .val (.long (0 : Int64)), .second, .val (.int (1 : Int32)), .val (.long ((1 : Int64) + pc_)), .second] [])) _
            refine XS.lload X1671.here hx rfl (hb hby at_258) rfl ?_
            refine XS.lload X1671.here hx rfl (hb hby at_260) rfl ?_
            refine XS.lcmp X1671.here hx rfl (hb hby at_262) rfl ?_
            refine XS.ifNo X1671.here hx rfl (hb hby at_263) rfl ((if0 _ _).trans (teq ((lw_eq (((0 : Int64) + (1 : Int64)) + pc_) ((1 : Int64) + pc_)).mpr ((congrArg (· + pc_) (by decide : ((0 : Int64) + (1 : Int64)) = (1 : Int64))) : (((0 : Int64) + (1 : Int64)) + pc_) = ((1 : Int64) + pc_)) : (lcmpW (((0 : Int64) + (1 : Int64)) + pc_) ((1 : Int64) + pc_)) = (0 : Int32))).2) ?_
            refine XS.iconst X1671.here hx rfl (hb hby at_266) ?_
            refine XS.goto X1671.here hx rfl (pc0 := 267) (pc' := 271) rfl (hb hby at_267) (by decide) (by decide) ?_
            exact kt
          obtain ⟨fs, hr, hrun, hended, hW, hsame⟩ := X1671.leave (v := some (.int (1 : Int32))) (fun h => by rw [Bd.returns] at h; cases h)
          refine ⟨_, _, pre0 _ (S1675 _ ?_), hrun, hended, _, _, rfl, ?_, ⟨_, rfl⟩, hW, hsame.mono (by decide) (by decide)⟩
          · exact retN X1671 hx (t := .boolean) Bd.returns (by simp) (hb hby at_271) hr
          · show Q_rm_law Z raw nw lt pc_ fl wV kV vV h0 n0 _ T1671.heap _
            rw [k1673]
            exact ⟨rfl, N1674⟩
        · exact absurd (rfl : (own_fd nw x2) = (own_fd nw x2)) c1511
      · obtain ⟨T1676, h1676, X1676, e1676, E1676, A1676, D1676, -, st1676⟩ := newO X1 hx hZ hown (own_w hw 5 rfl) (own_w hw 6 rfl) (own_w hw 7 rfl) k5 (g := (mkF m 53 #[.val (.long raw), .second, .val (.long nw), .second, .val (.long lt), .second, .val (.long pc_), .second, .val (.int fl), .val (.long x2), .second, .val (.int (1 : Int32)), .val (.int (0 : Int32)), .val (.int (1 : Int32)), .unset, .unset, .unset, .unset, .unset, .unset, .unset, .unset, .unset, .unset, .unset, .unset, .unset, .unset, .unset, .unset] [])) rfl (hb hby at_53) (by decide) (by decide)
        obtain ⟨b1676, g1676⟩ : ∃ z, z = h0.size := ⟨_, rfl⟩
        have ge_b1676 : n0 ≤ b1676 := by rw [g1676, ← O0.1]; exact O0.2.1
        rw [← g1676] at A1676 D1676 st1676
        have O1677 := O0.ext E1676
        have F1678 : Fld Z h1676 b1676 "com/example/sluice/sluice/WaitRecorder" "intervalMillis" "J" (.long (0 : Int64)) := D1676 (Or.inr (own_w hw 15 rfl)) (ty := .long) (by decide)
        have F1679 : Fld Z h1676 b1676 "com/example/sluice/sluice/WaitRecorder" "intervalIndex" "J" (.long (0 : Int64)) := D1676 (Or.inl (own_w hw 20 rfl)) (ty := .long) (by decide)
        have F1680 : Fld Z h1676 b1676 "com/example/sluice/sluice/WaitRecorder" "interval" "Lcom/example/sluice/sluice/WaitRecorder$Tally;" .null := D1676 (Or.inl (own_w hw 63 rfl)) (ty := (.object "com/example/sluice/sluice/WaitRecorder$Tally")) (by decide)
        have F1681 : Fld Z h1676 b1676 "com/example/sluice/sluice/WaitRecorder" "sinceReset" "Lcom/example/sluice/sluice/WaitRecorder$Tally;" .null := D1676 (Or.inl (own_w hw 65 rfl)) (ty := (.object "com/example/sluice/sluice/WaitRecorder$Tally")) (by decide)
        obtain ⟨_, _, ⟨T1682, L1682, k1682, n1682⟩, -, X1682, ⟨Lc1682, hQ1682, l1682, y1682, z1682⟩, st1682⟩ := X1676.specialBack hx (y := (⟨"com/example/sluice/sluice/WaitRecorder", "<init>", "(JJ)V"⟩ : MethodName)) rfl hown (mvT hZ (own_w hw 8 rfl)) (mvT hZ (own_w hw 9 rfl)) (mvT hZ (own_w hw 10 rfl)) (by decide) (backOf (W := 1) (rm_rinit l Z a0 hw [] b1676 x2 nw wV kV vV h1676 n0 O1677 A1676 ge_b1676 F1678 F1679 F1680 F1681 S_V E_V A_V hlen) hZ (own_w hw 10 rfl) (own_w hw 7 rfl) (by decide) (by decide)) (g := (mkF m 60 #[.val (.long raw), .second, .val (.long nw), .second, .val (.long lt), .second, .val (.long pc_), .second, .val (.int fl), .val (.long x2), .second, .val (.int (1 : Int32)), .val (.int (0 : Int32)), .val (.int (1 : Int32)), .unset, .unset, .unset, .unset, .unset, .unset, .unset, .unset, .unset, .unset, .unset, .unset, .unset, .unset, .unset, .unset] [(.long nw), (.long x2), (.ref b1676), (.ref b1676)])) rfl (by rw [hml]; rfl) (Steps.refl _) (a := b1676) (argsL := [(.long x2), (.long nw)]) (rest := [(.ref b1676)]) (lenOf pd_6 rfl) rfl (by show 2 * 0 + _ ≤ _; exact Nat.le_of_eq rfl) (hb hby at_60) (fun _ _ => ⟨rfl, e1676, (by decide : 1 + 6 ≤ _), (by decide : 4 + 42 ≤ _)⟩)
        dsimp only [Pt.U, Pt.locs, Pt.cells, Pt.slots] at X1682 l1682 y1682 z1682 st1682 hQ1682
        subst l1682 y1682 z1682
        obtain ⟨x1683, x1684, x1685, x1686, x1687, x1688, rfl, N1689, k1690, f1691, f1692, f1693, f1694, f1695, f1696, f1697, f1698, f1699, f1700, f1701, f1702, f1703, f1704, f1705, f1706, f1707, f1708, f1709, f1710, f1711, f1712, f1713, f1714, f1715, f1716, f1717, f1718, f1719, f1720, f1721, f1722, f1723, f1724, f1725⟩ := hQ1682
        have N1726 := Fr.app N6 N1689
        have ge1727 : n0 ≤ x1683 := by rw [← O1677.1]; exact Nat.le_trans O1677.2.1 f1691
        have ne1728 : b1676 ≠ x1683 := Nat.ne_of_lt (Nat.lt_of_lt_of_le (Exa.lt A1676) f1691)
        have ge1729 : n0 ≤ x1684 := by rw [← O1677.1]; exact Nat.le_trans O1677.2.1 f1692
        have ne1730 : b1676 ≠ x1684 := Nat.ne_of_lt (Nat.lt_of_lt_of_le (Exa.lt A1676) f1692)
        have ge1731 : n0 ≤ x1686 := by rw [← O1677.1]; exact Nat.le_trans O1677.2.1 f1693
        have ne1732 : b1676 ≠ x1686 := Nat.ne_of_lt (Nat.lt_of_lt_of_le (Exa.lt A1676) f1693)
        have ge1733 : n0 ≤ x1687 := by rw [← O1677.1]; exact Nat.le_trans O1677.2.1 f1694
        have ne1734 : b1676 ≠ x1687 := Nat.ne_of_lt (Nat.lt_of_lt_of_le (Exa.lt A1676) f1694)
        have O1735 := O1677.keep k1690 (allS ge_b1676 all0)
        obtain ⟨cq1736, kq1736, q1736a, q1736b, q1736c⟩ := isOf hZ rfl f1701
        obtain ⟨_, _, ⟨T1736, L1736, k1736, n1736⟩, -, X1736, ⟨Lc1736, hQ1736, l1736, y1736, z1736⟩, st1736⟩ := X1682.virtualBack hx (y := (⟨"com/example/sluice/sluice/WaitRecorder", "startedAtOnce", "(J)V"⟩ : MethodName)) (z := (⟨"com/example/sluice/sluice/WaitRecorder", "startedAtOnce", "(J)V"⟩ : MethodName)) hown (mvT hZ (own_w hw 66 rfl)) (mvT hZ (own_w hw 67 rfl)) (notFace_of_selects (args := #[]) (mvT hZ (own_w hw 69 rfl))) (mvT hZ (own_w hw 69 rfl)) (mvT hZ (own_w hw 68 rfl)) (by decide) (backOf (W := 0) (rm_sao l Z a0 hw [] b1676 nw x2 (own_fd nw x2) x1683 x1684 x1685 x1686 x1687 x1688 ((own_fd nw x2) * x2) (0 : Int64) nw (0 : Int64) wV kV vV T1682.heap n0 O1735 f1701 f1702 f1703 f1704 f1705 f1706 f1707 f1708 f1709 f1710 f1711 f1712 f1713 f1714 f1715 f1716 f1717 f1718 f1719 f1720 f1721 f1722 f1723 f1724 f1725 ge_b1676 ge1727 ge1731 ne1728 ne1730 ne1732 ne1734 f1695 f1696 f1697 f1698 f1699 f1700 S_V E_V A_V hlen) hZ (own_w hw 70 rfl) (own_w hw 7 rfl) (by decide) (by decide)) q1736a q1736c (g := (mkF m 73 #[.val (.long raw), .second, .val (.long nw), .second, .val (.long lt), .second, .val (.long pc_), .second, .val (.int fl), .val (.long x2), .second, .val (.int (1 : Int32)), .val (.int (0 : Int32)), .val (.int (1 : Int32)), .val (.ref b1676), .unset, .unset, .unset, .unset, .unset, .unset, .unset, .unset, .unset, .unset, .unset, .unset, .unset, .unset, .unset] [(.long nw), (.ref b1676)])) rfl (by rw [hml]; rfl) (Steps.refl _) (argsL := [(.long nw)]) (rest := []) (lenOf pd_2 rfl) rfl (by show 2 * 0 + _ ≤ _; exact Nat.le_of_eq rfl) (hb hby at_73) (fun _ _ => ⟨rfl, rfl, (by decide : 7 + 3 ≤ _), (by decide : 46 + 21 ≤ _)⟩)
        dsimp only [Pt.U, Pt.locs, Pt.cells, Pt.slots] at X1736 l1736 y1736 z1736 st1736 hQ1736
        subst l1736 y1736 z1736
        rcases hQ1736 with ⟨c1737, rfl, N1738, k1739, f1740, f1741, f1742, f1743, f1744, f1745, f1746, f1747, f1748, f1749, f1750, f1751, f1752, f1753, f1754, f1755, f1756, f1757, f1758, f1759, f1760, f1761, f1762, f1763, f1764⟩ | ⟨x1765, x1766, x1767, c1768, rfl, N1769, k1770, f1771, f1772, f1773, f1774, f1775, f1776, f1777, f1778, f1779, f1780, f1781, f1782, f1783, f1784, f1785, f1786, f1787, f1788, f1789, f1790, f1791, f1792, f1793, f1794, f1795, f1796, f1797, f1798⟩
        · have N1799 := Fr.app N1726 N1738
          have O1800 := O1735.keep k1739 (allS ge_b1676 (allS ge1727 (allS ge1731 all0)))
          obtain ⟨cq1801, kq1801, q1801a, q1801b, q1801c⟩ := isOf hZ rfl f1740
          obtain ⟨_, _, ⟨T1801, L1801, k1801, n1801⟩, -, X1801, ⟨Lc1801, hQ1801, l1801, y1801, z1801⟩, st1801⟩ := X1736.virtualBack hx (y := (⟨"com/example/sluice/sluice/WaitRecorder", "startedAtOnce", "(J)V"⟩ : MethodName)) (z := (⟨"com/example/sluice/sluice/WaitRecorder", "startedAtOnce", "(J)V"⟩ : MethodName)) hown (mvT hZ (own_w hw 66 rfl)) (mvT hZ (own_w hw 67 rfl)) (notFace_of_selects (args := #[]) (mvT hZ (own_w hw 69 rfl))) (mvT hZ (own_w hw 69 rfl)) (mvT hZ (own_w hw 68 rfl)) (by decide) (backOf (W := 0) (rm_sao l Z a0 hw [] b1676 lt x2 (own_fd nw x2) x1683 x1684 x1685 x1686 x1687 x1688 ((own_fd nw x2) * x2) ((0 : Int64) + (1 : Int64)) nw ((0 : Int64) + (1 : Int64)) wV kV vV T1736.heap n0 O1800 f1740 f1741 f1742 f1743 f1744 f1745 f1746 f1747 f1748 f1749 f1750 f1751 f1752 f1753 f1754 f1755 f1756 f1757 f1758 f1759 f1760 f1761 f1762 f1763 f1764 ge_b1676 ge1727 ge1731 ne1728 ne1730 ne1732 ne1734 f1695 f1696 f1697 f1698 f1699 f1700 S_V E_V A_V hlen) hZ (own_w hw 70 rfl) (own_w hw 7 rfl) (by decide) (by decide)) q1801a q1801c (g := (mkF m 85 #[.val (.long raw), .second, .val (.long nw), .second, .val (.long lt), .second, .val (.long pc_), .second, .val (.int fl), .val (.long x2), .second, .val (.int (1 : Int32)), .val (.int (0 : Int32)), .val (.int (1 : Int32)), .val (.ref b1676), .unset, .unset, .unset, .unset, .unset, .unset, .unset, .unset, .unset, .unset, .unset, .unset, .unset, .unset, .unset] [(.long lt), (.ref b1676)])) rfl (by rw [hml]; rfl) (Steps.refl _) (argsL := [(.long lt)]) (rest := []) (lenOf pd_2 rfl) rfl (by show 2 * 0 + _ ≤ _; exact Nat.le_of_eq rfl) (hb hby at_85) (fun _ _ => ⟨rfl, rfl, (by decide : 10 + 3 ≤ _), (by decide : 67 + 21 ≤ _)⟩)
          dsimp only [Pt.U, Pt.locs, Pt.cells, Pt.slots] at X1801 l1801 y1801 z1801 st1801 hQ1801
          subst l1801 y1801 z1801
          rcases hQ1801 with ⟨c1802, rfl, N1803, k1804, f1805, f1806, f1807, f1808, f1809, f1810, f1811, f1812, f1813, f1814, f1815, f1816, f1817, f1818, f1819, f1820, f1821, f1822, f1823, f1824, f1825, f1826, f1827, f1828, f1829⟩ | ⟨x1830, x1831, x1832, c1833, rfl, N1834, k1835, f1836, f1837, f1838, f1839, f1840, f1841, f1842, f1843, f1844, f1845, f1846, f1847, f1848, f1849, f1850, f1851, f1852, f1853, f1854, f1855, f1856, f1857, f1858, f1859, f1860, f1861, f1862, f1863⟩
          · have N1864 := Fr.app N1799 N1803
            have O1865 := O1800.keep k1804 (allS ge_b1676 (allS ge1727 (allS ge1731 all0)))
            obtain ⟨cq1866, kq1866, q1866a, q1866b, q1866c⟩ := isOf hZ rfl f1805
            obtain ⟨_, _, ⟨T1866, L1866, k1866, n1866⟩, -, X1866, ⟨Lc1866, hQ1866, l1866, y1866, z1866⟩, st1866⟩ := X1801.virtualBack hx (y := (⟨"com/example/sluice/sluice/WaitRecorder", "intervalSnapshot", "(J)Lcom/example/sluice/sluice/WaitStatistics;"⟩ : MethodName)) (z := (⟨"com/example/sluice/sluice/WaitRecorder", "intervalSnapshot", "(J)Lcom/example/sluice/sluice/WaitStatistics;"⟩ : MethodName)) hown (mvT hZ (own_w hw 82 rfl)) (mvT hZ (own_w hw 83 rfl)) (notFace_of_selects (args := #[]) (mvT hZ (own_w hw 85 rfl))) (mvT hZ (own_w hw 85 rfl)) (mvT hZ (own_w hw 84 rfl)) (by decide) (backOf (W := 0) (rm_isnap l Z a0 hw [] b1676 lt x2 (own_fd nw x2) x1683 x1684 x1685 x1686 x1687 x1688 ((own_fd nw x2) * x2) (((0 : Int64) + (1 : Int64)) + (1 : Int64)) nw (((0 : Int64) + (1 : Int64)) + (1 : Int64)) wV kV vV T1801.heap n0 O1865 f1805 f1806 f1807 f1808 f1809 f1810 f1811 f1812 f1813 f1814 f1815 f1816 f1817 f1818 f1819 f1820 f1821 f1822 f1823 f1824 f1825 f1826 f1827 f1828 f1829 ge_b1676 ge1727 ge1731 ne1728 ne1730 ne1732 ne1734 f1695 f1696 f1697 f1698 f1699 f1700 S_V E_V A_V hlen c1802) hZ (own_w hw 86 rfl) (own_w hw 7 rfl) (by decide) (by decide)) q1866a q1866c (g := (mkF m 117 #[.val (.long raw), .second, .val (.long nw), .second, .val (.long lt), .second, .val (.long pc_), .second, .val (.int fl), .val (.long x2), .second, .val (.int (1 : Int32)), .val (.int (0 : Int32)), .val (.int (1 : Int32)), .val (.ref b1676), .val (.long lt), .second, .unset, .unset, .unset, .unset, .unset, .unset, .unset, .unset, .unset, .unset, .unset, .unset, .unset] [(.long lt), (.ref b1676)])) rfl (by rw [hml]; rfl) (Steps.refl _) (argsL := [(.long lt)]) (rest := []) (lenOf pd_7 rfl) rfl (by show 2 * 0 + _ ≤ _; exact Nat.le_of_eq rfl) (hb hby at_117) (fun _ _ => ⟨rfl, rfl, (by decide : 13 + 5 ≤ _), (by decide : 88 + 35 ≤ _)⟩)
            dsimp only [Pt.U, Pt.locs, Pt.cells, Pt.slots] at X1866 l1866 y1866 z1866 st1866 hQ1866
            subst l1866 y1866 z1866
            obtain ⟨x1867, rfl, N1868, k1869, f1870, f1871, f1872⟩ := hQ1866
            have N1873 := Fr.app N1864 N1868
            have ge1874 : n0 ≤ x1867 := by rw [← O1865.1]; exact Nat.le_trans O1865.2.1 f1870
            have ne1875 : b1676 ≠ x1867 := Nat.ne_of_lt (Nat.lt_of_lt_of_le (Exa.lt f1805) f1870)
            have ne1876 : x1683 ≠ x1867 := Nat.ne_of_lt (Nat.lt_of_lt_of_le (Exa.lt f1810) f1870)
            have ne1877 : x1684 ≠ x1867 := Nat.ne_of_lt (Nat.lt_of_lt_of_le (Exa.lt f1818) f1870)
            have ne1878 : x1686 ≠ x1867 := Nat.ne_of_lt (Nat.lt_of_lt_of_le (Exa.lt f1820) f1870)
            have ne1879 : x1687 ≠ x1867 := Nat.ne_of_lt (Nat.lt_of_lt_of_le (Exa.lt f1828) f1870)
            have O1880 := O1865.keep k1869 all0
            obtain ⟨cq1881, kq1881, q1881a, q1881b, q1881c⟩ := isOf hZ rfl f1871
            obtain ⟨_, _, ⟨T1881, L1881, k1881, n1881⟩, -, X1881, ⟨Lc1881, hQ1881, l1881, y1881, z1881⟩, st1881⟩ := X1866.virtualBack hx (y := (⟨"com/example/sluice/sluice/WaitStatistics", "startedAtOnce", "()J"⟩ : MethodName)) (z := (⟨"com/example/sluice/sluice/WaitStatistics", "startedAtOnce", "()J"⟩ : MethodName)) hown (mvT hZ (own_w hw 124 rfl)) (mvT hZ (own_w hw 125 rfl)) (notFace_of_selects (args := #[]) (mvT hZ (own_w hw 127 rfl))) (mvT hZ (own_w hw 127 rfl)) (mvT hZ (own_w hw 126 rfl)) (by decide) (backOf (W := 0) (rm_get l Z a0 hw [] x1867 (((0 : Int64) + (1 : Int64)) + (1 : Int64)) T1866.heap n0 O1880 f1872) hZ (own_w hw 128 rfl) (own_w hw 94 rfl) (by decide) (by decide)) q1881a q1881c (g := (mkF m 120 #[.val (.long raw), .second, .val (.long nw), .second, .val (.long lt), .second, .val (.long pc_), .second, .val (.int fl), .val (.long x2), .second, .val (.int (1 : Int32)), .val (.int (0 : Int32)), .val (.int (1 : Int32)), .val (.ref b1676), .val (.long lt), .second, .unset, .unset, .unset, .unset, .unset, .unset, .unset, .unset, .unset, .unset, .unset, .unset, .unset] [(.ref x1867)])) rfl (by rw [hml]; rfl) (Steps.refl _) (argsL := []) (rest := []) (lenOf pd_8 rfl) rfl (by show 2 * 0 + _ ≤ _; exact Nat.le_of_eq rfl) (hb hby at_120) (fun _ _ => ⟨rfl, rfl, (by decide : 18 + 0 ≤ _), (by decide : 123 + 0 ≤ _)⟩)
            dsimp only [Pt.U, Pt.locs, Pt.cells, Pt.slots] at X1881 l1881 y1881 z1881 st1881 hQ1881
            subst l1881 y1881 z1881
            obtain ⟨rfl, N1882, k1883⟩ := hQ1881
            have N1884 := Fr.app N1873 N1882
            have f1886 := (Exa.keep f1805 k1869)
            have f1887 := (Fld.keep f1806 k1869 nin0)
            have f1888 := (Fld.keep f1807 k1869 nin0)
            have f1889 := (Fld.keep f1808 k1869 nin0)
            have f1890 := (Fld.keep f1809 k1869 nin0)
            have f1891 := (Exa.keep f1810 k1869)
            have f1892 := (Fld.keep f1811 k1869 nin0)
            have f1893 := (Fld.keep f1812 k1869 nin0)
            have f1894 := (Fld.keep f1813 k1869 nin0)
            have f1895 := (Fld.keep f1814 k1869 nin0)
            have f1896 := (Fld.keep f1815 k1869 nin0)
            have f1897 := (Fld.keep f1816 k1869 nin0)
            have f1898 := (Fld.keep f1817 k1869 nin0)
            have f1899 := (Exa.keep f1818 k1869)
            have f1900 := (Arv.keep f1819 k1869 nin0)
            have f1901 := (Exa.keep f1820 k1869)
            have f1902 := (Fld.keep f1821 k1869 nin0)
            have f1903 := (Fld.keep f1822 k1869 nin0)
            have f1904 := (Fld.keep f1823 k1869 nin0)
            have f1905 := (Fld.keep f1824 k1869 nin0)
            have f1906 := (Fld.keep f1825 k1869 nin0)
            have f1907 := (Fld.keep f1826 k1869 nin0)
            have f1908 := (Fld.keep f1827 k1869 nin0)
            have f1909 := (Exa.keep f1828 k1869)
            have f1910 := (Arv.keep f1829 k1869 nin0)
            obtain ⟨cq1885, kq1885, q1885a, q1885b, q1885c⟩ := isOf hZ k1883 f1886
            obtain ⟨_, _, ⟨T1885, L1885, k1885, n1885⟩, -, X1885, ⟨Lc1885, hQ1885, l1885, y1885, z1885⟩, st1885⟩ := X1881.virtualBack hx (y := (⟨"com/example/sluice/sluice/WaitRecorder", "startedAtOnceEarlier", "(J)V"⟩ : MethodName)) (z := (⟨"com/example/sluice/sluice/WaitRecorder", "startedAtOnceEarlier", "(J)V"⟩ : MethodName)) hown (mvT hZ (own_w hw 129 rfl)) (mvT hZ (own_w hw 130 rfl)) (notFace_of_selects (args := #[]) (mvT hZ (own_w hw 132 rfl))) (mvT hZ (own_w hw 132 rfl)) (mvT hZ (own_w hw 131 rfl)) (by decide) (backOf (W := 0) (rm_sae l Z a0 hw [] b1676 pc_ x2 (own_fd nw x2) x1683 x1684 x1685 x1686 x1687 x1688 ((own_fd nw x2) * x2) (((0 : Int64) + (1 : Int64)) + (1 : Int64)) nw (((0 : Int64) + (1 : Int64)) + (1 : Int64)) T1866.heap n0 O1880 f1886 f1887 f1888 f1889 f1890 f1891 f1892 f1893 f1894 f1895 f1896 f1897 f1898 f1899 f1900 f1901 f1902 f1903 f1904 f1905 f1906 f1907 f1908 f1909 f1910 ge_b1676 ge1727 ge1731 ne1728 ne1730 ne1732 ne1734 f1695 f1696 f1697 f1698 f1699 f1700) hZ (own_w hw 133 rfl) (own_w hw 7 rfl) (by decide) (by decide)) q1885a q1885c (g := (mkF m 129 #[.val (.long raw), .second, .val (.long nw), .second, .val (.long lt), .second, .val (.long pc_), .second, .val (.int fl), .val (.long x2), .second, .val (.int (1 : Int32)), .val (.int (0 : Int32)), .val (.int (1 : Int32)), .val (.ref b1676), .val (.long lt), .second, .val (.long (((0 : Int64) + (1 : Int64)) + (1 : Int64))), .second, .unset, .unset, .unset, .unset, .unset, .unset, .unset, .unset, .unset, .unset, .unset] [(.long pc_), (.ref b1676)])) rfl (by rw [hml]; rfl) (Steps.refl _) (argsL := [(.long pc_)]) (rest := []) (lenOf pd_2 rfl) rfl (by show 2 * 0 + _ ≤ _; exact Nat.le_of_eq rfl) (hb hby at_129) (fun _ _ => ⟨rfl, k1883, (by decide : 18 + 0 ≤ _), (by decide : 123 + 0 ≤ _)⟩)
            dsimp only [Pt.U, Pt.locs, Pt.cells, Pt.slots] at X1885 l1885 y1885 z1885 st1885 hQ1885
            subst l1885 y1885 z1885
            obtain ⟨rfl, N1911, k1912, f1913, f1914, f1915, f1916, f1917, f1918, f1919, f1920, f1921, f1922, f1923, f1924, f1925, f1926, f1927, f1928, f1929, f1930, f1931, f1932⟩ := hQ1885
            have N1933 := Fr.app N1884 N1911
            have O1934 := O1880.keep k1912 (allS ge1727 (allS ge1731 all0))
            have f1936 := (Exa.keep f1886 k1912)
            have f1937 := (Fld.keep f1887 k1912 (ninS ne1728 (ninS ne1732 nin0)))
            have f1938 := (Fld.keep f1888 k1912 (ninS ne1728 (ninS ne1732 nin0)))
            have f1939 := (Fld.keep f1889 k1912 (ninS ne1728 (ninS ne1732 nin0)))
            have f1940 := (Fld.keep f1890 k1912 (ninS ne1728 (ninS ne1732 nin0)))
            obtain ⟨cq1935, kq1935, q1935a, q1935b, q1935c⟩ := isOf hZ rfl f1936
            obtain ⟨_, _, ⟨T1935, L1935, k1935, n1935⟩, -, X1935, ⟨Lc1935, hQ1935, l1935, y1935, z1935⟩, st1935⟩ := X1885.virtualBack hx (y := (⟨"com/example/sluice/sluice/WaitRecorder", "intervalSnapshot", "(J)Lcom/example/sluice/sluice/WaitStatistics;"⟩ : MethodName)) (z := (⟨"com/example/sluice/sluice/WaitRecorder", "intervalSnapshot", "(J)Lcom/example/sluice/sluice/WaitStatistics;"⟩ : MethodName)) hown (mvT hZ (own_w hw 82 rfl)) (mvT hZ (own_w hw 83 rfl)) (notFace_of_selects (args := #[]) (mvT hZ (own_w hw 85 rfl))) (mvT hZ (own_w hw 85 rfl)) (mvT hZ (own_w hw 84 rfl)) (by decide) (backOf (W := 0) (rm_isnap l Z a0 hw [] b1676 lt x2 (own_fd nw x2) x1683 x1684 x1685 x1686 x1687 x1688 ((own_fd nw x2) * x2) ((((0 : Int64) + (1 : Int64)) + (1 : Int64)) + pc_) nw ((((0 : Int64) + (1 : Int64)) + (1 : Int64)) + pc_) wV kV vV T1885.heap n0 O1934 f1936 f1937 f1938 f1939 f1940 f1913 f1914 f1915 f1916 f1917 f1918 f1919 f1920 f1921 f1922 f1923 f1924 f1925 f1926 f1927 f1928 f1929 f1930 f1931 f1932 ge_b1676 ge1727 ge1731 ne1728 ne1730 ne1732 ne1734 f1695 f1696 f1697 f1698 f1699 f1700 S_V E_V A_V hlen c1802) hZ (own_w hw 86 rfl) (own_w hw 7 rfl) (by decide) (by decide)) q1935a q1935c (g := (mkF m 136 #[.val (.long raw), .second, .val (.long nw), .second, .val (.long lt), .second, .val (.long pc_), .second, .val (.int fl), .val (.long x2), .second, .val (.int (1 : Int32)), .val (.int (0 : Int32)), .val (.int (1 : Int32)), .val (.ref b1676), .val (.long lt), .second, .val (.long (((0 : Int64) + (1 : Int64)) + (1 : Int64))), .second, .unset, .unset, .unset, .unset, .unset, .unset, .unset, .unset, .unset, .unset, .unset] [(.long lt), (.ref b1676)])) rfl (by rw [hml]; rfl) (Steps.refl _) (argsL := [(.long lt)]) (rest := []) (lenOf pd_7 rfl) rfl (by show 2 * 0 + _ ≤ _; exact Nat.le_of_eq rfl) (hb hby at_136) (fun _ _ => ⟨rfl, rfl, (by decide : 18 + 5 ≤ _), (by decide : 123 + 35 ≤ _)⟩)
            dsimp only [Pt.U, Pt.locs, Pt.cells, Pt.slots] at X1935 l1935 y1935 z1935 st1935 hQ1935
            subst l1935 y1935 z1935
            obtain ⟨x1941, rfl, N1942, k1943, f1944, f1945, f1946⟩ := hQ1935
            have N1947 := Fr.app N1933 N1942
            have ge1948 : n0 ≤ x1941 := by rw [← O1934.1]; exact Nat.le_trans O1934.2.1 f1944
            have ne1949 : b1676 ≠ x1941 := Nat.ne_of_lt (Nat.lt_of_lt_of_le (Exa.lt f1936) f1944)
            have ne1950 : x1683 ≠ x1941 := Nat.ne_of_lt (Nat.lt_of_lt_of_le (Exa.lt f1913) f1944)
            have ne1951 : x1684 ≠ x1941 := Nat.ne_of_lt (Nat.lt_of_lt_of_le (Exa.lt f1921) f1944)
            have ne1952 : x1686 ≠ x1941 := Nat.ne_of_lt (Nat.lt_of_lt_of_le (Exa.lt f1923) f1944)
            have ne1953 : x1687 ≠ x1941 := Nat.ne_of_lt (Nat.lt_of_lt_of_le (Exa.lt f1931) f1944)
            have f1954 := (Exa.keep f1871 k1912)
            have ne1955 : x1867 ≠ x1941 := Nat.ne_of_lt (Nat.lt_of_lt_of_le (Exa.lt f1954) f1944)
            have O1956 := O1934.keep k1943 all0
            obtain ⟨cq1957, kq1957, q1957a, q1957b, q1957c⟩ := isOf hZ rfl f1945
            obtain ⟨_, _, ⟨T1957, L1957, k1957, n1957⟩, -, X1957, ⟨Lc1957, hQ1957, l1957, y1957, z1957⟩, st1957⟩ := X1935.virtualBack hx (y := (⟨"com/example/sluice/sluice/WaitStatistics", "startedAtOnce", "()J"⟩ : MethodName)) (z := (⟨"com/example/sluice/sluice/WaitStatistics", "startedAtOnce", "()J"⟩ : MethodName)) hown (mvT hZ (own_w hw 124 rfl)) (mvT hZ (own_w hw 125 rfl)) (notFace_of_selects (args := #[]) (mvT hZ (own_w hw 127 rfl))) (mvT hZ (own_w hw 127 rfl)) (mvT hZ (own_w hw 126 rfl)) (by decide) (backOf (W := 0) (rm_get l Z a0 hw [] x1941 ((((0 : Int64) + (1 : Int64)) + (1 : Int64)) + pc_) T1935.heap n0 O1956 f1946) hZ (own_w hw 128 rfl) (own_w hw 94 rfl) (by decide) (by decide)) q1957a q1957c (g := (mkF m 139 #[.val (.long raw), .second, .val (.long nw), .second, .val (.long lt), .second, .val (.long pc_), .second, .val (.int fl), .val (.long x2), .second, .val (.int (1 : Int32)), .val (.int (0 : Int32)), .val (.int (1 : Int32)), .val (.ref b1676), .val (.long lt), .second, .val (.long (((0 : Int64) + (1 : Int64)) + (1 : Int64))), .second, .unset, .unset, .unset, .unset, .unset, .unset, .unset, .unset, .unset, .unset, .unset] [(.ref x1941)])) rfl (by rw [hml]; rfl) (Steps.refl _) (argsL := []) (rest := []) (lenOf pd_8 rfl) rfl (by show 2 * 0 + _ ≤ _; exact Nat.le_of_eq rfl) (hb hby at_139) (fun _ _ => ⟨rfl, rfl, (by decide : 23 + 0 ≤ _), (by decide : 158 + 0 ≤ _)⟩)
            dsimp only [Pt.U, Pt.locs, Pt.cells, Pt.slots] at X1957 l1957 y1957 z1957 st1957 hQ1957
            subst l1957 y1957 z1957
            obtain ⟨rfl, N1958, k1959⟩ := hQ1957
            have N1960 := Fr.app N1947 N1958
            have f1962 := (Exa.keep f1936 k1943)
            have f1963 := (Fld.keep f1940 k1943 nin0)
            have f1964 := (Exa.keep f1923 k1943)
            have f1965 := (Fld.keep f1924 k1943 nin0)
            have f1966 := (Fld.keep f1925 k1943 nin0)
            have f1967 := (Fld.keep f1926 k1943 nin0)
            have f1968 := (Fld.keep f1927 k1943 nin0)
            have f1969 := (Fld.keep f1928 k1943 nin0)
            have f1970 := (Fld.keep f1929 k1943 nin0)
            have f1971 := (Fld.keep f1930 k1943 nin0)
            have f1972 := (Exa.keep f1931 k1943)
            have f1973 := (Arv.keep f1932 k1943 nin0)
            obtain ⟨cq1961, kq1961, q1961a, q1961b, q1961c⟩ := isOf hZ k1959 f1962
            obtain ⟨_, _, ⟨T1961, L1961, k1961, n1961⟩, -, X1961, ⟨Lc1961, hQ1961, l1961, y1961, z1961⟩, st1961⟩ := X1957.virtualBack hx (y := (⟨"com/example/sluice/sluice/WaitRecorder", "sinceResetSnapshot", "()Lcom/example/sluice/sluice/WaitStatistics;"⟩ : MethodName)) (z := (⟨"com/example/sluice/sluice/WaitRecorder", "sinceResetSnapshot", "()Lcom/example/sluice/sluice/WaitStatistics;"⟩ : MethodName)) hown (mvT hZ (own_w hw 134 rfl)) (mvT hZ (own_w hw 135 rfl)) (notFace_of_selects (args := #[]) (mvT hZ (own_w hw 137 rfl))) (mvT hZ (own_w hw 137 rfl)) (mvT hZ (own_w hw 136 rfl)) (by decide) (backOf (W := 0) (rm_ssnap l Z a0 hw [] b1676 x1686 nw ((((0 : Int64) + (1 : Int64)) + (1 : Int64)) + pc_) x1687 x1688 T1935.heap n0 O1956 f1963 f1964 f1965 f1966 f1967 f1968 f1969 f1970 f1971 f1972 f1973) hZ (own_w hw 138 rfl) (own_w hw 7 rfl) (by decide) (by decide)) q1961a q1961c (g := (mkF m 146 #[.val (.long raw), .second, .val (.long nw), .second, .val (.long lt), .second, .val (.long pc_), .second, .val (.int fl), .val (.long x2), .second, .val (.int (1 : Int32)), .val (.int (0 : Int32)), .val (.int (1 : Int32)), .val (.ref b1676), .val (.long lt), .second, .val (.long (((0 : Int64) + (1 : Int64)) + (1 : Int64))), .second, .val (.long ((((0 : Int64) + (1 : Int64)) + (1 : Int64)) + pc_)), .second, .unset, .unset, .unset, .unset, .unset, .unset, .unset, .unset, .unset] [(.ref b1676)])) rfl (by rw [hml]; rfl) (Steps.refl _) (argsL := []) (rest := []) (lenOf pd_5 rfl) rfl (by show 2 * 0 + _ ≤ _; exact Nat.le_of_eq rfl) (hb hby at_146) (fun _ _ => ⟨rfl, k1959, (by decide : 23 + 2 ≤ _), (by decide : 158 + 14 ≤ _)⟩)
            dsimp only [Pt.U, Pt.locs, Pt.cells, Pt.slots] at X1961 l1961 y1961 z1961 st1961 hQ1961
            subst l1961 y1961 z1961
            obtain ⟨x1974, rfl, N1975, k1976, f1977, f1978, f1979⟩ := hQ1961
            have N1980 := Fr.app N1960 N1975
            have ge1981 : n0 ≤ x1974 := by rw [← O1956.1]; exact Nat.le_trans O1956.2.1 f1977
            have ne1982 : b1676 ≠ x1974 := Nat.ne_of_lt (Nat.lt_of_lt_of_le (Exa.lt f1962) f1977)
            have f1983 := (Exa.keep f1913 k1943)
            have ne1984 : x1683 ≠ x1974 := Nat.ne_of_lt (Nat.lt_of_lt_of_le (Exa.lt f1983) f1977)
            have f1985 := (Exa.keep f1921 k1943)
            have ne1986 : x1684 ≠ x1974 := Nat.ne_of_lt (Nat.lt_of_lt_of_le (Exa.lt f1985) f1977)
            have ne1987 : x1686 ≠ x1974 := Nat.ne_of_lt (Nat.lt_of_lt_of_le (Exa.lt f1964) f1977)
            have ne1988 : x1687 ≠ x1974 := Nat.ne_of_lt (Nat.lt_of_lt_of_le (Exa.lt f1972) f1977)
            have f1989 := (Exa.keep f1954 k1943)
            have ne1990 : x1867 ≠ x1974 := Nat.ne_of_lt (Nat.lt_of_lt_of_le (Exa.lt f1989) f1977)
            have ne1991 : x1941 ≠ x1974 := Nat.ne_of_lt (Nat.lt_of_lt_of_le (Exa.lt f1945) f1977)
            have O1992 := O1956.keep k1976 all0
            obtain ⟨cq1993, kq1993, q1993a, q1993b, q1993c⟩ := isOf hZ rfl f1978
            obtain ⟨_, _, ⟨T1993, L1993, k1993, n1993⟩, -, X1993, ⟨Lc1993, hQ1993, l1993, y1993, z1993⟩, st1993⟩ := X1961.virtualBack hx (y := (⟨"com/example/sluice/sluice/WaitStatistics", "startedAtOnce", "()J"⟩ : MethodName)) (z := (⟨"com/example/sluice/sluice/WaitStatistics", "startedAtOnce", "()J"⟩ : MethodName)) hown (mvT hZ (own_w hw 124 rfl)) (mvT hZ (own_w hw 125 rfl)) (notFace_of_selects (args := #[]) (mvT hZ (own_w hw 127 rfl))) (mvT hZ (own_w hw 127 rfl)) (mvT hZ (own_w hw 126 rfl)) (by decide) (backOf (W := 0) (rm_get l Z a0 hw [] x1974 ((((0 : Int64) + (1 : Int64)) + (1 : Int64)) + pc_) T1961.heap n0 O1992 f1979) hZ (own_w hw 128 rfl) (own_w hw 94 rfl) (by decide) (by decide)) q1993a q1993c (g := (mkF m 149 #[.val (.long raw), .second, .val (.long nw), .second, .val (.long lt), .second, .val (.long pc_), .second, .val (.int fl), .val (.long x2), .second, .val (.int (1 : Int32)), .val (.int (0 : Int32)), .val (.int (1 : Int32)), .val (.ref b1676), .val (.long lt), .second, .val (.long (((0 : Int64) + (1 : Int64)) + (1 : Int64))), .second, .val (.long ((((0 : Int64) + (1 : Int64)) + (1 : Int64)) + pc_)), .second, .unset, .unset, .unset, .unset, .unset, .unset, .unset, .unset, .unset] [(.ref x1974)])) rfl (by rw [hml]; rfl) (Steps.refl _) (argsL := []) (rest := []) (lenOf pd_8 rfl) rfl (by show 2 * 0 + _ ≤ _; exact Nat.le_of_eq rfl) (hb hby at_149) (fun _ _ => ⟨rfl, rfl, (by decide : 25 + 0 ≤ _), (by decide : 172 + 0 ≤ _)⟩)
            dsimp only [Pt.U, Pt.locs, Pt.cells, Pt.slots] at X1993 l1993 y1993 z1993 st1993 hQ1993
            subst l1993 y1993 z1993
            obtain ⟨rfl, N1994, k1995⟩ := hQ1993
            have N1996 := Fr.app N1980 N1994
            have S1997 : ∀ t, Steps p.tables e below (T1993.setTop (mkF m 271 #[.val (.long raw), .second, .val (.long nw), .second, .val (.long lt), .second, .val (.long pc_), .second, .val (.int fl), .val (.long x2), .second, .val (.int (1 : Int32)), .val (.int (0 : Int32)), .val (.int (1 : Int32)), .val (.ref b1676), .val (.long lt), .second, .val (.long (((0 : Int64) + (1 : Int64)) + (1 : Int64))), .second, .val (.long ((((0 : Int64) + (1 : Int64)) + (1 : Int64)) + pc_)), .second, .val (.long ((((0 : Int64) + (1 : Int64)) + (1 : Int64)) + pc_)), .second, .val (.long (1 : Int64)), .second, .val (.long (1 : Int64)), .second, .val (.int (1 : Int32)), .val (.long ((2 : Int64) + pc_)), .second] [(.int (1 : Int32))])) t → Steps p.tables e below (s₁.setTop (mkF m 0 #[.val (.long raw), .second, .val (.long nw), .second, .val (.long lt), .second, .val (.long pc_), .second, .val (.int fl), .unset, .unset, .unset, .unset, .unset, .unset, .unset, .unset, .unset, .unset, .unset, .unset, .unset, .unset, .unset, .unset, .unset, .unset, .unset, .unset, .unset] [])) t := by
              intro t kt
              refine S1417 t ?_
              refine XS.ifNo X1.here hx rfl (hb hby at_43) rfl ((if0 _ _).trans (feq (c1418 : ¬ ((fl &&& (4 : Int32)) = (0 : Int32)))).1) ?_
              refine XS.iconst X1.here hx rfl (hb hby at_46) ?_
              refine XS.goto X1.here hx rfl (pc0 := 47) (pc' := 51) rfl (hb hby at_47) (by decide) (by decide) ?_
              refine XS.istore X1.here hx rfl (hb hby at_51) rfl (l' := #[.val (.long raw), .second, .val (.long nw), .second, .val (.long lt), .second, .val (.long pc_), .second, .val (.int fl), .val (.long x2), .second, .val (.int (1 : Int32)), .val (.int (0 : Int32)), .val (.int (1 : Int32)), .unset, .unset, .unset, .unset, .unset, .unset, .unset, .unset, .unset, .unset, .unset, .unset, .unset, .unset, .unset, .unset]) rfl ?_
              show Steps p.tables e below (T1.setTop (mkF m 53 #[.val (.long raw), .second, .val (.long nw), .second, .val (.long lt), .second, .val (.long pc_), .second, .val (.int fl), .val (.long x2), .second, .val (.int (1 : Int32)), .val (.int (0 : Int32)), .val (.int (1 : Int32)), .unset, .unset, .unset, .unset, .unset, .unset, .unset, .unset, .unset, .unset, .unset, .unset, .unset, .unset, .unset, .unset] [])) _
              refine st1676 _ ?_
              refine XS.dup X1676.here hx rfl (hb hby at_56) rfl rfl ?_
              refine XS.lload X1676.here hx rfl (hb hby at_57) rfl ?_
              refine XS.lloadN X1676.here hx rfl (hb hby at_59) rfl ?_
              show Steps p.tables e below (T1676.setTop (mkF m 60 #[.val (.long raw), .second, .val (.long nw), .second, .val (.long lt), .second, .val (.long pc_), .second, .val (.int fl), .val (.long x2), .second, .val (.int (1 : Int32)), .val (.int (0 : Int32)), .val (.int (1 : Int32)), .unset, .unset, .unset, .unset, .unset, .unset, .unset, .unset, .unset, .unset, .unset, .unset, .unset, .unset, .unset, .unset] [(.long nw), (.long x2), (.ref b1676), (.ref b1676)])) _
              refine st1682.trans ?_
              refine XS.astore X1682.here hx rfl (hb hby at_63) rfl rfl (l' := #[.val (.long raw), .second, .val (.long nw), .second, .val (.long lt), .second, .val (.long pc_), .second, .val (.int fl), .val (.long x2), .second, .val (.int (1 : Int32)), .val (.int (0 : Int32)), .val (.int (1 : Int32)), .val (.ref b1676), .unset, .unset, .unset, .unset, .unset, .unset, .unset, .unset, .unset, .unset, .unset, .unset, .unset, .unset, .unset]) rfl ?_
              refine XS.iload X1682.here hx rfl (hb hby at_65) rfl ?_
              refine XS.ifNo X1682.here hx rfl (hb hby at_67) rfl ((if0 _ _).trans (feq ((by decide) : ¬ ((1 : Int32) = (0 : Int32)))).1) ?_
              refine XS.aload X1682.here hx rfl (hb hby at_70) rfl rfl ?_
              refine XS.lloadN X1682.here hx rfl (hb hby at_72) rfl ?_
              show Steps p.tables e below (T1682.setTop (mkF m 73 #[.val (.long raw), .second, .val (.long nw), .second, .val (.long lt), .second, .val (.long pc_), .second, .val (.int fl), .val (.long x2), .second, .val (.int (1 : Int32)), .val (.int (0 : Int32)), .val (.int (1 : Int32)), .val (.ref b1676), .unset, .unset, .unset, .unset, .unset, .unset, .unset, .unset, .unset, .unset, .unset, .unset, .unset, .unset, .unset] [(.long nw), (.ref b1676)])) _
              refine st1736.trans ?_
              refine XS.iload X1736.here hx rfl (hb hby at_76) rfl ?_
              refine XS.ifNo X1736.here hx rfl (hb hby at_78) rfl ((if0 _ _).trans (feq ((by decide) : ¬ ((1 : Int32) = (0 : Int32)))).1) ?_
              refine XS.aload X1736.here hx rfl (hb hby at_81) rfl rfl ?_
              refine XS.lload X1736.here hx rfl (hb hby at_83) rfl ?_
              show Steps p.tables e below (T1736.setTop (mkF m 85 #[.val (.long raw), .second, .val (.long nw), .second, .val (.long lt), .second, .val (.long pc_), .second, .val (.int fl), .val (.long x2), .second, .val (.int (1 : Int32)), .val (.int (0 : Int32)), .val (.int (1 : Int32)), .val (.ref b1676), .unset, .unset, .unset, .unset, .unset, .unset, .unset, .unset, .unset, .unset, .unset, .unset, .unset, .unset, .unset] [(.long lt), (.ref b1676)])) _
              refine st1801.trans ?_
              refine XS.iload X1801.here hx rfl (hb hby at_88) rfl ?_
              refine XS.ifYes X1801.here hx rfl (pc0 := 90) (pc' := 100) rfl (hb hby at_90) rfl ((if0 _ _).trans (teq ((by decide) : (0 : Int32) = (0 : Int32))).1) (by decide) (by decide) ?_
              refine XS.iload X1801.here hx rfl (hb hby at_100) rfl ?_
              refine XS.ifNo X1801.here hx rfl (hb hby at_102) rfl ((if0 _ _).trans (feq ((by decide) : ¬ ((1 : Int32) = (0 : Int32)))).1) ?_
              refine XS.lload X1801.here hx rfl (hb hby at_105) rfl ?_
              show Steps p.tables e below (T1801.setTop (mkF m 107 #[.val (.long raw), .second, .val (.long nw), .second, .val (.long lt), .second, .val (.long pc_), .second, .val (.int fl), .val (.long x2), .second, .val (.int (1 : Int32)), .val (.int (0 : Int32)), .val (.int (1 : Int32)), .val (.ref b1676), .unset, .unset, .unset, .unset, .unset, .unset, .unset, .unset, .unset, .unset, .unset, .unset, .unset, .unset, .unset] [(.long lt)])) _
              refine XS.goto X1801.here hx rfl (pc0 := 107) (pc' := 111) rfl (hb hby at_107) (by decide) (by decide) ?_
              refine XS.lstore X1801.here hx rfl (hb hby at_111) rfl (l' := #[.val (.long raw), .second, .val (.long nw), .second, .val (.long lt), .second, .val (.long pc_), .second, .val (.int fl), .val (.long x2), .second, .val (.int (1 : Int32)), .val (.int (0 : Int32)), .val (.int (1 : Int32)), .val (.ref b1676), .val (.long lt), .second, .unset, .unset, .unset, .unset, .unset, .unset, .unset, .unset, .unset, .unset, .unset, .unset, .unset]) rfl ?_
              refine XS.aload X1801.here hx rfl (hb hby at_113) rfl rfl ?_
              refine XS.lload X1801.here hx rfl (hb hby at_115) rfl ?_
              show Steps p.tables e below (T1801.setTop (mkF m 117 #[.val (.long raw), .second, .val (.long nw), .second, .val (.long lt), .second, .val (.long pc_), .second, .val (.int fl), .val (.long x2), .second, .val (.int (1 : Int32)), .val (.int (0 : Int32)), .val (.int (1 : Int32)), .val (.ref b1676), .val (.long lt), .second, .unset, .unset, .unset, .unset, .unset, .unset, .unset, .unset, .unset, .unset, .unset, .unset, .unset] [(.long lt), (.ref b1676)])) _
              refine st1866.trans ?_
              show Steps p.tables e below (T1866.setTop (mkF m 120 #[.val (.long raw), .second, .val (.long nw), .second, .val (.long lt), .second, .val (.long pc_), .second, .val (.int fl), .val (.long x2), .second, .val (.int (1 : Int32)), .val (.int (0 : Int32)), .val (.int (1 : Int32)), .val (.ref b1676), .val (.long lt), .second, .unset, .unset, .unset, .unset, .unset, .unset, .unset, .unset, .unset, .unset, .unset, .unset, .unset] [(.ref x1867)])) _
              refine st1881.trans ?_
              refine XS.lstore X1881.here hx rfl (hb hby at_123) rfl (l' := #[.val (.long raw), .second, .val (.long nw), .second, .val (.long lt), .second, .val (.long pc_), .second, .val (.int fl), .val (.long x2), .second, .val (.int (1 : Int32)), .val (.int (0 : Int32)), .val (.int (1 : Int32)), .val (.ref b1676), .val (.long lt), .second, .val (.long (((0 : Int64) + (1 : Int64)) + (1 : Int64))), .second, .unset, .unset, .unset, .unset, .unset, .unset, .unset, .unset, .unset, .unset, .unset]) rfl ?_
              refine XS.aload X1881.here hx rfl (hb hby at_125) rfl rfl ?_
              refine XS.lload X1881.here hx rfl (hb hby at_127) rfl ?_
              show Steps p.tables e below (T1881.setTop (mkF m 129 #[.val (.long raw), .second, .val (.long nw), .second, .val (.long lt), .second, .val (.long pc_), .second, .val (.int fl), .val (.long x2), .second, .val (.int (1 : Int32)), .val (.int (0 : Int32)), .val (.int (1 : Int32)), .val (.ref b1676), .val (.long lt), .second, .val (.long (((0 : Int64) + (1 : Int64)) + (1 : Int64))), .second, .unset, .unset, .unset, .unset, .unset, .unset, .unset, .unset, .unset, .unset, .unset] [(.long pc_), (.ref b1676)])) _
              refine st1885.trans ?_
              refine XS.aload X1885.here hx rfl (hb hby at_132) rfl rfl ?_
              refine XS.lload X1885.here hx rfl (hb hby at_134) rfl ?_
              show Steps p.tables e below (T1885.setTop (mkF m 136 #[.val (.long raw), .second, .val (.long nw), .second, .val (.long lt), .second, .val (.long pc_), .second, .val (.int fl), .val (.long x2), .second, .val (.int (1 : Int32)), .val (.int (0 : Int32)), .val (.int (1 : Int32)), .val (.ref b1676), .val (.long lt), .second, .val (.long (((0 : Int64) + (1 : Int64)) + (1 : Int64))), .second, .unset, .unset, .unset, .unset, .unset, .unset, .unset, .unset, .unset, .unset, .unset] [(.long lt), (.ref b1676)])) _
              refine st1935.trans ?_
              show Steps p.tables e below (T1935.setTop (mkF m 139 #[.val (.long raw), .second, .val (.long nw), .second, .val (.long lt), .second, .val (.long pc_), .second, .val (.int fl), .val (.long x2), .second, .val (.int (1 : Int32)), .val (.int (0 : Int32)), .val (.int (1 : Int32)), .val (.ref b1676), .val (.long lt), .second, .val (.long (((0 : Int64) + (1 : Int64)) + (1 : Int64))), .second, .unset, .unset, .unset, .unset, .unset, .unset, .unset, .unset, .unset, .unset, .unset] [(.ref x1941)])) _
              refine st1957.trans ?_
              refine XS.lstore X1957.here hx rfl (hb hby at_142) rfl (l' := #[.val (.long raw), .second, .val (.long nw), .second, .val (.long lt), .second, .val (.long pc_), .second, .val (.int fl), .val (.long x2), .second, .val (.int (1 : Int32)), .val (.int (0 : Int32)), .val (.int (1 : Int32)), .val (.ref b1676), .val (.long lt), .second, .val (.long (((0 : Int64) + (1 : Int64)) + (1 : Int64))), .second, .val (.long ((((0 : Int64) + (1 : Int64)) + (1 : Int64)) + pc_)), .second, .unset, .unset, .unset, .unset, .unset, .unset, .unset, .unset, .unset]) rfl ?_
              refine XS.aload X1957.here hx rfl (hb hby at_144) rfl rfl ?_
              show Steps p.tables e below (T1957.setTop (mkF m 146 #[.val (.long raw), .second, .val (.long nw), .second, .val (.long lt), .second, .val (.long pc_), .second, .val (.int fl), .val (.long x2), .second, .val (.int (1 : Int32)), .val (.int (0 : Int32)), .val (.int (1 : Int32)), .val (.ref b1676), .val (.long lt), .second, .val (.long (((0 : Int64) + (1 : Int64)) + (1 : Int64))), .second, .val (.long ((((0 : Int64) + (1 : Int64)) + (1 : Int64)) + pc_)), .second, .unset, .unset, .unset, .unset, .unset, .unset, .unset, .unset, .unset] [(.ref b1676)])) _
              refine st1961.trans ?_
              show Steps p.tables e below (T1961.setTop (mkF m 149 #[.val (.long raw), .second, .val (.long nw), .second, .val (.long lt), .second, .val (.long pc_), .second, .val (.int fl), .val (.long x2), .second, .val (.int (1 : Int32)), .val (.int (0 : Int32)), .val (.int (1 : Int32)), .val (.ref b1676), .val (.long lt), .second, .val (.long (((0 : Int64) + (1 : Int64)) + (1 : Int64))), .second, .val (.long ((((0 : Int64) + (1 : Int64)) + (1 : Int64)) + pc_)), .second, .unset, .unset, .unset, .unset, .unset, .unset, .unset, .unset, .unset] [(.ref x1974)])) _
              refine st1993.trans ?_
              refine XS.lstore X1993.here hx rfl (hb hby at_152) rfl (l' := #[.val (.long raw), .second, .val (.long nw), .second, .val (.long lt), .second, .val (.long pc_), .second, .val (.int fl), .val (.long x2), .second, .val (.int (1 : Int32)), .val (.int (0 : Int32)), .val (.int (1 : Int32)), .val (.ref b1676), .val (.long lt), .second, .val (.long (((0 : Int64) + (1 : Int64)) + (1 : Int64))), .second, .val (.long ((((0 : Int64) + (1 : Int64)) + (1 : Int64)) + pc_)), .second, .val (.long ((((0 : Int64) + (1 : Int64)) + (1 : Int64)) + pc_)), .second, .unset, .unset, .unset, .unset, .unset, .unset, .unset]) rfl ?_
              refine XS.iload X1993.here hx rfl (hb hby at_154) rfl ?_
              refine XS.ifNo X1993.here hx rfl (hb hby at_156) rfl ((if0 _ _).trans (feq ((by decide) : ¬ ((1 : Int32) = (0 : Int32)))).1) ?_
              refine XS.lconst X1993.here hx rfl (hb hby at_159) ?_
              refine XS.goto X1993.here hx rfl (pc0 := 160) (pc' := 164) rfl (hb hby at_160) (by decide) (by decide) ?_
              show Steps p.tables e below (T1993.setTop (mkF m 164 #[.val (.long raw), .second, .val (.long nw), .second, .val (.long lt), .second, .val (.long pc_), .second, .val (.int fl), .val (.long x2), .second, .val (.int (1 : Int32)), .val (.int (0 : Int32)), .val (.int (1 : Int32)), .val (.ref b1676), .val (.long lt), .second, .val (.long (((0 : Int64) + (1 : Int64)) + (1 : Int64))), .second, .val (.long ((((0 : Int64) + (1 : Int64)) + (1 : Int64)) + pc_)), .second, .val (.long ((((0 : Int64) + (1 : Int64)) + (1 : Int64)) + pc_)), .second, .unset, .unset, .unset, .unset, .unset, .unset, .unset] [(.long (1 : Int64))])) _
              refine XS.lstore X1993.here hx rfl (hb hby at_164) rfl (l' := #[.val (.long raw), .second, .val (.long nw), .second, .val (.long lt), .second, .val (.long pc_), .second, .val (.int fl), .val (.long x2), .second, .val (.int (1 : Int32)), .val (.int (0 : Int32)), .val (.int (1 : Int32)), .val (.ref b1676), .val (.long lt), .second, .val (.long (((0 : Int64) + (1 : Int64)) + (1 : Int64))), .second, .val (.long ((((0 : Int64) + (1 : Int64)) + (1 : Int64)) + pc_)), .second, .val (.long ((((0 : Int64) + (1 : Int64)) + (1 : Int64)) + pc_)), .second, .val (.long (1 : Int64)), .second, .unset, .unset, .unset, .unset, .unset]) rfl ?_
              refine XS.iload X1993.here hx rfl (hb hby at_166) rfl ?_
              refine XS.ifNo X1993.here hx rfl (hb hby at_168) rfl ((if0 _ _).trans (feq ((by decide) : ¬ ((1 : Int32) = (0 : Int32)))).1) ?_
              refine XS.lconst X1993.here hx rfl (hb hby at_171) ?_
              refine XS.goto X1993.here hx rfl (pc0 := 172) (pc' := 176) rfl (hb hby at_172) (by decide) (by decide) ?_
              refine XS.lstore X1993.here hx rfl (hb hby at_176) rfl (l' := #[.val (.long raw), .second, .val (.long nw), .second, .val (.long lt), .second, .val (.long pc_), .second, .val (.int fl), .val (.long x2), .second, .val (.int (1 : Int32)), .val (.int (0 : Int32)), .val (.int (1 : Int32)), .val (.ref b1676), .val (.long lt), .second, .val (.long (((0 : Int64) + (1 : Int64)) + (1 : Int64))), .second, .val (.long ((((0 : Int64) + (1 : Int64)) + (1 : Int64)) + pc_)), .second, .val (.long ((((0 : Int64) + (1 : Int64)) + (1 : Int64)) + pc_)), .second, .val (.long (1 : Int64)), .second, .val (.long (1 : Int64)), .second, .unset, .unset, .unset]) rfl ?_
              show Steps p.tables e below (T1993.setTop (mkF m 178 #[.val (.long raw), .second, .val (.long nw), .second, .val (.long lt), .second, .val (.long pc_), .second, .val (.int fl), .val (.long x2), .second, .val (.int (1 : Int32)), .val (.int (0 : Int32)), .val (.int (1 : Int32)), .val (.ref b1676), .val (.long lt), .second, .val (.long (((0 : Int64) + (1 : Int64)) + (1 : Int64))), .second, .val (.long ((((0 : Int64) + (1 : Int64)) + (1 : Int64)) + pc_)), .second, .val (.long ((((0 : Int64) + (1 : Int64)) + (1 : Int64)) + pc_)), .second, .val (.long (1 : Int64)), .second, .val (.long (1 : Int64)), .second, .unset, .unset, .unset] [])) _
              refine XS.iload X1993.here hx rfl (hb hby at_178) rfl ?_
              refine XS.ifNo X1993.here hx rfl (hb hby at_180) rfl ((if0 _ _).trans (feq ((by decide) : ¬ ((1 : Int32) = (0 : Int32)))).1) ?_
              refine XS.lload X1993.here hx rfl (hb hby at_183) rfl ?_
              refine XS.lconst X1993.here hx rfl (hb hby at_185) ?_
              refine XS.lcmp X1993.here hx rfl (hb hby at_186) rfl ?_
              refine XS.ifNo X1993.here hx rfl (hb hby at_187) rfl ((if0 _ _).trans (feq (fun q => ((by decide) : ¬ ((((0 : Int64) + (1 : Int64)) + (1 : Int64)) = (1 : Int64))) ((lw_eq (((0 : Int64) + (1 : Int64)) + (1 : Int64)) (1 : Int64)).mp q) : ¬ ((lcmpW (((0 : Int64) + (1 : Int64)) + (1 : Int64)) (1 : Int64)) = (0 : Int32)))).1) ?_
              show Steps p.tables e below (T1993.setTop (mkF m 190 #[.val (.long raw), .second, .val (.long nw), .second, .val (.long lt), .second, .val (.long pc_), .second, .val (.int fl), .val (.long x2), .second, .val (.int (1 : Int32)), .val (.int (0 : Int32)), .val (.int (1 : Int32)), .val (.ref b1676), .val (.long lt), .second, .val (.long (((0 : Int64) + (1 : Int64)) + (1 : Int64))), .second, .val (.long ((((0 : Int64) + (1 : Int64)) + (1 : Int64)) + pc_)), .second, .val (.long ((((0 : Int64) + (1 : Int64)) + (1 : Int64)) + pc_)), .second, .val (.long (1 : Int64)), .second, .val (.long (1 : Int64)), .second, .unset, .unset, .unset] [])) _
              refine XS.lload X1993.here hx rfl (hb hby at_190) rfl ?_
              refine XS.lconst X1993.here hx rfl (hb hby at_192) ?_
              refine XS.lload X1993.here hx rfl (hb hby at_193) rfl ?_
              refine XS.ladd X1993.here hx rfl (hb hby at_195) rfl ?_
              refine XS.lcmp X1993.here hx rfl (hb hby at_196) rfl ?_
              refine XS.ifNo X1993.here hx rfl (hb hby at_197) rfl ((if0 _ _).trans (teq ((lw_eq (((0 : Int64) + (1 : Int64)) + (1 : Int64)) (2 : Int64)).mpr ((by decide) : (((0 : Int64) + (1 : Int64)) + (1 : Int64)) = (2 : Int64)) : (lcmpW (((0 : Int64) + (1 : Int64)) + (1 : Int64)) (2 : Int64)) = (0 : Int32))).2) ?_
              show Steps p.tables e below (T1993.setTop (mkF m 200 #[.val (.long raw), .second, .val (.long nw), .second, .val (.long lt), .second, .val (.long pc_), .second, .val (.int fl), .val (.long x2), .second, .val (.int (1 : Int32)), .val (.int (0 : Int32)), .val (.int (1 : Int32)), .val (.ref b1676), .val (.long lt), .second, .val (.long (((0 : Int64) + (1 : Int64)) + (1 : Int64))), .second, .val (.long ((((0 : Int64) + (1 : Int64)) + (1 : Int64)) + pc_)), .second, .val (.long ((((0 : Int64) + (1 : Int64)) + (1 : Int64)) + pc_)), .second, .val (.long (1 : Int64)), .second, .val (.long (1 : Int64)), .second, .unset, .unset, .unset] [])) _
              refine XS.iconst X1993.here hx rfl (hb hby at_200) ?_
              refine XS.goto X1993.here hx rfl (pc0 := 201) (pc' := 221) rfl (hb hby at_201) (by decide) (by decide) ?_
              refine XS.istore X1993.here hx rfl (hb hby at_221) rfl (l' := #[.val (.long raw), .second, .val (.long nw), .second, .val (.long lt), .second, .val (.long pc_), .second, .val (.int fl), .val (.long x2), .second, .val (.int (1 : Int32)), .val (.int (0 : Int32)), .val (.int (1 : Int32)), .val (.ref b1676), .val (.long lt), .second, .val (.long (((0 : Int64) + (1 : Int64)) + (1 : Int64))), .second, .val (.long ((((0 : Int64) + (1 : Int64)) + (1 : Int64)) + pc_)), .second, .val (.long ((((0 : Int64) + (1 : Int64)) + (1 : Int64)) + pc_)), .second, .val (.long (1 : Int64)), .second, .val (.long (1 : Int64)), .second, .val (.int (1 : Int32)), .unset, .unset]) rfl ?_
              refine XS.iload X1993.here hx rfl (hb hby at_223) rfl ?_
              refine XS.ifYes X1993.here hx rfl (pc0 := 225) (pc' := 232) rfl (hb hby at_225) rfl ((if0 _ _).trans (teq ((by decide) : (0 : Int32) = (0 : Int32))).1) (by decide) (by decide) ?_
              refine XS.lload X1993.here hx rfl (hb hby at_232) rfl ?_
              show Steps p.tables e below (T1993.setTop (mkF m 234 #[.val (.long raw), .second, .val (.long nw), .second, .val (.long lt), .second, .val (.long pc_), .second, .val (.int fl), .val (.long x2), .second, .val (.int (1 : Int32)), .val (.int (0 : Int32)), .val (.int (1 : Int32)), .val (.ref b1676), .val (.long lt), .second, .val (.long (((0 : Int64) + (1 : Int64)) + (1 : Int64))), .second, .val (.long ((((0 : Int64) + (1 : Int64)) + (1 : Int64)) + pc_)), .second, .val (.long ((((0 : Int64) + (1 : Int64)) + (1 : Int64)) + pc_)), .second, .val (.long (1 : Int64)), .second, .val (.long (1 : Int64)), .second, .val (.int (1 : Int32)), .unset, .unset] [(.long (1 : Int64))])) _
              refine XS.lload X1993.here hx rfl (hb hby at_234) rfl ?_
              refine XS.ladd X1993.here hx rfl (hb hby at_236) rfl ?_
              refine XS.lload X1993.here hx rfl (hb hby at_237) rfl ?_
              refine XS.ladd X1993.here hx rfl (hb hby at_239) rfl ?_
              refine XS.lstore X1993.here hx rfl (hb hby at_240) rfl (l' := #[.val (.long raw), .second, .val (.long nw), .second, .val (.long lt), .second, .val (.long pc_), .second, .val (.int fl), .val (.long x2), .second, .val (.int (1 : Int32)), .val (.int (0 : Int32)), .val (.int (1 : Int32)), .val (.ref b1676), .val (.long lt), .second, .val (.long (((0 : Int64) + (1 : Int64)) + (1 : Int64))), .second, .val (.long ((((0 : Int64) + (1 : Int64)) + (1 : Int64)) + pc_)), .second, .val (.long ((((0 : Int64) + (1 : Int64)) + (1 : Int64)) + pc_)), .second, .val (.long (1 : Int64)), .second, .val (.long (1 : Int64)), .second, .val (.int (1 : Int32)), .val (.long ((2 : Int64) + pc_)), .second]) rfl ?_
              refine XS.iload X1993.here hx rfl (hb hby at_242) rfl ?_
              show Steps p.tables e below (T1993.setTop (mkF m 244 #[.val (.long raw), .second, .val (.long nw), .second, .val (.long lt), .second, .val (.long pc_), .second, .val (.int fl), .val (.long x2), .second, .val (.int (1 : Int32)), .val (.int (0 : Int32)), .val (.int (1 : Int32)), .val (.ref b1676), .val (.long lt), .second, .val (.long (((0 : Int64) + (1 : Int64)) + (1 : Int64))), .second, .val (.long ((((0 : Int64) + (1 : Int64)) + (1 : Int64)) + pc_)), .second, .val (.long ((((0 : Int64) + (1 : Int64)) + (1 : Int64)) + pc_)), .second, .val (.long (1 : Int64)), .second, .val (.long (1 : Int64)), .second, .val (.int (1 : Int32)), .val (.long ((2 : Int64) + pc_)), .second] [(.int (1 : Int32))])) _
              refine XS.ifNo X1993.here hx rfl (hb hby at_244) rfl ((if0 _ _).trans (feq ((by decide) : ¬ ((1 : Int32) = (0 : Int32)))).1) ?_
              refine XS.lload X1993.here hx rfl (hb hby at_247) rfl ?_
              refine XS.lload X1993.here hx rfl (hb hby at_249) rfl ?_
              refine XS.lload X1993.here hx rfl (hb hby at_251) rfl ?_
              refine XS.ladd X1993.here hx rfl (hb hby at_253) rfl ?_
              refine XS.lcmp X1993.here hx rfl (hb hby at_254) rfl ?_
              show Steps p.tables e below (T1993.setTop (mkF m 255 #[.val (.long raw), .second, .val (.long nw), .second, .val (.long lt), .second, .val (.long pc_), .second, .val (.int fl), .val (.long x2), .second, .val (.int (1 : Int32)), .val (.int (0 : Int32)), .val (.int (1 : Int32)), .val (.ref b1676), .val (.long lt), .second, .val (.long (((0 : Int64) + (1 : Int64)) + (1 : Int64))), .second, .val (.long ((((0 : Int64) + (1 : Int64)) + (1 : Int64)) + pc_)), .second, .val (.long ((((0 : Int64) + (1 : Int64)) + (1 : Int64)) + pc_)), .second, .val (.long (1 : Int64)), .second, .val (.long (1 : Int64)), .second, .val (.int (1 : Int32)), .val (.long ((2 : Int64) + pc_)), .second] [(.int (lcmpW ((((0 : Int64) + (1 : Int64)) + (1 : Int64)) + pc_) ((((0 : Int64) + (1 : Int64)) + (1 : Int64)) + pc_)))])) _
              refine XS.ifNo X1993.here hx rfl (hb hby at_255) rfl ((if0 _ _).trans (teq ((lw_eq ((((0 : Int64) + (1 : Int64)) + (1 : Int64)) + pc_) ((((0 : Int64) + (1 : Int64)) + (1 : Int64)) + pc_)).mpr (rfl : ((((0 : Int64) + (1 : Int64)) + (1 : Int64)) + pc_) = ((((0 : Int64) + (1 : Int64)) + (1 : Int64)) + pc_)) : (lcmpW ((((0 : Int64) + (1 : Int64)) + (1 : Int64)) + pc_) ((((0 : Int64) + (1 : Int64)) + (1 : Int64)) + pc_)) = (0 : Int32))).2) ?_
              refine XS.lload X1993.here hx rfl (hb hby at_258) rfl ?_
              refine XS.lload X1993.here hx rfl (hb hby at_260) rfl ?_
              refine XS.lcmp X1993.here hx rfl (hb hby at_262) rfl ?_
              refine XS.ifNo X1993.here hx rfl (hb hby at_263) rfl ((if0 _ _).trans (teq ((lw_eq ((((0 : Int64) + (1 : Int64)) + (1 : Int64)) + pc_) ((2 : Int64) + pc_)).mpr ((congrArg (· + pc_) (by decide : (((0 : Int64) + (1 : Int64)) + (1 : Int64)) = (2 : Int64))) : ((((0 : Int64) + (1 : Int64)) + (1 : Int64)) + pc_) = ((2 : Int64) + pc_)) : (lcmpW ((((0 : Int64) + (1 : Int64)) + (1 : Int64)) + pc_) ((2 : Int64) + pc_)) = (0 : Int32))).2) ?_
              refine XS.iconst X1993.here hx rfl (hb hby at_266) ?_
              show Steps p.tables e below (T1993.setTop (mkF m 267 #[.val (.long raw), .second, .val (.long nw), .second, .val (.long lt), .second, .val (.long pc_), .second, .val (.int fl), .val (.long x2), .second, .val (.int (1 : Int32)), .val (.int (0 : Int32)), .val (.int (1 : Int32)), .val (.ref b1676), .val (.long lt), .second, .val (.long (((0 : Int64) + (1 : Int64)) + (1 : Int64))), .second, .val (.long ((((0 : Int64) + (1 : Int64)) + (1 : Int64)) + pc_)), .second, .val (.long ((((0 : Int64) + (1 : Int64)) + (1 : Int64)) + pc_)), .second, .val (.long (1 : Int64)), .second, .val (.long (1 : Int64)), .second, .val (.int (1 : Int32)), .val (.long ((2 : Int64) + pc_)), .second] [(.int (1 : Int32))])) _
              refine XS.goto X1993.here hx rfl (pc0 := 267) (pc' := 271) rfl (hb hby at_267) (by decide) (by decide) ?_
              exact kt
            obtain ⟨fs, hr, hrun, hended, hW, hsame⟩ := X1993.leave (v := some (.int (1 : Int32))) (fun h => by rw [Bd.returns] at h; cases h)
            refine ⟨_, _, pre0 _ (S1997 _ ?_), hrun, hended, _, _, rfl, ?_, ⟨_, rfl⟩, hW, hsame.mono (by decide) (by decide)⟩
            · exact retN X1993 hx (t := .boolean) Bd.returns (by simp) (hb hby at_271) hr
            · show Q_rm_law Z raw nw lt pc_ fl wV kV vV h0 n0 _ T1993.heap _
              rw [k1995]
              exact ⟨rfl, N1996⟩
          · have N1998 := Fr.app N1799 N1834
            have ge1999 : n0 ≤ x1830 := by rw [← O1800.1]; exact Nat.le_trans O1800.2.1 f1836
            have ne2000 : b1676 ≠ x1830 := Nat.ne_of_lt (Nat.lt_of_lt_of_le (Exa.lt f1740) f1836)
            have ne2001 : x1683 ≠ x1830 := Nat.ne_of_lt (Nat.lt_of_lt_of_le (Exa.lt f1745) f1836)
            have ne2002 : x1684 ≠ x1830 := Nat.ne_of_lt (Nat.lt_of_lt_of_le (Exa.lt f1753) f1836)
            have ne2003 : x1686 ≠ x1830 := Nat.ne_of_lt (Nat.lt_of_lt_of_le (Exa.lt f1755) f1836)
            have ne2004 : x1687 ≠ x1830 := Nat.ne_of_lt (Nat.lt_of_lt_of_le (Exa.lt f1763) f1836)
            have ge2005 : n0 ≤ x1831 := by rw [← O1800.1]; exact Nat.le_trans O1800.2.1 f1837
            have ne2006 : b1676 ≠ x1831 := Nat.ne_of_lt (Nat.lt_of_lt_of_le (Exa.lt f1740) f1837)
            have ne2007 : x1683 ≠ x1831 := Nat.ne_of_lt (Nat.lt_of_lt_of_le (Exa.lt f1745) f1837)
            have ne2008 : x1684 ≠ x1831 := Nat.ne_of_lt (Nat.lt_of_lt_of_le (Exa.lt f1753) f1837)
            have ne2009 : x1686 ≠ x1831 := Nat.ne_of_lt (Nat.lt_of_lt_of_le (Exa.lt f1755) f1837)
            have ne2010 : x1687 ≠ x1831 := Nat.ne_of_lt (Nat.lt_of_lt_of_le (Exa.lt f1763) f1837)
            have O2011 := O1800.keep k1835 (allS ge_b1676 (allS ge1727 (allS ge1731 all0)))
            obtain ⟨cq2012, kq2012, q2012a, q2012b, q2012c⟩ := isOf hZ rfl f1839
            obtain ⟨_, _, ⟨T2012, L2012, k2012, n2012⟩, -, X2012, ⟨Lc2012, hQ2012, l2012, y2012, z2012⟩, st2012⟩ := X1801.virtualBack hx (y := (⟨"com/example/sluice/sluice/WaitRecorder", "intervalSnapshot", "(J)Lcom/example/sluice/sluice/WaitStatistics;"⟩ : MethodName)) (z := (⟨"com/example/sluice/sluice/WaitRecorder", "intervalSnapshot", "(J)Lcom/example/sluice/sluice/WaitStatistics;"⟩ : MethodName)) hown (mvT hZ (own_w hw 82 rfl)) (mvT hZ (own_w hw 83 rfl)) (notFace_of_selects (args := #[]) (mvT hZ (own_w hw 85 rfl))) (mvT hZ (own_w hw 85 rfl)) (mvT hZ (own_w hw 84 rfl)) (by decide) (backOf (W := 0) (rm_isnap l Z a0 hw [] b1676 lt x2 (own_fd lt x2) x1830 x1831 x1832 x1686 x1687 x1688 ((own_fd lt x2) * x2) ((0 : Int64) + (1 : Int64)) nw (((0 : Int64) + (1 : Int64)) + (1 : Int64)) wV kV vV T1801.heap n0 O2011 f1839 f1840 f1841 f1842 f1843 f1844 f1845 f1846 f1847 f1848 f1849 f1850 f1851 f1852 f1853 f1854 f1855 f1856 f1857 f1858 f1859 f1860 f1861 f1862 f1863 ge_b1676 ge1999 ge1731 ne2000 ne2006 ne1732 ne1734 f1838 (Ne.symm ne2003) (Ne.symm ne2004) (Ne.symm ne2009) (Ne.symm ne2010) f1700 S_V E_V A_V hlen rfl) hZ (own_w hw 86 rfl) (own_w hw 7 rfl) (by decide) (by decide)) q2012a q2012c (g := (mkF m 117 #[.val (.long raw), .second, .val (.long nw), .second, .val (.long lt), .second, .val (.long pc_), .second, .val (.int fl), .val (.long x2), .second, .val (.int (1 : Int32)), .val (.int (0 : Int32)), .val (.int (1 : Int32)), .val (.ref b1676), .val (.long lt), .second, .unset, .unset, .unset, .unset, .unset, .unset, .unset, .unset, .unset, .unset, .unset, .unset, .unset] [(.long lt), (.ref b1676)])) rfl (by rw [hml]; rfl) (Steps.refl _) (argsL := [(.long lt)]) (rest := []) (lenOf pd_7 rfl) rfl (by show 2 * 0 + _ ≤ _; exact Nat.le_of_eq rfl) (hb hby at_117) (fun _ _ => ⟨rfl, rfl, (by decide : 13 + 5 ≤ _), (by decide : 88 + 35 ≤ _)⟩)
            dsimp only [Pt.U, Pt.locs, Pt.cells, Pt.slots] at X2012 l2012 y2012 z2012 st2012 hQ2012
            subst l2012 y2012 z2012
            obtain ⟨x2013, rfl, N2014, k2015, f2016, f2017, f2018⟩ := hQ2012
            have N2019 := Fr.app N1998 N2014
            have ge2020 : n0 ≤ x2013 := by rw [← O2011.1]; exact Nat.le_trans O2011.2.1 f2016
            have ne2021 : b1676 ≠ x2013 := Nat.ne_of_lt (Nat.lt_of_lt_of_le (Exa.lt f1839) f2016)
            have f2022 := (Exa.keep f1745 k1835)
            have ne2023 : x1683 ≠ x2013 := Nat.ne_of_lt (Nat.lt_of_lt_of_le (Exa.lt f2022) f2016)
            have f2024 := (Exa.keep f1753 k1835)
            have ne2025 : x1684 ≠ x2013 := Nat.ne_of_lt (Nat.lt_of_lt_of_le (Exa.lt f2024) f2016)
            have ne2026 : x1686 ≠ x2013 := Nat.ne_of_lt (Nat.lt_of_lt_of_le (Exa.lt f1854) f2016)
            have ne2027 : x1687 ≠ x2013 := Nat.ne_of_lt (Nat.lt_of_lt_of_le (Exa.lt f1862) f2016)
            have ne2028 : x1830 ≠ x2013 := Nat.ne_of_lt (Nat.lt_of_lt_of_le (Exa.lt f1844) f2016)
            have ne2029 : x1831 ≠ x2013 := Nat.ne_of_lt (Nat.lt_of_lt_of_le (Exa.lt f1852) f2016)
            have O2030 := O2011.keep k2015 all0
            obtain ⟨cq2031, kq2031, q2031a, q2031b, q2031c⟩ := isOf hZ rfl f2017
            obtain ⟨_, _, ⟨T2031, L2031, k2031, n2031⟩, -, X2031, ⟨Lc2031, hQ2031, l2031, y2031, z2031⟩, st2031⟩ := X2012.virtualBack hx (y := (⟨"com/example/sluice/sluice/WaitStatistics", "startedAtOnce", "()J"⟩ : MethodName)) (z := (⟨"com/example/sluice/sluice/WaitStatistics", "startedAtOnce", "()J"⟩ : MethodName)) hown (mvT hZ (own_w hw 124 rfl)) (mvT hZ (own_w hw 125 rfl)) (notFace_of_selects (args := #[]) (mvT hZ (own_w hw 127 rfl))) (mvT hZ (own_w hw 127 rfl)) (mvT hZ (own_w hw 126 rfl)) (by decide) (backOf (W := 0) (rm_get l Z a0 hw [] x2013 ((0 : Int64) + (1 : Int64)) T2012.heap n0 O2030 f2018) hZ (own_w hw 128 rfl) (own_w hw 94 rfl) (by decide) (by decide)) q2031a q2031c (g := (mkF m 120 #[.val (.long raw), .second, .val (.long nw), .second, .val (.long lt), .second, .val (.long pc_), .second, .val (.int fl), .val (.long x2), .second, .val (.int (1 : Int32)), .val (.int (0 : Int32)), .val (.int (1 : Int32)), .val (.ref b1676), .val (.long lt), .second, .unset, .unset, .unset, .unset, .unset, .unset, .unset, .unset, .unset, .unset, .unset, .unset, .unset] [(.ref x2013)])) rfl (by rw [hml]; rfl) (Steps.refl _) (argsL := []) (rest := []) (lenOf pd_8 rfl) rfl (by show 2 * 0 + _ ≤ _; exact Nat.le_of_eq rfl) (hb hby at_120) (fun _ _ => ⟨rfl, rfl, (by decide : 18 + 0 ≤ _), (by decide : 123 + 0 ≤ _)⟩)
            dsimp only [Pt.U, Pt.locs, Pt.cells, Pt.slots] at X2031 l2031 y2031 z2031 st2031 hQ2031
            subst l2031 y2031 z2031
            obtain ⟨rfl, N2032, k2033⟩ := hQ2031
            have N2034 := Fr.app N2019 N2032
            have f2036 := (Exa.keep f1839 k2015)
            have f2037 := (Fld.keep f1840 k2015 nin0)
            have f2038 := (Fld.keep f1841 k2015 nin0)
            have f2039 := (Fld.keep f1842 k2015 nin0)
            have f2040 := (Fld.keep f1843 k2015 nin0)
            have f2041 := (Exa.keep f1844 k2015)
            have f2042 := (Fld.keep f1845 k2015 nin0)
            have f2043 := (Fld.keep f1846 k2015 nin0)
            have f2044 := (Fld.keep f1847 k2015 nin0)
            have f2045 := (Fld.keep f1848 k2015 nin0)
            have f2046 := (Fld.keep f1849 k2015 nin0)
            have f2047 := (Fld.keep f1850 k2015 nin0)
            have f2048 := (Fld.keep f1851 k2015 nin0)
            have f2049 := (Exa.keep f1852 k2015)
            have f2050 := (Arv.keep f1853 k2015 nin0)
            have f2051 := (Exa.keep f1854 k2015)
            have f2052 := (Fld.keep f1855 k2015 nin0)
            have f2053 := (Fld.keep f1856 k2015 nin0)
            have f2054 := (Fld.keep f1857 k2015 nin0)
            have f2055 := (Fld.keep f1858 k2015 nin0)
            have f2056 := (Fld.keep f1859 k2015 nin0)
            have f2057 := (Fld.keep f1860 k2015 nin0)
            have f2058 := (Fld.keep f1861 k2015 nin0)
            have f2059 := (Exa.keep f1862 k2015)
            have f2060 := (Arv.keep f1863 k2015 nin0)
            obtain ⟨cq2035, kq2035, q2035a, q2035b, q2035c⟩ := isOf hZ k2033 f2036
            obtain ⟨_, _, ⟨T2035, L2035, k2035, n2035⟩, -, X2035, ⟨Lc2035, hQ2035, l2035, y2035, z2035⟩, st2035⟩ := X2031.virtualBack hx (y := (⟨"com/example/sluice/sluice/WaitRecorder", "startedAtOnceEarlier", "(J)V"⟩ : MethodName)) (z := (⟨"com/example/sluice/sluice/WaitRecorder", "startedAtOnceEarlier", "(J)V"⟩ : MethodName)) hown (mvT hZ (own_w hw 129 rfl)) (mvT hZ (own_w hw 130 rfl)) (notFace_of_selects (args := #[]) (mvT hZ (own_w hw 132 rfl))) (mvT hZ (own_w hw 132 rfl)) (mvT hZ (own_w hw 131 rfl)) (by decide) (backOf (W := 0) (rm_sae l Z a0 hw [] b1676 pc_ x2 (own_fd lt x2) x1830 x1831 x1832 x1686 x1687 x1688 ((own_fd lt x2) * x2) ((0 : Int64) + (1 : Int64)) nw (((0 : Int64) + (1 : Int64)) + (1 : Int64)) T2012.heap n0 O2030 f2036 f2037 f2038 f2039 f2040 f2041 f2042 f2043 f2044 f2045 f2046 f2047 f2048 f2049 f2050 f2051 f2052 f2053 f2054 f2055 f2056 f2057 f2058 f2059 f2060 ge_b1676 ge1999 ge1731 ne2000 ne2006 ne1732 ne1734 f1838 (Ne.symm ne2003) (Ne.symm ne2004) (Ne.symm ne2009) (Ne.symm ne2010) f1700) hZ (own_w hw 133 rfl) (own_w hw 7 rfl) (by decide) (by decide)) q2035a q2035c (g := (mkF m 129 #[.val (.long raw), .second, .val (.long nw), .second, .val (.long lt), .second, .val (.long pc_), .second, .val (.int fl), .val (.long x2), .second, .val (.int (1 : Int32)), .val (.int (0 : Int32)), .val (.int (1 : Int32)), .val (.ref b1676), .val (.long lt), .second, .val (.long ((0 : Int64) + (1 : Int64))), .second, .unset, .unset, .unset, .unset, .unset, .unset, .unset, .unset, .unset, .unset, .unset] [(.long pc_), (.ref b1676)])) rfl (by rw [hml]; rfl) (Steps.refl _) (argsL := [(.long pc_)]) (rest := []) (lenOf pd_2 rfl) rfl (by show 2 * 0 + _ ≤ _; exact Nat.le_of_eq rfl) (hb hby at_129) (fun _ _ => ⟨rfl, k2033, (by decide : 18 + 0 ≤ _), (by decide : 123 + 0 ≤ _)⟩)
            dsimp only [Pt.U, Pt.locs, Pt.cells, Pt.slots] at X2035 l2035 y2035 z2035 st2035 hQ2035
            subst l2035 y2035 z2035
            obtain ⟨rfl, N2061, k2062, f2063, f2064, f2065, f2066, f2067, f2068, f2069, f2070, f2071, f2072, f2073, f2074, f2075, f2076, f2077, f2078, f2079, f2080, f2081, f2082⟩ := hQ2035
            have N2083 := Fr.app N2034 N2061
            have O2084 := O2030.keep k2062 (allS ge1999 (allS ge1731 all0))
            have f2086 := (Exa.keep f2036 k2062)
            have f2087 := (Fld.keep f2037 k2062 (ninS ne2000 (ninS ne1732 nin0)))
            have f2088 := (Fld.keep f2038 k2062 (ninS ne2000 (ninS ne1732 nin0)))
            have f2089 := (Fld.keep f2039 k2062 (ninS ne2000 (ninS ne1732 nin0)))
            have f2090 := (Fld.keep f2040 k2062 (ninS ne2000 (ninS ne1732 nin0)))
            obtain ⟨cq2085, kq2085, q2085a, q2085b, q2085c⟩ := isOf hZ rfl f2086
            obtain ⟨_, _, ⟨T2085, L2085, k2085, n2085⟩, -, X2085, ⟨Lc2085, hQ2085, l2085, y2085, z2085⟩, st2085⟩ := X2035.virtualBack hx (y := (⟨"com/example/sluice/sluice/WaitRecorder", "intervalSnapshot", "(J)Lcom/example/sluice/sluice/WaitStatistics;"⟩ : MethodName)) (z := (⟨"com/example/sluice/sluice/WaitRecorder", "intervalSnapshot", "(J)Lcom/example/sluice/sluice/WaitStatistics;"⟩ : MethodName)) hown (mvT hZ (own_w hw 82 rfl)) (mvT hZ (own_w hw 83 rfl)) (notFace_of_selects (args := #[]) (mvT hZ (own_w hw 85 rfl))) (mvT hZ (own_w hw 85 rfl)) (mvT hZ (own_w hw 84 rfl)) (by decide) (backOf (W := 0) (rm_isnap l Z a0 hw [] b1676 lt x2 (own_fd lt x2) x1830 x1831 x1832 x1686 x1687 x1688 ((own_fd lt x2) * x2) (((0 : Int64) + (1 : Int64)) + pc_) nw ((((0 : Int64) + (1 : Int64)) + (1 : Int64)) + pc_) wV kV vV T2035.heap n0 O2084 f2086 f2087 f2088 f2089 f2090 f2063 f2064 f2065 f2066 f2067 f2068 f2069 f2070 f2071 f2072 f2073 f2074 f2075 f2076 f2077 f2078 f2079 f2080 f2081 f2082 ge_b1676 ge1999 ge1731 ne2000 ne2006 ne1732 ne1734 f1838 (Ne.symm ne2003) (Ne.symm ne2004) (Ne.symm ne2009) (Ne.symm ne2010) f1700 S_V E_V A_V hlen rfl) hZ (own_w hw 86 rfl) (own_w hw 7 rfl) (by decide) (by decide)) q2085a q2085c (g := (mkF m 136 #[.val (.long raw), .second, .val (.long nw), .second, .val (.long lt), .second, .val (.long pc_), .second, .val (.int fl), .val (.long x2), .second, .val (.int (1 : Int32)), .val (.int (0 : Int32)), .val (.int (1 : Int32)), .val (.ref b1676), .val (.long lt), .second, .val (.long ((0 : Int64) + (1 : Int64))), .second, .unset, .unset, .unset, .unset, .unset, .unset, .unset, .unset, .unset, .unset, .unset] [(.long lt), (.ref b1676)])) rfl (by rw [hml]; rfl) (Steps.refl _) (argsL := [(.long lt)]) (rest := []) (lenOf pd_7 rfl) rfl (by show 2 * 0 + _ ≤ _; exact Nat.le_of_eq rfl) (hb hby at_136) (fun _ _ => ⟨rfl, rfl, (by decide : 18 + 5 ≤ _), (by decide : 123 + 35 ≤ _)⟩)
            dsimp only [Pt.U, Pt.locs, Pt.cells, Pt.slots] at X2085 l2085 y2085 z2085 st2085 hQ2085
            subst l2085 y2085 z2085
            obtain ⟨x2091, rfl, N2092, k2093, f2094, f2095, f2096⟩ := hQ2085
            have N2097 := Fr.app N2083 N2092
            have ge2098 : n0 ≤ x2091 := by rw [← O2084.1]; exact Nat.le_trans O2084.2.1 f2094
            have ne2099 : b1676 ≠ x2091 := Nat.ne_of_lt (Nat.lt_of_lt_of_le (Exa.lt f2086) f2094)
            have f2100 := (Exa.keep (Exa.keep f2022 k2015) k2062)
            have ne2101 : x1683 ≠ x2091 := Nat.ne_of_lt (Nat.lt_of_lt_of_le (Exa.lt f2100) f2094)
            have f2102 := (Exa.keep (Exa.keep f2024 k2015) k2062)
            have ne2103 : x1684 ≠ x2091 := Nat.ne_of_lt (Nat.lt_of_lt_of_le (Exa.lt f2102) f2094)
            have ne2104 : x1686 ≠ x2091 := Nat.ne_of_lt (Nat.lt_of_lt_of_le (Exa.lt f2073) f2094)
            have ne2105 : x1687 ≠ x2091 := Nat.ne_of_lt (Nat.lt_of_lt_of_le (Exa.lt f2081) f2094)
            have ne2106 : x1830 ≠ x2091 := Nat.ne_of_lt (Nat.lt_of_lt_of_le (Exa.lt f2063) f2094)
            have ne2107 : x1831 ≠ x2091 := Nat.ne_of_lt (Nat.lt_of_lt_of_le (Exa.lt f2071) f2094)
            have f2108 := (Exa.keep f2017 k2062)
            have ne2109 : x2013 ≠ x2091 := Nat.ne_of_lt (Nat.lt_of_lt_of_le (Exa.lt f2108) f2094)
            have O2110 := O2084.keep k2093 all0
            obtain ⟨cq2111, kq2111, q2111a, q2111b, q2111c⟩ := isOf hZ rfl f2095
            obtain ⟨_, _, ⟨T2111, L2111, k2111, n2111⟩, -, X2111, ⟨Lc2111, hQ2111, l2111, y2111, z2111⟩, st2111⟩ := X2085.virtualBack hx (y := (⟨"com/example/sluice/sluice/WaitStatistics", "startedAtOnce", "()J"⟩ : MethodName)) (z := (⟨"com/example/sluice/sluice/WaitStatistics", "startedAtOnce", "()J"⟩ : MethodName)) hown (mvT hZ (own_w hw 124 rfl)) (mvT hZ (own_w hw 125 rfl)) (notFace_of_selects (args := #[]) (mvT hZ (own_w hw 127 rfl))) (mvT hZ (own_w hw 127 rfl)) (mvT hZ (own_w hw 126 rfl)) (by decide) (backOf (W := 0) (rm_get l Z a0 hw [] x2091 (((0 : Int64) + (1 : Int64)) + pc_) T2085.heap n0 O2110 f2096) hZ (own_w hw 128 rfl) (own_w hw 94 rfl) (by decide) (by decide)) q2111a q2111c (g := (mkF m 139 #[.val (.long raw), .second, .val (.long nw), .second, .val (.long lt), .second, .val (.long pc_), .second, .val (.int fl), .val (.long x2), .second, .val (.int (1 : Int32)), .val (.int (0 : Int32)), .val (.int (1 : Int32)), .val (.ref b1676), .val (.long lt), .second, .val (.long ((0 : Int64) + (1 : Int64))), .second, .unset, .unset, .unset, .unset, .unset, .unset, .unset, .unset, .unset, .unset, .unset] [(.ref x2091)])) rfl (by rw [hml]; rfl) (Steps.refl _) (argsL := []) (rest := []) (lenOf pd_8 rfl) rfl (by show 2 * 0 + _ ≤ _; exact Nat.le_of_eq rfl) (hb hby at_139) (fun _ _ => ⟨rfl, rfl, (by decide : 23 + 0 ≤ _), (by decide : 158 + 0 ≤ _)⟩)
            dsimp only [Pt.U, Pt.locs, Pt.cells, Pt.slots] at X2111 l2111 y2111 z2111 st2111 hQ2111
            subst l2111 y2111 z2111
            obtain ⟨rfl, N2112, k2113⟩ := hQ2111
            have N2114 := Fr.app N2097 N2112
            have f2116 := (Exa.keep f2086 k2093)
            have f2117 := (Fld.keep f2090 k2093 nin0)
            have f2118 := (Exa.keep f2073 k2093)
            have f2119 := (Fld.keep f2074 k2093 nin0)
            have f2120 := (Fld.keep f2075 k2093 nin0)
            have f2121 := (Fld.keep f2076 k2093 nin0)
            have f2122 := (Fld.keep f2077 k2093 nin0)
            have f2123 := (Fld.keep f2078 k2093 nin0)
            have f2124 := (Fld.keep f2079 k2093 nin0)
            have f2125 := (Fld.keep f2080 k2093 nin0)
            have f2126 := (Exa.keep f2081 k2093)
            have f2127 := (Arv.keep f2082 k2093 nin0)
            obtain ⟨cq2115, kq2115, q2115a, q2115b, q2115c⟩ := isOf hZ k2113 f2116
            obtain ⟨_, _, ⟨T2115, L2115, k2115, n2115⟩, -, X2115, ⟨Lc2115, hQ2115, l2115, y2115, z2115⟩, st2115⟩ := X2111.virtualBack hx (y := (⟨"com/example/sluice/sluice/WaitRecorder", "sinceResetSnapshot", "()Lcom/example/sluice/sluice/WaitStatistics;"⟩ : MethodName)) (z := (⟨"com/example/sluice/sluice/WaitRecorder", "sinceResetSnapshot", "()Lcom/example/sluice/sluice/WaitStatistics;"⟩ : MethodName)) hown (mvT hZ (own_w hw 134 rfl)) (mvT hZ (own_w hw 135 rfl)) (notFace_of_selects (args := #[]) (mvT hZ (own_w hw 137 rfl))) (mvT hZ (own_w hw 137 rfl)) (mvT hZ (own_w hw 136 rfl)) (by decide) (backOf (W := 0) (rm_ssnap l Z a0 hw [] b1676 x1686 nw ((((0 : Int64) + (1 : Int64)) + (1 : Int64)) + pc_) x1687 x1688 T2085.heap n0 O2110 f2117 f2118 f2119 f2120 f2121 f2122 f2123 f2124 f2125 f2126 f2127) hZ (own_w hw 138 rfl) (own_w hw 7 rfl) (by decide) (by decide)) q2115a q2115c (g := (mkF m 146 #[.val (.long raw), .second, .val (.long nw), .second, .val (.long lt), .second, .val (.long pc_), .second, .val (.int fl), .val (.long x2), .second, .val (.int (1 : Int32)), .val (.int (0 : Int32)), .val (.int (1 : Int32)), .val (.ref b1676), .val (.long lt), .second, .val (.long ((0 : Int64) + (1 : Int64))), .second, .val (.long (((0 : Int64) + (1 : Int64)) + pc_)), .second, .unset, .unset, .unset, .unset, .unset, .unset, .unset, .unset, .unset] [(.ref b1676)])) rfl (by rw [hml]; rfl) (Steps.refl _) (argsL := []) (rest := []) (lenOf pd_5 rfl) rfl (by show 2 * 0 + _ ≤ _; exact Nat.le_of_eq rfl) (hb hby at_146) (fun _ _ => ⟨rfl, k2113, (by decide : 23 + 2 ≤ _), (by decide : 158 + 14 ≤ _)⟩)
            dsimp only [Pt.U, Pt.locs, Pt.cells, Pt.slots] at X2115 l2115 y2115 z2115 st2115 hQ2115
            subst l2115 y2115 z2115
            obtain ⟨x2128, rfl, N2129, k2130, f2131, f2132, f2133⟩ := hQ2115
            have N2134 := Fr.app N2114 N2129
            have ge2135 : n0 ≤ x2128 := by rw [← O2110.1]; exact Nat.le_trans O2110.2.1 f2131
            have ne2136 : b1676 ≠ x2128 := Nat.ne_of_lt (Nat.lt_of_lt_of_le (Exa.lt f2116) f2131)
            have f2137 := (Exa.keep f2100 k2093)
            have ne2138 : x1683 ≠ x2128 := Nat.ne_of_lt (Nat.lt_of_lt_of_le (Exa.lt f2137) f2131)
            have f2139 := (Exa.keep f2102 k2093)
            have ne2140 : x1684 ≠ x2128 := Nat.ne_of_lt (Nat.lt_of_lt_of_le (Exa.lt f2139) f2131)
            have ne2141 : x1686 ≠ x2128 := Nat.ne_of_lt (Nat.lt_of_lt_of_le (Exa.lt f2118) f2131)
            have ne2142 : x1687 ≠ x2128 := Nat.ne_of_lt (Nat.lt_of_lt_of_le (Exa.lt f2126) f2131)
            have f2143 := (Exa.keep f2063 k2093)
            have ne2144 : x1830 ≠ x2128 := Nat.ne_of_lt (Nat.lt_of_lt_of_le (Exa.lt f2143) f2131)
            have f2145 := (Exa.keep f2071 k2093)
            have ne2146 : x1831 ≠ x2128 := Nat.ne_of_lt (Nat.lt_of_lt_of_le (Exa.lt f2145) f2131)
            have f2147 := (Exa.keep f2108 k2093)
            have ne2148 : x2013 ≠ x2128 := Nat.ne_of_lt (Nat.lt_of_lt_of_le (Exa.lt f2147) f2131)
            have ne2149 : x2091 ≠ x2128 := Nat.ne_of_lt (Nat.lt_of_lt_of_le (Exa.lt f2095) f2131)
            have O2150 := O2110.keep k2130 all0
            obtain ⟨cq2151, kq2151, q2151a, q2151b, q2151c⟩ := isOf hZ rfl f2132
            obtain ⟨_, _, ⟨T2151, L2151, k2151, n2151⟩, -, X2151, ⟨Lc2151, hQ2151, l2151, y2151, z2151⟩, st2151⟩ := X2115.virtualBack hx (y := (⟨"com/example/sluice/sluice/WaitStatistics", "startedAtOnce", "()J"⟩ : MethodName)) (z := (⟨"com/example/sluice/sluice/WaitStatistics", "startedAtOnce", "()J"⟩ : MethodName)) hown (mvT hZ (own_w hw 124 rfl)) (mvT hZ (own_w hw 125 rfl)) (notFace_of_selects (args := #[]) (mvT hZ (own_w hw 127 rfl))) (mvT hZ (own_w hw 127 rfl)) (mvT hZ (own_w hw 126 rfl)) (by decide) (backOf (W := 0) (rm_get l Z a0 hw [] x2128 ((((0 : Int64) + (1 : Int64)) + (1 : Int64)) + pc_) T2115.heap n0 O2150 f2133) hZ (own_w hw 128 rfl) (own_w hw 94 rfl) (by decide) (by decide)) q2151a q2151c (g := (mkF m 149 #[.val (.long raw), .second, .val (.long nw), .second, .val (.long lt), .second, .val (.long pc_), .second, .val (.int fl), .val (.long x2), .second, .val (.int (1 : Int32)), .val (.int (0 : Int32)), .val (.int (1 : Int32)), .val (.ref b1676), .val (.long lt), .second, .val (.long ((0 : Int64) + (1 : Int64))), .second, .val (.long (((0 : Int64) + (1 : Int64)) + pc_)), .second, .unset, .unset, .unset, .unset, .unset, .unset, .unset, .unset, .unset] [(.ref x2128)])) rfl (by rw [hml]; rfl) (Steps.refl _) (argsL := []) (rest := []) (lenOf pd_8 rfl) rfl (by show 2 * 0 + _ ≤ _; exact Nat.le_of_eq rfl) (hb hby at_149) (fun _ _ => ⟨rfl, rfl, (by decide : 25 + 0 ≤ _), (by decide : 172 + 0 ≤ _)⟩)
            dsimp only [Pt.U, Pt.locs, Pt.cells, Pt.slots] at X2151 l2151 y2151 z2151 st2151 hQ2151
            subst l2151 y2151 z2151
            obtain ⟨rfl, N2152, k2153⟩ := hQ2151
            have N2154 := Fr.app N2134 N2152
            have S2155 : ∀ t, Steps p.tables e below (T2151.setTop (mkF m 271 #[.val (.long raw), .second, .val (.long nw), .second, .val (.long lt), .second, .val (.long pc_), .second, .val (.int fl), .val (.long x2), .second, .val (.int (1 : Int32)), .val (.int (0 : Int32)), .val (.int (1 : Int32)), .val (.ref b1676), .val (.long lt), .second, .val (.long ((0 : Int64) + (1 : Int64))), .second, .val (.long (((0 : Int64) + (1 : Int64)) + pc_)), .second, .val (.long ((((0 : Int64) + (1 : Int64)) + (1 : Int64)) + pc_)), .second, .val (.long (1 : Int64)), .second, .val (.long (1 : Int64)), .second, .val (.int (1 : Int32)), .val (.long ((2 : Int64) + pc_)), .second] [(.int (1 : Int32))])) t → Steps p.tables e below (s₁.setTop (mkF m 0 #[.val (.long raw), .second, .val (.long nw), .second, .val (.long lt), .second, .val (.long pc_), .second, .val (.int fl), .unset, .unset, .unset, .unset, .unset, .unset, .unset, .unset, .unset, .unset, .unset, .unset, .unset, .unset, .unset, .unset, .unset, .unset, .unset, .unset, .unset] [])) t := by
              intro t kt
              refine S1417 t ?_
              refine XS.ifNo X1.here hx rfl (hb hby at_43) rfl ((if0 _ _).trans (feq (c1418 : ¬ ((fl &&& (4 : Int32)) = (0 : Int32)))).1) ?_
              refine XS.iconst X1.here hx rfl (hb hby at_46) ?_
              refine XS.goto X1.here hx rfl (pc0 := 47) (pc' := 51) rfl (hb hby at_47) (by decide) (by decide) ?_
              refine XS.istore X1.here hx rfl (hb hby at_51) rfl (l' := #[.val (.long raw), .second, .val (.long nw), .second, .val (.long lt), .second, .val (.long pc_), .second, .val (.int fl), .val (.long x2), .second, .val (.int (1 : Int32)), .val (.int (0 : Int32)), .val (.int (1 : Int32)), .unset, .unset, .unset, .unset, .unset, .unset, .unset, .unset, .unset, .unset, .unset, .unset, .unset, .unset, .unset, .unset]) rfl ?_
              show Steps p.tables e below (T1.setTop (mkF m 53 #[.val (.long raw), .second, .val (.long nw), .second, .val (.long lt), .second, .val (.long pc_), .second, .val (.int fl), .val (.long x2), .second, .val (.int (1 : Int32)), .val (.int (0 : Int32)), .val (.int (1 : Int32)), .unset, .unset, .unset, .unset, .unset, .unset, .unset, .unset, .unset, .unset, .unset, .unset, .unset, .unset, .unset, .unset] [])) _
              refine st1676 _ ?_
              refine XS.dup X1676.here hx rfl (hb hby at_56) rfl rfl ?_
              refine XS.lload X1676.here hx rfl (hb hby at_57) rfl ?_
              refine XS.lloadN X1676.here hx rfl (hb hby at_59) rfl ?_
              show Steps p.tables e below (T1676.setTop (mkF m 60 #[.val (.long raw), .second, .val (.long nw), .second, .val (.long lt), .second, .val (.long pc_), .second, .val (.int fl), .val (.long x2), .second, .val (.int (1 : Int32)), .val (.int (0 : Int32)), .val (.int (1 : Int32)), .unset, .unset, .unset, .unset, .unset, .unset, .unset, .unset, .unset, .unset, .unset, .unset, .unset, .unset, .unset, .unset] [(.long nw), (.long x2), (.ref b1676), (.ref b1676)])) _
              refine st1682.trans ?_
              refine XS.astore X1682.here hx rfl (hb hby at_63) rfl rfl (l' := #[.val (.long raw), .second, .val (.long nw), .second, .val (.long lt), .second, .val (.long pc_), .second, .val (.int fl), .val (.long x2), .second, .val (.int (1 : Int32)), .val (.int (0 : Int32)), .val (.int (1 : Int32)), .val (.ref b1676), .unset, .unset, .unset, .unset, .unset, .unset, .unset, .unset, .unset, .unset, .unset, .unset, .unset, .unset, .unset]) rfl ?_
              refine XS.iload X1682.here hx rfl (hb hby at_65) rfl ?_
              refine XS.ifNo X1682.here hx rfl (hb hby at_67) rfl ((if0 _ _).trans (feq ((by decide) : ¬ ((1 : Int32) = (0 : Int32)))).1) ?_
              refine XS.aload X1682.here hx rfl (hb hby at_70) rfl rfl ?_
              refine XS.lloadN X1682.here hx rfl (hb hby at_72) rfl ?_
              show Steps p.tables e below (T1682.setTop (mkF m 73 #[.val (.long raw), .second, .val (.long nw), .second, .val (.long lt), .second, .val (.long pc_), .second, .val (.int fl), .val (.long x2), .second, .val (.int (1 : Int32)), .val (.int (0 : Int32)), .val (.int (1 : Int32)), .val (.ref b1676), .unset, .unset, .unset, .unset, .unset, .unset, .unset, .unset, .unset, .unset, .unset, .unset, .unset, .unset, .unset] [(.long nw), (.ref b1676)])) _
              refine st1736.trans ?_
              refine XS.iload X1736.here hx rfl (hb hby at_76) rfl ?_
              refine XS.ifNo X1736.here hx rfl (hb hby at_78) rfl ((if0 _ _).trans (feq ((by decide) : ¬ ((1 : Int32) = (0 : Int32)))).1) ?_
              refine XS.aload X1736.here hx rfl (hb hby at_81) rfl rfl ?_
              refine XS.lload X1736.here hx rfl (hb hby at_83) rfl ?_
              show Steps p.tables e below (T1736.setTop (mkF m 85 #[.val (.long raw), .second, .val (.long nw), .second, .val (.long lt), .second, .val (.long pc_), .second, .val (.int fl), .val (.long x2), .second, .val (.int (1 : Int32)), .val (.int (0 : Int32)), .val (.int (1 : Int32)), .val (.ref b1676), .unset, .unset, .unset, .unset, .unset, .unset, .unset, .unset, .unset, .unset, .unset, .unset, .unset, .unset, .unset] [(.long lt), (.ref b1676)])) _
              refine st1801.trans ?_
              refine XS.iload X1801.here hx rfl (hb hby at_88) rfl ?_
              refine XS.ifYes X1801.here hx rfl (pc0 := 90) (pc' := 100) rfl (hb hby at_90) rfl ((if0 _ _).trans (teq ((by decide) : (0 : Int32) = (0 : Int32))).1) (by decide) (by decide) ?_
              refine XS.iload X1801.here hx rfl (hb hby at_100) rfl ?_
              refine XS.ifNo X1801.here hx rfl (hb hby at_102) rfl ((if0 _ _).trans (feq ((by decide) : ¬ ((1 : Int32) = (0 : Int32)))).1) ?_
              refine XS.lload X1801.here hx rfl (hb hby at_105) rfl ?_
              show Steps p.tables e below (T1801.setTop (mkF m 107 #[.val (.long raw), .second, .val (.long nw), .second, .val (.long lt), .second, .val (.long pc_), .second, .val (.int fl), .val (.long x2), .second, .val (.int (1 : Int32)), .val (.int (0 : Int32)), .val (.int (1 : Int32)), .val (.ref b1676), .unset, .unset, .unset, .unset, .unset, .unset, .unset, .unset, .unset, .unset, .unset, .unset, .unset, .unset, .unset] [(.long lt)])) _
              refine XS.goto X1801.here hx rfl (pc0 := 107) (pc' := 111) rfl (hb hby at_107) (by decide) (by decide) ?_
              refine XS.lstore X1801.here hx rfl (hb hby at_111) rfl (l' := #[.val (.long raw), .second, .val (.long nw), .second, .val (.long lt), .second, .val (.long pc_), .second, .val (.int fl), .val (.long x2), .second, .val (.int (1 : Int32)), .val (.int (0 : Int32)), .val (.int (1 : Int32)), .val (.ref b1676), .val (.long lt), .second, .unset, .unset, .unset, .unset, .unset, .unset, .unset, .unset, .unset, .unset, .unset, .unset, .unset]) rfl ?_
              refine XS.aload X1801.here hx rfl (hb hby at_113) rfl rfl ?_
              refine XS.lload X1801.here hx rfl (hb hby at_115) rfl ?_
              show Steps p.tables e below (T1801.setTop (mkF m 117 #[.val (.long raw), .second, .val (.long nw), .second, .val (.long lt), .second, .val (.long pc_), .second, .val (.int fl), .val (.long x2), .second, .val (.int (1 : Int32)), .val (.int (0 : Int32)), .val (.int (1 : Int32)), .val (.ref b1676), .val (.long lt), .second, .unset, .unset, .unset, .unset, .unset, .unset, .unset, .unset, .unset, .unset, .unset, .unset, .unset] [(.long lt), (.ref b1676)])) _
              refine st2012.trans ?_
              show Steps p.tables e below (T2012.setTop (mkF m 120 #[.val (.long raw), .second, .val (.long nw), .second, .val (.long lt), .second, .val (.long pc_), .second, .val (.int fl), .val (.long x2), .second, .val (.int (1 : Int32)), .val (.int (0 : Int32)), .val (.int (1 : Int32)), .val (.ref b1676), .val (.long lt), .second, .unset, .unset, .unset, .unset, .unset, .unset, .unset, .unset, .unset, .unset, .unset, .unset, .unset] [(.ref x2013)])) _
              refine st2031.trans ?_
              refine XS.lstore X2031.here hx rfl (hb hby at_123) rfl (l' := #[.val (.long raw), .second, .val (.long nw), .second, .val (.long lt), .second, .val (.long pc_), .second, .val (.int fl), .val (.long x2), .second, .val (.int (1 : Int32)), .val (.int (0 : Int32)), .val (.int (1 : Int32)), .val (.ref b1676), .val (.long lt), .second, .val (.long ((0 : Int64) + (1 : Int64))), .second, .unset, .unset, .unset, .unset, .unset, .unset, .unset, .unset, .unset, .unset, .unset]) rfl ?_
              refine XS.aload X2031.here hx rfl (hb hby at_125) rfl rfl ?_
              refine XS.lload X2031.here hx rfl (hb hby at_127) rfl ?_
              show Steps p.tables e below (T2031.setTop (mkF m 129 #[.val (.long raw), .second, .val (.long nw), .second, .val (.long lt), .second, .val (.long pc_), .second, .val (.int fl), .val (.long x2), .second, .val (.int (1 : Int32)), .val (.int (0 : Int32)), .val (.int (1 : Int32)), .val (.ref b1676), .val (.long lt), .second, .val (.long ((0 : Int64) + (1 : Int64))), .second, .unset, .unset, .unset, .unset, .unset, .unset, .unset, .unset, .unset, .unset, .unset] [(.long pc_), (.ref b1676)])) _
              refine st2035.trans ?_
              refine XS.aload X2035.here hx rfl (hb hby at_132) rfl rfl ?_
              refine XS.lload X2035.here hx rfl (hb hby at_134) rfl ?_
              show Steps p.tables e below (T2035.setTop (mkF m 136 #[.val (.long raw), .second, .val (.long nw), .second, .val (.long lt), .second, .val (.long pc_), .second, .val (.int fl), .val (.long x2), .second, .val (.int (1 : Int32)), .val (.int (0 : Int32)), .val (.int (1 : Int32)), .val (.ref b1676), .val (.long lt), .second, .val (.long ((0 : Int64) + (1 : Int64))), .second, .unset, .unset, .unset, .unset, .unset, .unset, .unset, .unset, .unset, .unset, .unset] [(.long lt), (.ref b1676)])) _
              refine st2085.trans ?_
              show Steps p.tables e below (T2085.setTop (mkF m 139 #[.val (.long raw), .second, .val (.long nw), .second, .val (.long lt), .second, .val (.long pc_), .second, .val (.int fl), .val (.long x2), .second, .val (.int (1 : Int32)), .val (.int (0 : Int32)), .val (.int (1 : Int32)), .val (.ref b1676), .val (.long lt), .second, .val (.long ((0 : Int64) + (1 : Int64))), .second, .unset, .unset, .unset, .unset, .unset, .unset, .unset, .unset, .unset, .unset, .unset] [(.ref x2091)])) _
              refine st2111.trans ?_
              refine XS.lstore X2111.here hx rfl (hb hby at_142) rfl (l' := #[.val (.long raw), .second, .val (.long nw), .second, .val (.long lt), .second, .val (.long pc_), .second, .val (.int fl), .val (.long x2), .second, .val (.int (1 : Int32)), .val (.int (0 : Int32)), .val (.int (1 : Int32)), .val (.ref b1676), .val (.long lt), .second, .val (.long ((0 : Int64) + (1 : Int64))), .second, .val (.long (((0 : Int64) + (1 : Int64)) + pc_)), .second, .unset, .unset, .unset, .unset, .unset, .unset, .unset, .unset, .unset]) rfl ?_
              refine XS.aload X2111.here hx rfl (hb hby at_144) rfl rfl ?_
              show Steps p.tables e below (T2111.setTop (mkF m 146 #[.val (.long raw), .second, .val (.long nw), .second, .val (.long lt), .second, .val (.long pc_), .second, .val (.int fl), .val (.long x2), .second, .val (.int (1 : Int32)), .val (.int (0 : Int32)), .val (.int (1 : Int32)), .val (.ref b1676), .val (.long lt), .second, .val (.long ((0 : Int64) + (1 : Int64))), .second, .val (.long (((0 : Int64) + (1 : Int64)) + pc_)), .second, .unset, .unset, .unset, .unset, .unset, .unset, .unset, .unset, .unset] [(.ref b1676)])) _
              refine st2115.trans ?_
              show Steps p.tables e below (T2115.setTop (mkF m 149 #[.val (.long raw), .second, .val (.long nw), .second, .val (.long lt), .second, .val (.long pc_), .second, .val (.int fl), .val (.long x2), .second, .val (.int (1 : Int32)), .val (.int (0 : Int32)), .val (.int (1 : Int32)), .val (.ref b1676), .val (.long lt), .second, .val (.long ((0 : Int64) + (1 : Int64))), .second, .val (.long (((0 : Int64) + (1 : Int64)) + pc_)), .second, .unset, .unset, .unset, .unset, .unset, .unset, .unset, .unset, .unset] [(.ref x2128)])) _
              refine st2151.trans ?_
              refine XS.lstore X2151.here hx rfl (hb hby at_152) rfl (l' := #[.val (.long raw), .second, .val (.long nw), .second, .val (.long lt), .second, .val (.long pc_), .second, .val (.int fl), .val (.long x2), .second, .val (.int (1 : Int32)), .val (.int (0 : Int32)), .val (.int (1 : Int32)), .val (.ref b1676), .val (.long lt), .second, .val (.long ((0 : Int64) + (1 : Int64))), .second, .val (.long (((0 : Int64) + (1 : Int64)) + pc_)), .second, .val (.long ((((0 : Int64) + (1 : Int64)) + (1 : Int64)) + pc_)), .second, .unset, .unset, .unset, .unset, .unset, .unset, .unset]) rfl ?_
              refine XS.iload X2151.here hx rfl (hb hby at_154) rfl ?_
              refine XS.ifNo X2151.here hx rfl (hb hby at_156) rfl ((if0 _ _).trans (feq ((by decide) : ¬ ((1 : Int32) = (0 : Int32)))).1) ?_
              refine XS.lconst X2151.here hx rfl (hb hby at_159) ?_
              refine XS.goto X2151.here hx rfl (pc0 := 160) (pc' := 164) rfl (hb hby at_160) (by decide) (by decide) ?_
              show Steps p.tables e below (T2151.setTop (mkF m 164 #[.val (.long raw), .second, .val (.long nw), .second, .val (.long lt), .second, .val (.long pc_), .second, .val (.int fl), .val (.long x2), .second, .val (.int (1 : Int32)), .val (.int (0 : Int32)), .val (.int (1 : Int32)), .val (.ref b1676), .val (.long lt), .second, .val (.long ((0 : Int64) + (1 : Int64))), .second, .val (.long (((0 : Int64) + (1 : Int64)) + pc_)), .second, .val (.long ((((0 : Int64) + (1 : Int64)) + (1 : Int64)) + pc_)), .second, .unset, .unset, .unset, .unset, .unset, .unset, .unset] [(.long (1 : Int64))])) _
              refine XS.lstore X2151.here hx rfl (hb hby at_164) rfl (l' := #[.val (.long raw), .second, .val (.long nw), .second, .val (.long lt), .second, .val (.long pc_), .second, .val (.int fl), .val (.long x2), .second, .val (.int (1 : Int32)), .val (.int (0 : Int32)), .val (.int (1 : Int32)), .val (.ref b1676), .val (.long lt), .second, .val (.long ((0 : Int64) + (1 : Int64))), .second, .val (.long (((0 : Int64) + (1 : Int64)) + pc_)), .second, .val (.long ((((0 : Int64) + (1 : Int64)) + (1 : Int64)) + pc_)), .second, .val (.long (1 : Int64)), .second, .unset, .unset, .unset, .unset, .unset]) rfl ?_
              refine XS.iload X2151.here hx rfl (hb hby at_166) rfl ?_
              refine XS.ifNo X2151.here hx rfl (hb hby at_168) rfl ((if0 _ _).trans (feq ((by decide) : ¬ ((1 : Int32) = (0 : Int32)))).1) ?_
              refine XS.lconst X2151.here hx rfl (hb hby at_171) ?_
              refine XS.goto X2151.here hx rfl (pc0 := 172) (pc' := 176) rfl (hb hby at_172) (by decide) (by decide) ?_
              refine XS.lstore X2151.here hx rfl (hb hby at_176) rfl (l' := #[.val (.long raw), .second, .val (.long nw), .second, .val (.long lt), .second, .val (.long pc_), .second, .val (.int fl), .val (.long x2), .second, .val (.int (1 : Int32)), .val (.int (0 : Int32)), .val (.int (1 : Int32)), .val (.ref b1676), .val (.long lt), .second, .val (.long ((0 : Int64) + (1 : Int64))), .second, .val (.long (((0 : Int64) + (1 : Int64)) + pc_)), .second, .val (.long ((((0 : Int64) + (1 : Int64)) + (1 : Int64)) + pc_)), .second, .val (.long (1 : Int64)), .second, .val (.long (1 : Int64)), .second, .unset, .unset, .unset]) rfl ?_
              show Steps p.tables e below (T2151.setTop (mkF m 178 #[.val (.long raw), .second, .val (.long nw), .second, .val (.long lt), .second, .val (.long pc_), .second, .val (.int fl), .val (.long x2), .second, .val (.int (1 : Int32)), .val (.int (0 : Int32)), .val (.int (1 : Int32)), .val (.ref b1676), .val (.long lt), .second, .val (.long ((0 : Int64) + (1 : Int64))), .second, .val (.long (((0 : Int64) + (1 : Int64)) + pc_)), .second, .val (.long ((((0 : Int64) + (1 : Int64)) + (1 : Int64)) + pc_)), .second, .val (.long (1 : Int64)), .second, .val (.long (1 : Int64)), .second, .unset, .unset, .unset] [])) _
              refine XS.iload X2151.here hx rfl (hb hby at_178) rfl ?_
              refine XS.ifNo X2151.here hx rfl (hb hby at_180) rfl ((if0 _ _).trans (feq ((by decide) : ¬ ((1 : Int32) = (0 : Int32)))).1) ?_
              refine XS.lload X2151.here hx rfl (hb hby at_183) rfl ?_
              refine XS.lconst X2151.here hx rfl (hb hby at_185) ?_
              refine XS.lcmp X2151.here hx rfl (hb hby at_186) rfl ?_
              refine XS.ifYes X2151.here hx rfl (pc0 := 187) (pc' := 200) rfl (hb hby at_187) rfl ((if0 _ _).trans (teq ((lw_eq ((0 : Int64) + (1 : Int64)) (1 : Int64)).mpr ((by decide) : ((0 : Int64) + (1 : Int64)) = (1 : Int64)) : (lcmpW ((0 : Int64) + (1 : Int64)) (1 : Int64)) = (0 : Int32))).1) (by decide) (by decide) ?_
              show Steps p.tables e below (T2151.setTop (mkF m 200 #[.val (.long raw), .second, .val (.long nw), .second, .val (.long lt), .second, .val (.long pc_), .second, .val (.int fl), .val (.long x2), .second, .val (.int (1 : Int32)), .val (.int (0 : Int32)), .val (.int (1 : Int32)), .val (.ref b1676), .val (.long lt), .second, .val (.long ((0 : Int64) + (1 : Int64))), .second, .val (.long (((0 : Int64) + (1 : Int64)) + pc_)), .second, .val (.long ((((0 : Int64) + (1 : Int64)) + (1 : Int64)) + pc_)), .second, .val (.long (1 : Int64)), .second, .val (.long (1 : Int64)), .second, .unset, .unset, .unset] [])) _
              refine XS.iconst X2151.here hx rfl (hb hby at_200) ?_
              refine XS.goto X2151.here hx rfl (pc0 := 201) (pc' := 221) rfl (hb hby at_201) (by decide) (by decide) ?_
              refine XS.istore X2151.here hx rfl (hb hby at_221) rfl (l' := #[.val (.long raw), .second, .val (.long nw), .second, .val (.long lt), .second, .val (.long pc_), .second, .val (.int fl), .val (.long x2), .second, .val (.int (1 : Int32)), .val (.int (0 : Int32)), .val (.int (1 : Int32)), .val (.ref b1676), .val (.long lt), .second, .val (.long ((0 : Int64) + (1 : Int64))), .second, .val (.long (((0 : Int64) + (1 : Int64)) + pc_)), .second, .val (.long ((((0 : Int64) + (1 : Int64)) + (1 : Int64)) + pc_)), .second, .val (.long (1 : Int64)), .second, .val (.long (1 : Int64)), .second, .val (.int (1 : Int32)), .unset, .unset]) rfl ?_
              refine XS.iload X2151.here hx rfl (hb hby at_223) rfl ?_
              refine XS.ifYes X2151.here hx rfl (pc0 := 225) (pc' := 232) rfl (hb hby at_225) rfl ((if0 _ _).trans (teq ((by decide) : (0 : Int32) = (0 : Int32))).1) (by decide) (by decide) ?_
              refine XS.lload X2151.here hx rfl (hb hby at_232) rfl ?_
              show Steps p.tables e below (T2151.setTop (mkF m 234 #[.val (.long raw), .second, .val (.long nw), .second, .val (.long lt), .second, .val (.long pc_), .second, .val (.int fl), .val (.long x2), .second, .val (.int (1 : Int32)), .val (.int (0 : Int32)), .val (.int (1 : Int32)), .val (.ref b1676), .val (.long lt), .second, .val (.long ((0 : Int64) + (1 : Int64))), .second, .val (.long (((0 : Int64) + (1 : Int64)) + pc_)), .second, .val (.long ((((0 : Int64) + (1 : Int64)) + (1 : Int64)) + pc_)), .second, .val (.long (1 : Int64)), .second, .val (.long (1 : Int64)), .second, .val (.int (1 : Int32)), .unset, .unset] [(.long (1 : Int64))])) _
              refine XS.lload X2151.here hx rfl (hb hby at_234) rfl ?_
              refine XS.ladd X2151.here hx rfl (hb hby at_236) rfl ?_
              refine XS.lload X2151.here hx rfl (hb hby at_237) rfl ?_
              refine XS.ladd X2151.here hx rfl (hb hby at_239) rfl ?_
              refine XS.lstore X2151.here hx rfl (hb hby at_240) rfl (l' := #[.val (.long raw), .second, .val (.long nw), .second, .val (.long lt), .second, .val (.long pc_), .second, .val (.int fl), .val (.long x2), .second, .val (.int (1 : Int32)), .val (.int (0 : Int32)), .val (.int (1 : Int32)), .val (.ref b1676), .val (.long lt), .second, .val (.long ((0 : Int64) + (1 : Int64))), .second, .val (.long (((0 : Int64) + (1 : Int64)) + pc_)), .second, .val (.long ((((0 : Int64) + (1 : Int64)) + (1 : Int64)) + pc_)), .second, .val (.long (1 : Int64)), .second, .val (.long (1 : Int64)), .second, .val (.int (1 : Int32)), .val (.long ((2 : Int64) + pc_)), .second]) rfl ?_
              refine XS.iload X2151.here hx rfl (hb hby at_242) rfl ?_
              show Steps p.tables e below (T2151.setTop (mkF m 244 #[.val (.long raw), .second, .val (.long nw), .second, .val (.long lt), .second, .val (.long pc_), .second, .val (.int fl), .val (.long x2), .second, .val (.int (1 : Int32)), .val (.int (0 : Int32)), .val (.int (1 : Int32)), .val (.ref b1676), .val (.long lt), .second, .val (.long ((0 : Int64) + (1 : Int64))), .second, .val (.long (((0 : Int64) + (1 : Int64)) + pc_)), .second, .val (.long ((((0 : Int64) + (1 : Int64)) + (1 : Int64)) + pc_)), .second, .val (.long (1 : Int64)), .second, .val (.long (1 : Int64)), .second, .val (.int (1 : Int32)), .val (.long ((2 : Int64) + pc_)), .second] [(.int (1 : Int32))])) _
              refine XS.ifNo X2151.here hx rfl (hb hby at_244) rfl ((if0 _ _).trans (feq ((by decide) : ¬ ((1 : Int32) = (0 : Int32)))).1) ?_
              refine XS.lload X2151.here hx rfl (hb hby at_247) rfl ?_
              refine XS.lload X2151.here hx rfl (hb hby at_249) rfl ?_
              refine XS.lload X2151.here hx rfl (hb hby at_251) rfl ?_
              refine XS.ladd X2151.here hx rfl (hb hby at_253) rfl ?_
              refine XS.lcmp X2151.here hx rfl (hb hby at_254) rfl ?_
              show Steps p.tables e below (T2151.setTop (mkF m 255 #[.val (.long raw), .second, .val (.long nw), .second, .val (.long lt), .second, .val (.long pc_), .second, .val (.int fl), .val (.long x2), .second, .val (.int (1 : Int32)), .val (.int (0 : Int32)), .val (.int (1 : Int32)), .val (.ref b1676), .val (.long lt), .second, .val (.long ((0 : Int64) + (1 : Int64))), .second, .val (.long (((0 : Int64) + (1 : Int64)) + pc_)), .second, .val (.long ((((0 : Int64) + (1 : Int64)) + (1 : Int64)) + pc_)), .second, .val (.long (1 : Int64)), .second, .val (.long (1 : Int64)), .second, .val (.int (1 : Int32)), .val (.long ((2 : Int64) + pc_)), .second] [(.int (lcmpW (((0 : Int64) + (1 : Int64)) + pc_) (((0 : Int64) + (1 : Int64)) + pc_)))])) _
              refine XS.ifNo X2151.here hx rfl (hb hby at_255) rfl ((if0 _ _).trans (teq ((lw_eq (((0 : Int64) + (1 : Int64)) + pc_) (((0 : Int64) + (1 : Int64)) + pc_)).mpr (rfl : (((0 : Int64) + (1 : Int64)) + pc_) = (((0 : Int64) + (1 : Int64)) + pc_)) : (lcmpW (((0 : Int64) + (1 : Int64)) + pc_) (((0 : Int64) + (1 : Int64)) + pc_)) = (0 : Int32))).2) ?_
              refine XS.lload X2151.here hx rfl (hb hby at_258) rfl ?_
              refine XS.lload X2151.here hx rfl (hb hby at_260) rfl ?_
              refine XS.lcmp X2151.here hx rfl (hb hby at_262) rfl ?_
              refine XS.ifNo X2151.here hx rfl (hb hby at_263) rfl ((if0 _ _).trans (teq ((lw_eq ((((0 : Int64) + (1 : Int64)) + (1 : Int64)) + pc_) ((2 : Int64) + pc_)).mpr ((congrArg (· + pc_) (by decide : (((0 : Int64) + (1 : Int64)) + (1 : Int64)) = (2 : Int64))) : ((((0 : Int64) + (1 : Int64)) + (1 : Int64)) + pc_) = ((2 : Int64) + pc_)) : (lcmpW ((((0 : Int64) + (1 : Int64)) + (1 : Int64)) + pc_) ((2 : Int64) + pc_)) = (0 : Int32))).2) ?_
              refine XS.iconst X2151.here hx rfl (hb hby at_266) ?_
              show Steps p.tables e below (T2151.setTop (mkF m 267 #[.val (.long raw), .second, .val (.long nw), .second, .val (.long lt), .second, .val (.long pc_), .second, .val (.int fl), .val (.long x2), .second, .val (.int (1 : Int32)), .val (.int (0 : Int32)), .val (.int (1 : Int32)), .val (.ref b1676), .val (.long lt), .second, .val (.long ((0 : Int64) + (1 : Int64))), .second, .val (.long (((0 : Int64) + (1 : Int64)) + pc_)), .second, .val (.long ((((0 : Int64) + (1 : Int64)) + (1 : Int64)) + pc_)), .second, .val (.long (1 : Int64)), .second, .val (.long (1 : Int64)), .second, .val (.int (1 : Int32)), .val (.long ((2 : Int64) + pc_)), .second] [(.int (1 : Int32))])) _
              refine XS.goto X2151.here hx rfl (pc0 := 267) (pc' := 271) rfl (hb hby at_267) (by decide) (by decide) ?_
              exact kt
            obtain ⟨fs, hr, hrun, hended, hW, hsame⟩ := X2151.leave (v := some (.int (1 : Int32))) (fun h => by rw [Bd.returns] at h; cases h)
            refine ⟨_, _, pre0 _ (S2155 _ ?_), hrun, hended, _, _, rfl, ?_, ⟨_, rfl⟩, hW, hsame.mono (by decide) (by decide)⟩
            · exact retN X2151 hx (t := .boolean) Bd.returns (by simp) (hb hby at_271) hr
            · show Q_rm_law Z raw nw lt pc_ fl wV kV vV h0 n0 _ T2151.heap _
              rw [k2153]
              exact ⟨rfl, N2154⟩
        · exact absurd (rfl : (own_fd nw x2) = (own_fd nw x2)) c1768
    · have S2156 : ∀ t, Steps p.tables e below (T1.setTop (mkF m 43 #[.val (.long raw), .second, .val (.long nw), .second, .val (.long lt), .second, .val (.long pc_), .second, .val (.int fl), .val (.long x2), .second, .val (.int (1 : Int32)), .val (.int (1 : Int32)), .unset, .unset, .unset, .unset, .unset, .unset, .unset, .unset, .unset, .unset, .unset, .unset, .unset, .unset, .unset, .unset, .unset] [(.int (fl &&& (4 : Int32)))])) t → Steps p.tables e below (s₁.setTop (mkF m 0 #[.val (.long raw), .second, .val (.long nw), .second, .val (.long lt), .second, .val (.long pc_), .second, .val (.int fl), .unset, .unset, .unset, .unset, .unset, .unset, .unset, .unset, .unset, .unset, .unset, .unset, .unset, .unset, .unset, .unset, .unset, .unset, .unset, .unset, .unset] [])) t := by
        intro t kt
        refine S1415 t ?_
        refine XS.ifNo X1.here hx rfl (hb hby at_29) rfl ((if0 _ _).trans (feq (c1416 : ¬ ((fl &&& (2 : Int32)) = (0 : Int32)))).1) ?_
        refine XS.iconst X1.here hx rfl (hb hby at_32) ?_
        refine XS.goto X1.here hx rfl (pc0 := 33) (pc' := 37) rfl (hb hby at_33) (by decide) (by decide) ?_
        refine XS.istore X1.here hx rfl (hb hby at_37) rfl (l' := #[.val (.long raw), .second, .val (.long nw), .second, .val (.long lt), .second, .val (.long pc_), .second, .val (.int fl), .val (.long x2), .second, .val (.int (1 : Int32)), .val (.int (1 : Int32)), .unset, .unset, .unset, .unset, .unset, .unset, .unset, .unset, .unset, .unset, .unset, .unset, .unset, .unset, .unset, .unset, .unset]) rfl ?_
        refine XS.iload X1.here hx rfl (hb hby at_39) rfl ?_
        refine XS.iconst X1.here hx rfl (hb hby at_41) ?_
        show Steps p.tables e below (T1.setTop (mkF m 42 #[.val (.long raw), .second, .val (.long nw), .second, .val (.long lt), .second, .val (.long pc_), .second, .val (.int fl), .val (.long x2), .second, .val (.int (1 : Int32)), .val (.int (1 : Int32)), .unset, .unset, .unset, .unset, .unset, .unset, .unset, .unset, .unset, .unset, .unset, .unset, .unset, .unset, .unset, .unset, .unset] [(.int (4 : Int32)), (.int fl)])) _
        refine XS.iand X1.here hx rfl (hb hby at_42) rfl ?_
        exact kt
      rcases Decidable.em ((fl &&& (4 : Int32)) = (0 : Int32)) with c2157 | c2157
      · obtain ⟨T2158, h2158, X2158, e2158, E2158, A2158, D2158, -, st2158⟩ := newO X1 hx hZ hown (own_w hw 5 rfl) (own_w hw 6 rfl) (own_w hw 7 rfl) k5 (g := (mkF m 53 #[.val (.long raw), .second, .val (.long nw), .second, .val (.long lt), .second, .val (.long pc_), .second, .val (.int fl), .val (.long x2), .second, .val (.int (1 : Int32)), .val (.int (1 : Int32)), .val (.int (0 : Int32)), .unset, .unset, .unset, .unset, .unset, .unset, .unset, .unset, .unset, .unset, .unset, .unset, .unset, .unset, .unset, .unset] [])) rfl (hb hby at_53) (by decide) (by decide)
        obtain ⟨b2158, g2158⟩ : ∃ z, z = h0.size := ⟨_, rfl⟩
        have ge_b2158 : n0 ≤ b2158 := by rw [g2158, ← O0.1]; exact O0.2.1
        rw [← g2158] at A2158 D2158 st2158
        have O2159 := O0.ext E2158
        have F2160 : Fld Z h2158 b2158 "com/example/sluice/sluice/WaitRecorder" "intervalMillis" "J" (.long (0 : Int64)) := D2158 (Or.inr (own_w hw 15 rfl)) (ty := .long) (by decide)
        have F2161 : Fld Z h2158 b2158 "com/example/sluice/sluice/WaitRecorder" "intervalIndex" "J" (.long (0 : Int64)) := D2158 (Or.inl (own_w hw 20 rfl)) (ty := .long) (by decide)
        have F2162 : Fld Z h2158 b2158 "com/example/sluice/sluice/WaitRecorder" "interval" "Lcom/example/sluice/sluice/WaitRecorder$Tally;" .null := D2158 (Or.inl (own_w hw 63 rfl)) (ty := (.object "com/example/sluice/sluice/WaitRecorder$Tally")) (by decide)
        have F2163 : Fld Z h2158 b2158 "com/example/sluice/sluice/WaitRecorder" "sinceReset" "Lcom/example/sluice/sluice/WaitRecorder$Tally;" .null := D2158 (Or.inl (own_w hw 65 rfl)) (ty := (.object "com/example/sluice/sluice/WaitRecorder$Tally")) (by decide)
        obtain ⟨_, _, ⟨T2164, L2164, k2164, n2164⟩, -, X2164, ⟨Lc2164, hQ2164, l2164, y2164, z2164⟩, st2164⟩ := X2158.specialBack hx (y := (⟨"com/example/sluice/sluice/WaitRecorder", "<init>", "(JJ)V"⟩ : MethodName)) rfl hown (mvT hZ (own_w hw 8 rfl)) (mvT hZ (own_w hw 9 rfl)) (mvT hZ (own_w hw 10 rfl)) (by decide) (backOf (W := 1) (rm_rinit l Z a0 hw [] b2158 x2 nw wV kV vV h2158 n0 O2159 A2158 ge_b2158 F2160 F2161 F2162 F2163 S_V E_V A_V hlen) hZ (own_w hw 10 rfl) (own_w hw 7 rfl) (by decide) (by decide)) (g := (mkF m 60 #[.val (.long raw), .second, .val (.long nw), .second, .val (.long lt), .second, .val (.long pc_), .second, .val (.int fl), .val (.long x2), .second, .val (.int (1 : Int32)), .val (.int (1 : Int32)), .val (.int (0 : Int32)), .unset, .unset, .unset, .unset, .unset, .unset, .unset, .unset, .unset, .unset, .unset, .unset, .unset, .unset, .unset, .unset] [(.long nw), (.long x2), (.ref b2158), (.ref b2158)])) rfl (by rw [hml]; rfl) (Steps.refl _) (a := b2158) (argsL := [(.long x2), (.long nw)]) (rest := [(.ref b2158)]) (lenOf pd_6 rfl) rfl (by show 2 * 0 + _ ≤ _; exact Nat.le_of_eq rfl) (hb hby at_60) (fun _ _ => ⟨rfl, e2158, (by decide : 1 + 6 ≤ _), (by decide : 4 + 42 ≤ _)⟩)
        dsimp only [Pt.U, Pt.locs, Pt.cells, Pt.slots] at X2164 l2164 y2164 z2164 st2164 hQ2164
        subst l2164 y2164 z2164
        obtain ⟨x2165, x2166, x2167, x2168, x2169, x2170, rfl, N2171, k2172, f2173, f2174, f2175, f2176, f2177, f2178, f2179, f2180, f2181, f2182, f2183, f2184, f2185, f2186, f2187, f2188, f2189, f2190, f2191, f2192, f2193, f2194, f2195, f2196, f2197, f2198, f2199, f2200, f2201, f2202, f2203, f2204, f2205, f2206, f2207⟩ := hQ2164
        have N2208 := Fr.app N6 N2171
        have ge2209 : n0 ≤ x2165 := by rw [← O2159.1]; exact Nat.le_trans O2159.2.1 f2173
        have ne2210 : b2158 ≠ x2165 := Nat.ne_of_lt (Nat.lt_of_lt_of_le (Exa.lt A2158) f2173)
        have ge2211 : n0 ≤ x2166 := by rw [← O2159.1]; exact Nat.le_trans O2159.2.1 f2174
        have ne2212 : b2158 ≠ x2166 := Nat.ne_of_lt (Nat.lt_of_lt_of_le (Exa.lt A2158) f2174)
        have ge2213 : n0 ≤ x2168 := by rw [← O2159.1]; exact Nat.le_trans O2159.2.1 f2175
        have ne2214 : b2158 ≠ x2168 := Nat.ne_of_lt (Nat.lt_of_lt_of_le (Exa.lt A2158) f2175)
        have ge2215 : n0 ≤ x2169 := by rw [← O2159.1]; exact Nat.le_trans O2159.2.1 f2176
        have ne2216 : b2158 ≠ x2169 := Nat.ne_of_lt (Nat.lt_of_lt_of_le (Exa.lt A2158) f2176)
        have O2217 := O2159.keep k2172 (allS ge_b2158 all0)
        obtain ⟨cq2218, kq2218, q2218a, q2218b, q2218c⟩ := isOf hZ rfl f2183
        obtain ⟨_, _, ⟨T2218, L2218, k2218, n2218⟩, -, X2218, ⟨Lc2218, hQ2218, l2218, y2218, z2218⟩, st2218⟩ := X2164.virtualBack hx (y := (⟨"com/example/sluice/sluice/WaitRecorder", "startedAtOnce", "(J)V"⟩ : MethodName)) (z := (⟨"com/example/sluice/sluice/WaitRecorder", "startedAtOnce", "(J)V"⟩ : MethodName)) hown (mvT hZ (own_w hw 66 rfl)) (mvT hZ (own_w hw 67 rfl)) (notFace_of_selects (args := #[]) (mvT hZ (own_w hw 69 rfl))) (mvT hZ (own_w hw 69 rfl)) (mvT hZ (own_w hw 68 rfl)) (by decide) (backOf (W := 0) (rm_sao l Z a0 hw [] b2158 nw x2 (own_fd nw x2) x2165 x2166 x2167 x2168 x2169 x2170 ((own_fd nw x2) * x2) (0 : Int64) nw (0 : Int64) wV kV vV T2164.heap n0 O2217 f2183 f2184 f2185 f2186 f2187 f2188 f2189 f2190 f2191 f2192 f2193 f2194 f2195 f2196 f2197 f2198 f2199 f2200 f2201 f2202 f2203 f2204 f2205 f2206 f2207 ge_b2158 ge2209 ge2213 ne2210 ne2212 ne2214 ne2216 f2177 f2178 f2179 f2180 f2181 f2182 S_V E_V A_V hlen) hZ (own_w hw 70 rfl) (own_w hw 7 rfl) (by decide) (by decide)) q2218a q2218c (g := (mkF m 73 #[.val (.long raw), .second, .val (.long nw), .second, .val (.long lt), .second, .val (.long pc_), .second, .val (.int fl), .val (.long x2), .second, .val (.int (1 : Int32)), .val (.int (1 : Int32)), .val (.int (0 : Int32)), .val (.ref b2158), .unset, .unset, .unset, .unset, .unset, .unset, .unset, .unset, .unset, .unset, .unset, .unset, .unset, .unset, .unset] [(.long nw), (.ref b2158)])) rfl (by rw [hml]; rfl) (Steps.refl _) (argsL := [(.long nw)]) (rest := []) (lenOf pd_2 rfl) rfl (by show 2 * 0 + _ ≤ _; exact Nat.le_of_eq rfl) (hb hby at_73) (fun _ _ => ⟨rfl, rfl, (by decide : 7 + 3 ≤ _), (by decide : 46 + 21 ≤ _)⟩)
        dsimp only [Pt.U, Pt.locs, Pt.cells, Pt.slots] at X2218 l2218 y2218 z2218 st2218 hQ2218
        subst l2218 y2218 z2218
        rcases hQ2218 with ⟨c2219, rfl, N2220, k2221, f2222, f2223, f2224, f2225, f2226, f2227, f2228, f2229, f2230, f2231, f2232, f2233, f2234, f2235, f2236, f2237, f2238, f2239, f2240, f2241, f2242, f2243, f2244, f2245, f2246⟩ | ⟨x2247, x2248, x2249, c2250, rfl, N2251, k2252, f2253, f2254, f2255, f2256, f2257, f2258, f2259, f2260, f2261, f2262, f2263, f2264, f2265, f2266, f2267, f2268, f2269, f2270, f2271, f2272, f2273, f2274, f2275, f2276, f2277, f2278, f2279, f2280⟩
        · have N2281 := Fr.app N2208 N2220
          have O2282 := O2217.keep k2221 (allS ge_b2158 (allS ge2209 (allS ge2213 all0)))
          obtain ⟨cq2283, kq2283, q2283a, q2283b, q2283c⟩ := isOf hZ rfl f2222
          obtain ⟨_, _, ⟨T2283, L2283, k2283, n2283⟩, -, X2283, ⟨Lc2283, hQ2283, l2283, y2283, z2283⟩, st2283⟩ := X2218.virtualBack hx (y := (⟨"com/example/sluice/sluice/WaitRecorder", "reset", "(J)V"⟩ : MethodName)) (z := (⟨"com/example/sluice/sluice/WaitRecorder", "reset", "(J)V"⟩ : MethodName)) hown (mvT hZ (own_w hw 77 rfl)) (mvT hZ (own_w hw 78 rfl)) (notFace_of_selects (args := #[]) (mvT hZ (own_w hw 80 rfl))) (mvT hZ (own_w hw 80 rfl)) (mvT hZ (own_w hw 79 rfl)) (by decide) (backOf (W := 0) (rm_reset l Z a0 hw [] b2158 lt x2 (own_fd nw x2) x2165 x2166 x2167 x2168 x2169 x2170 ((own_fd nw x2) * x2) ((0 : Int64) + (1 : Int64)) nw ((0 : Int64) + (1 : Int64)) wV kV vV T2218.heap n0 O2282 f2222 f2223 f2224 f2225 f2226 f2227 f2228 f2229 f2230 f2231 f2232 f2233 f2234 f2235 f2236 f2237 f2238 f2239 f2240 f2241 f2242 f2243 f2244 f2245 f2246 ge_b2158 ge2209 ge2213 ne2210 ne2212 ne2214 ne2216 f2177 f2178 f2179 f2180 f2181 f2182 S_V E_V A_V) hZ (own_w hw 81 rfl) (own_w hw 7 rfl) (by decide) (by decide)) q2283a q2283c (g := (mkF m 97 #[.val (.long raw), .second, .val (.long nw), .second, .val (.long lt), .second, .val (.long pc_), .second, .val (.int fl), .val (.long x2), .second, .val (.int (1 : Int32)), .val (.int (1 : Int32)), .val (.int (0 : Int32)), .val (.ref b2158), .unset, .unset, .unset, .unset, .unset, .unset, .unset, .unset, .unset, .unset, .unset, .unset, .unset, .unset, .unset] [(.long lt), (.ref b2158)])) rfl (by rw [hml]; rfl) (Steps.refl _) (argsL := [(.long lt)]) (rest := []) (lenOf pd_2 rfl) rfl (by show 2 * 0 + _ ≤ _; exact Nat.le_of_eq rfl) (hb hby at_97) (fun _ _ => ⟨rfl, rfl, (by decide : 10 + 3 ≤ _), (by decide : 67 + 21 ≤ _)⟩)
          dsimp only [Pt.U, Pt.locs, Pt.cells, Pt.slots] at X2283 l2283 y2283 z2283 st2283 hQ2283
          subst l2283 y2283 z2283
          obtain ⟨x2284, x2285, x2286, rfl, N2287, k2288, f2289, f2290, f2291, f2292, f2293, f2294, f2295, f2296, f2297, f2298, f2299, f2300, f2301, f2302, f2303, f2304, f2305, f2306⟩ := hQ2283
          have N2307 := Fr.app N2281 N2287
          have ge2308 : n0 ≤ x2284 := by rw [← O2282.1]; exact Nat.le_trans O2282.2.1 f2289
          have ne2309 : b2158 ≠ x2284 := Nat.ne_of_lt (Nat.lt_of_lt_of_le (Exa.lt f2222) f2289)
          have ne2310 : x2165 ≠ x2284 := Nat.ne_of_lt (Nat.lt_of_lt_of_le (Exa.lt f2227) f2289)
          have ne2311 : x2166 ≠ x2284 := Nat.ne_of_lt (Nat.lt_of_lt_of_le (Exa.lt f2235) f2289)
          have ne2312 : x2168 ≠ x2284 := Nat.ne_of_lt (Nat.lt_of_lt_of_le (Exa.lt f2237) f2289)
          have ne2313 : x2169 ≠ x2284 := Nat.ne_of_lt (Nat.lt_of_lt_of_le (Exa.lt f2245) f2289)
          have ge2314 : n0 ≤ x2285 := by rw [← O2282.1]; exact Nat.le_trans O2282.2.1 f2290
          have ne2315 : b2158 ≠ x2285 := Nat.ne_of_lt (Nat.lt_of_lt_of_le (Exa.lt f2222) f2290)
          have ne2316 : x2165 ≠ x2285 := Nat.ne_of_lt (Nat.lt_of_lt_of_le (Exa.lt f2227) f2290)
          have ne2317 : x2166 ≠ x2285 := Nat.ne_of_lt (Nat.lt_of_lt_of_le (Exa.lt f2235) f2290)
          have ne2318 : x2168 ≠ x2285 := Nat.ne_of_lt (Nat.lt_of_lt_of_le (Exa.lt f2237) f2290)
          have ne2319 : x2169 ≠ x2285 := Nat.ne_of_lt (Nat.lt_of_lt_of_le (Exa.lt f2245) f2290)
          have O2320 := O2282.keep k2288 (allS ge_b2158 all0)
          have f2322 := (Exa.keep f2227 k2288)
          have f2323 := (Fld.keep f2228 k2288 (ninS (Ne.symm ne2210) nin0))
          have f2324 := (Fld.keep f2229 k2288 (ninS (Ne.symm ne2210) nin0))
          have f2325 := (Fld.keep f2230 k2288 (ninS (Ne.symm ne2210) nin0))
          have f2326 := (Fld.keep f2231 k2288 (ninS (Ne.symm ne2210) nin0))
          have f2327 := (Fld.keep f2232 k2288 (ninS (Ne.symm ne2210) nin0))
          have f2328 := (Fld.keep f2233 k2288 (ninS (Ne.symm ne2210) nin0))
          have f2329 := (Fld.keep f2234 k2288 (ninS (Ne.symm ne2210) nin0))
          have f2330 := (Exa.keep f2235 k2288)
          have f2331 := (Arv.keep f2236 k2288 (ninS (Ne.symm ne2212) nin0))
          obtain ⟨cq2321, kq2321, q2321a, q2321b, q2321c⟩ := isOf hZ rfl f2292
          obtain ⟨_, _, ⟨T2321, L2321, k2321, n2321⟩, -, X2321, ⟨Lc2321, hQ2321, l2321, y2321, z2321⟩, st2321⟩ := X2283.virtualBack hx (y := (⟨"com/example/sluice/sluice/WaitRecorder", "intervalSnapshot", "(J)Lcom/example/sluice/sluice/WaitStatistics;"⟩ : MethodName)) (z := (⟨"com/example/sluice/sluice/WaitRecorder", "intervalSnapshot", "(J)Lcom/example/sluice/sluice/WaitStatistics;"⟩ : MethodName)) hown (mvT hZ (own_w hw 82 rfl)) (mvT hZ (own_w hw 83 rfl)) (notFace_of_selects (args := #[]) (mvT hZ (own_w hw 85 rfl))) (mvT hZ (own_w hw 85 rfl)) (mvT hZ (own_w hw 84 rfl)) (by decide) (backOf (W := 0) (rm_isnap l Z a0 hw [] b2158 nw x2 (own_fd nw x2) x2165 x2166 x2167 x2284 x2285 x2286 ((own_fd nw x2) * x2) ((0 : Int64) + (1 : Int64)) lt (0 : Int64) wV kV vV T2283.heap n0 O2320 f2292 f2293 f2294 f2295 f2296 f2322 f2323 f2324 f2325 f2326 f2327 f2328 f2329 f2330 f2331 f2297 f2298 f2299 f2300 f2301 f2302 f2303 f2304 f2305 f2306 ge_b2158 ge2209 ge2308 ne2210 ne2212 ne2309 ne2315 f2177 ne2310 ne2316 ne2311 ne2317 f2291 S_V E_V A_V hlen c2219) hZ (own_w hw 86 rfl) (own_w hw 7 rfl) (by decide) (by decide)) q2321a q2321c (g := (mkF m 117 #[.val (.long raw), .second, .val (.long nw), .second, .val (.long lt), .second, .val (.long pc_), .second, .val (.int fl), .val (.long x2), .second, .val (.int (1 : Int32)), .val (.int (1 : Int32)), .val (.int (0 : Int32)), .val (.ref b2158), .val (.long nw), .second, .unset, .unset, .unset, .unset, .unset, .unset, .unset, .unset, .unset, .unset, .unset, .unset, .unset] [(.long nw), (.ref b2158)])) rfl (by rw [hml]; rfl) (Steps.refl _) (argsL := [(.long nw)]) (rest := []) (lenOf pd_7 rfl) rfl (by show 2 * 0 + _ ≤ _; exact Nat.le_of_eq rfl) (hb hby at_117) (fun _ _ => ⟨rfl, rfl, (by decide : 13 + 5 ≤ _), (by decide : 88 + 35 ≤ _)⟩)
          dsimp only [Pt.U, Pt.locs, Pt.cells, Pt.slots] at X2321 l2321 y2321 z2321 st2321 hQ2321
          subst l2321 y2321 z2321
          obtain ⟨x2332, rfl, N2333, k2334, f2335, f2336, f2337⟩ := hQ2321
          have N2338 := Fr.app N2307 N2333
          have ge2339 : n0 ≤ x2332 := by rw [← O2320.1]; exact Nat.le_trans O2320.2.1 f2335
          have ne2340 : b2158 ≠ x2332 := Nat.ne_of_lt (Nat.lt_of_lt_of_le (Exa.lt f2292) f2335)
          have ne2341 : x2165 ≠ x2332 := Nat.ne_of_lt (Nat.lt_of_lt_of_le (Exa.lt f2322) f2335)
          have ne2342 : x2166 ≠ x2332 := Nat.ne_of_lt (Nat.lt_of_lt_of_le (Exa.lt f2330) f2335)
          have f2343 := (Exa.keep f2237 k2288)
          have ne2344 : x2168 ≠ x2332 := Nat.ne_of_lt (Nat.lt_of_lt_of_le (Exa.lt f2343) f2335)
          have f2345 := (Exa.keep f2245 k2288)
          have ne2346 : x2169 ≠ x2332 := Nat.ne_of_lt (Nat.lt_of_lt_of_le (Exa.lt f2345) f2335)
          have ne2347 : x2284 ≠ x2332 := Nat.ne_of_lt (Nat.lt_of_lt_of_le (Exa.lt f2297) f2335)
          have ne2348 : x2285 ≠ x2332 := Nat.ne_of_lt (Nat.lt_of_lt_of_le (Exa.lt f2305) f2335)
          have O2349 := O2320.keep k2334 all0
          obtain ⟨cq2350, kq2350, q2350a, q2350b, q2350c⟩ := isOf hZ rfl f2336
          obtain ⟨_, _, ⟨T2350, L2350, k2350, n2350⟩, -, X2350, ⟨Lc2350, hQ2350, l2350, y2350, z2350⟩, st2350⟩ := X2321.virtualBack hx (y := (⟨"com/example/sluice/sluice/WaitStatistics", "startedAtOnce", "()J"⟩ : MethodName)) (z := (⟨"com/example/sluice/sluice/WaitStatistics", "startedAtOnce", "()J"⟩ : MethodName)) hown (mvT hZ (own_w hw 124 rfl)) (mvT hZ (own_w hw 125 rfl)) (notFace_of_selects (args := #[]) (mvT hZ (own_w hw 127 rfl))) (mvT hZ (own_w hw 127 rfl)) (mvT hZ (own_w hw 126 rfl)) (by decide) (backOf (W := 0) (rm_get l Z a0 hw [] x2332 ((0 : Int64) + (1 : Int64)) T2321.heap n0 O2349 f2337) hZ (own_w hw 128 rfl) (own_w hw 94 rfl) (by decide) (by decide)) q2350a q2350c (g := (mkF m 120 #[.val (.long raw), .second, .val (.long nw), .second, .val (.long lt), .second, .val (.long pc_), .second, .val (.int fl), .val (.long x2), .second, .val (.int (1 : Int32)), .val (.int (1 : Int32)), .val (.int (0 : Int32)), .val (.ref b2158), .val (.long nw), .second, .unset, .unset, .unset, .unset, .unset, .unset, .unset, .unset, .unset, .unset, .unset, .unset, .unset] [(.ref x2332)])) rfl (by rw [hml]; rfl) (Steps.refl _) (argsL := []) (rest := []) (lenOf pd_8 rfl) rfl (by show 2 * 0 + _ ≤ _; exact Nat.le_of_eq rfl) (hb hby at_120) (fun _ _ => ⟨rfl, rfl, (by decide : 18 + 0 ≤ _), (by decide : 123 + 0 ≤ _)⟩)
          dsimp only [Pt.U, Pt.locs, Pt.cells, Pt.slots] at X2350 l2350 y2350 z2350 st2350 hQ2350
          subst l2350 y2350 z2350
          obtain ⟨rfl, N2351, k2352⟩ := hQ2350
          have N2353 := Fr.app N2338 N2351
          have f2355 := (Exa.keep f2292 k2334)
          have f2356 := (Fld.keep f2293 k2334 nin0)
          have f2357 := (Fld.keep f2294 k2334 nin0)
          have f2358 := (Fld.keep f2295 k2334 nin0)
          have f2359 := (Fld.keep f2296 k2334 nin0)
          have f2360 := (Exa.keep f2322 k2334)
          have f2361 := (Fld.keep f2323 k2334 nin0)
          have f2362 := (Fld.keep f2324 k2334 nin0)
          have f2363 := (Fld.keep f2325 k2334 nin0)
          have f2364 := (Fld.keep f2326 k2334 nin0)
          have f2365 := (Fld.keep f2327 k2334 nin0)
          have f2366 := (Fld.keep f2328 k2334 nin0)
          have f2367 := (Fld.keep f2329 k2334 nin0)
          have f2368 := (Exa.keep f2330 k2334)
          have f2369 := (Arv.keep f2331 k2334 nin0)
          have f2370 := (Exa.keep f2297 k2334)
          have f2371 := (Fld.keep f2298 k2334 nin0)
          have f2372 := (Fld.keep f2299 k2334 nin0)
          have f2373 := (Fld.keep f2300 k2334 nin0)
          have f2374 := (Fld.keep f2301 k2334 nin0)
          have f2375 := (Fld.keep f2302 k2334 nin0)
          have f2376 := (Fld.keep f2303 k2334 nin0)
          have f2377 := (Fld.keep f2304 k2334 nin0)
          have f2378 := (Exa.keep f2305 k2334)
          have f2379 := (Arv.keep f2306 k2334 nin0)
          obtain ⟨cq2354, kq2354, q2354a, q2354b, q2354c⟩ := isOf hZ k2352 f2355
          obtain ⟨_, _, ⟨T2354, L2354, k2354, n2354⟩, -, X2354, ⟨Lc2354, hQ2354, l2354, y2354, z2354⟩, st2354⟩ := X2350.virtualBack hx (y := (⟨"com/example/sluice/sluice/WaitRecorder", "startedAtOnceEarlier", "(J)V"⟩ : MethodName)) (z := (⟨"com/example/sluice/sluice/WaitRecorder", "startedAtOnceEarlier", "(J)V"⟩ : MethodName)) hown (mvT hZ (own_w hw 129 rfl)) (mvT hZ (own_w hw 130 rfl)) (notFace_of_selects (args := #[]) (mvT hZ (own_w hw 132 rfl))) (mvT hZ (own_w hw 132 rfl)) (mvT hZ (own_w hw 131 rfl)) (by decide) (backOf (W := 0) (rm_sae l Z a0 hw [] b2158 pc_ x2 (own_fd nw x2) x2165 x2166 x2167 x2284 x2285 x2286 ((own_fd nw x2) * x2) ((0 : Int64) + (1 : Int64)) lt (0 : Int64) T2321.heap n0 O2349 f2355 f2356 f2357 f2358 f2359 f2360 f2361 f2362 f2363 f2364 f2365 f2366 f2367 f2368 f2369 f2370 f2371 f2372 f2373 f2374 f2375 f2376 f2377 f2378 f2379 ge_b2158 ge2209 ge2308 ne2210 ne2212 ne2309 ne2315 f2177 ne2310 ne2316 ne2311 ne2317 f2291) hZ (own_w hw 133 rfl) (own_w hw 7 rfl) (by decide) (by decide)) q2354a q2354c (g := (mkF m 129 #[.val (.long raw), .second, .val (.long nw), .second, .val (.long lt), .second, .val (.long pc_), .second, .val (.int fl), .val (.long x2), .second, .val (.int (1 : Int32)), .val (.int (1 : Int32)), .val (.int (0 : Int32)), .val (.ref b2158), .val (.long nw), .second, .val (.long ((0 : Int64) + (1 : Int64))), .second, .unset, .unset, .unset, .unset, .unset, .unset, .unset, .unset, .unset, .unset, .unset] [(.long pc_), (.ref b2158)])) rfl (by rw [hml]; rfl) (Steps.refl _) (argsL := [(.long pc_)]) (rest := []) (lenOf pd_2 rfl) rfl (by show 2 * 0 + _ ≤ _; exact Nat.le_of_eq rfl) (hb hby at_129) (fun _ _ => ⟨rfl, k2352, (by decide : 18 + 0 ≤ _), (by decide : 123 + 0 ≤ _)⟩)
          dsimp only [Pt.U, Pt.locs, Pt.cells, Pt.slots] at X2354 l2354 y2354 z2354 st2354 hQ2354
          subst l2354 y2354 z2354
          obtain ⟨rfl, N2380, k2381, f2382, f2383, f2384, f2385, f2386, f2387, f2388, f2389, f2390, f2391, f2392, f2393, f2394, f2395, f2396, f2397, f2398, f2399, f2400, f2401⟩ := hQ2354
          have N2402 := Fr.app N2353 N2380
          have O2403 := O2349.keep k2381 (allS ge2209 (allS ge2308 all0))
          have f2405 := (Exa.keep f2355 k2381)
          have f2406 := (Fld.keep f2356 k2381 (ninS ne2210 (ninS ne2309 nin0)))
          have f2407 := (Fld.keep f2357 k2381 (ninS ne2210 (ninS ne2309 nin0)))
          have f2408 := (Fld.keep f2358 k2381 (ninS ne2210 (ninS ne2309 nin0)))
          have f2409 := (Fld.keep f2359 k2381 (ninS ne2210 (ninS ne2309 nin0)))
          obtain ⟨cq2404, kq2404, q2404a, q2404b, q2404c⟩ := isOf hZ rfl f2405
          obtain ⟨_, _, ⟨T2404, L2404, k2404, n2404⟩, -, X2404, ⟨Lc2404, hQ2404, l2404, y2404, z2404⟩, st2404⟩ := X2354.virtualBack hx (y := (⟨"com/example/sluice/sluice/WaitRecorder", "intervalSnapshot", "(J)Lcom/example/sluice/sluice/WaitStatistics;"⟩ : MethodName)) (z := (⟨"com/example/sluice/sluice/WaitRecorder", "intervalSnapshot", "(J)Lcom/example/sluice/sluice/WaitStatistics;"⟩ : MethodName)) hown (mvT hZ (own_w hw 82 rfl)) (mvT hZ (own_w hw 83 rfl)) (notFace_of_selects (args := #[]) (mvT hZ (own_w hw 85 rfl))) (mvT hZ (own_w hw 85 rfl)) (mvT hZ (own_w hw 84 rfl)) (by decide) (backOf (W := 0) (rm_isnap l Z a0 hw [] b2158 nw x2 (own_fd nw x2) x2165 x2166 x2167 x2284 x2285 x2286 ((own_fd nw x2) * x2) (((0 : Int64) + (1 : Int64)) + pc_) lt ((0 : Int64) + pc_) wV kV vV T2354.heap n0 O2403 f2405 f2406 f2407 f2408 f2409 f2382 f2383 f2384 f2385 f2386 f2387 f2388 f2389 f2390 f2391 f2392 f2393 f2394 f2395 f2396 f2397 f2398 f2399 f2400 f2401 ge_b2158 ge2209 ge2308 ne2210 ne2212 ne2309 ne2315 f2177 ne2310 ne2316 ne2311 ne2317 f2291 S_V E_V A_V hlen c2219) hZ (own_w hw 86 rfl) (own_w hw 7 rfl) (by decide) (by decide)) q2404a q2404c (g := (mkF m 136 #[.val (.long raw), .second, .val (.long nw), .second, .val (.long lt), .second, .val (.long pc_), .second, .val (.int fl), .val (.long x2), .second, .val (.int (1 : Int32)), .val (.int (1 : Int32)), .val (.int (0 : Int32)), .val (.ref b2158), .val (.long nw), .second, .val (.long ((0 : Int64) + (1 : Int64))), .second, .unset, .unset, .unset, .unset, .unset, .unset, .unset, .unset, .unset, .unset, .unset] [(.long nw), (.ref b2158)])) rfl (by rw [hml]; rfl) (Steps.refl _) (argsL := [(.long nw)]) (rest := []) (lenOf pd_7 rfl) rfl (by show 2 * 0 + _ ≤ _; exact Nat.le_of_eq rfl) (hb hby at_136) (fun _ _ => ⟨rfl, rfl, (by decide : 18 + 5 ≤ _), (by decide : 123 + 35 ≤ _)⟩)
          dsimp only [Pt.U, Pt.locs, Pt.cells, Pt.slots] at X2404 l2404 y2404 z2404 st2404 hQ2404
          subst l2404 y2404 z2404
          obtain ⟨x2410, rfl, N2411, k2412, f2413, f2414, f2415⟩ := hQ2404
          have N2416 := Fr.app N2402 N2411
          have ge2417 : n0 ≤ x2410 := by rw [← O2403.1]; exact Nat.le_trans O2403.2.1 f2413
          have ne2418 : b2158 ≠ x2410 := Nat.ne_of_lt (Nat.lt_of_lt_of_le (Exa.lt f2405) f2413)
          have ne2419 : x2165 ≠ x2410 := Nat.ne_of_lt (Nat.lt_of_lt_of_le (Exa.lt f2382) f2413)
          have ne2420 : x2166 ≠ x2410 := Nat.ne_of_lt (Nat.lt_of_lt_of_le (Exa.lt f2390) f2413)
          have f2421 := (Exa.keep (Exa.keep f2343 k2334) k2381)
          have ne2422 : x2168 ≠ x2410 := Nat.ne_of_lt (Nat.lt_of_lt_of_le (Exa.lt f2421) f2413)
          have f2423 := (Exa.keep (Exa.keep f2345 k2334) k2381)
          have ne2424 : x2169 ≠ x2410 := Nat.ne_of_lt (Nat.lt_of_lt_of_le (Exa.lt f2423) f2413)
          have ne2425 : x2284 ≠ x2410 := Nat.ne_of_lt (Nat.lt_of_lt_of_le (Exa.lt f2392) f2413)
          have ne2426 : x2285 ≠ x2410 := Nat.ne_of_lt (Nat.lt_of_lt_of_le (Exa.lt f2400) f2413)
          have f2427 := (Exa.keep f2336 k2381)
          have ne2428 : x2332 ≠ x2410 := Nat.ne_of_lt (Nat.lt_of_lt_of_le (Exa.lt f2427) f2413)
          have O2429 := O2403.keep k2412 all0
          obtain ⟨cq2430, kq2430, q2430a, q2430b, q2430c⟩ := isOf hZ rfl f2414
          obtain ⟨_, _, ⟨T2430, L2430, k2430, n2430⟩, -, X2430, ⟨Lc2430, hQ2430, l2430, y2430, z2430⟩, st2430⟩ := X2404.virtualBack hx (y := (⟨"com/example/sluice/sluice/WaitStatistics", "startedAtOnce", "()J"⟩ : MethodName)) (z := (⟨"com/example/sluice/sluice/WaitStatistics", "startedAtOnce", "()J"⟩ : MethodName)) hown (mvT hZ (own_w hw 124 rfl)) (mvT hZ (own_w hw 125 rfl)) (notFace_of_selects (args := #[]) (mvT hZ (own_w hw 127 rfl))) (mvT hZ (own_w hw 127 rfl)) (mvT hZ (own_w hw 126 rfl)) (by decide) (backOf (W := 0) (rm_get l Z a0 hw [] x2410 (((0 : Int64) + (1 : Int64)) + pc_) T2404.heap n0 O2429 f2415) hZ (own_w hw 128 rfl) (own_w hw 94 rfl) (by decide) (by decide)) q2430a q2430c (g := (mkF m 139 #[.val (.long raw), .second, .val (.long nw), .second, .val (.long lt), .second, .val (.long pc_), .second, .val (.int fl), .val (.long x2), .second, .val (.int (1 : Int32)), .val (.int (1 : Int32)), .val (.int (0 : Int32)), .val (.ref b2158), .val (.long nw), .second, .val (.long ((0 : Int64) + (1 : Int64))), .second, .unset, .unset, .unset, .unset, .unset, .unset, .unset, .unset, .unset, .unset, .unset] [(.ref x2410)])) rfl (by rw [hml]; rfl) (Steps.refl _) (argsL := []) (rest := []) (lenOf pd_8 rfl) rfl (by show 2 * 0 + _ ≤ _; exact Nat.le_of_eq rfl) (hb hby at_139) (fun _ _ => ⟨rfl, rfl, (by decide : 23 + 0 ≤ _), (by decide : 158 + 0 ≤ _)⟩)
          dsimp only [Pt.U, Pt.locs, Pt.cells, Pt.slots] at X2430 l2430 y2430 z2430 st2430 hQ2430
          subst l2430 y2430 z2430
          obtain ⟨rfl, N2431, k2432⟩ := hQ2430
          have N2433 := Fr.app N2416 N2431
          have f2435 := (Exa.keep f2405 k2412)
          have f2436 := (Fld.keep f2409 k2412 nin0)
          have f2437 := (Exa.keep f2392 k2412)
          have f2438 := (Fld.keep f2393 k2412 nin0)
          have f2439 := (Fld.keep f2394 k2412 nin0)
          have f2440 := (Fld.keep f2395 k2412 nin0)
          have f2441 := (Fld.keep f2396 k2412 nin0)
          have f2442 := (Fld.keep f2397 k2412 nin0)
          have f2443 := (Fld.keep f2398 k2412 nin0)
          have f2444 := (Fld.keep f2399 k2412 nin0)
          have f2445 := (Exa.keep f2400 k2412)
          have f2446 := (Arv.keep f2401 k2412 nin0)
          obtain ⟨cq2434, kq2434, q2434a, q2434b, q2434c⟩ := isOf hZ k2432 f2435
          obtain ⟨_, _, ⟨T2434, L2434, k2434, n2434⟩, -, X2434, ⟨Lc2434, hQ2434, l2434, y2434, z2434⟩, st2434⟩ := X2430.virtualBack hx (y := (⟨"com/example/sluice/sluice/WaitRecorder", "sinceResetSnapshot", "()Lcom/example/sluice/sluice/WaitStatistics;"⟩ : MethodName)) (z := (⟨"com/example/sluice/sluice/WaitRecorder", "sinceResetSnapshot", "()Lcom/example/sluice/sluice/WaitStatistics;"⟩ : MethodName)) hown (mvT hZ (own_w hw 134 rfl)) (mvT hZ (own_w hw 135 rfl)) (notFace_of_selects (args := #[]) (mvT hZ (own_w hw 137 rfl))) (mvT hZ (own_w hw 137 rfl)) (mvT hZ (own_w hw 136 rfl)) (by decide) (backOf (W := 0) (rm_ssnap l Z a0 hw [] b2158 x2284 lt ((0 : Int64) + pc_) x2285 x2286 T2404.heap n0 O2429 f2436 f2437 f2438 f2439 f2440 f2441 f2442 f2443 f2444 f2445 f2446) hZ (own_w hw 138 rfl) (own_w hw 7 rfl) (by decide) (by decide)) q2434a q2434c (g := (mkF m 146 #[.val (.long raw), .second, .val (.long nw), .second, .val (.long lt), .second, .val (.long pc_), .second, .val (.int fl), .val (.long x2), .second, .val (.int (1 : Int32)), .val (.int (1 : Int32)), .val (.int (0 : Int32)), .val (.ref b2158), .val (.long nw), .second, .val (.long ((0 : Int64) + (1 : Int64))), .second, .val (.long (((0 : Int64) + (1 : Int64)) + pc_)), .second, .unset, .unset, .unset, .unset, .unset, .unset, .unset, .unset, .unset] [(.ref b2158)])) rfl (by rw [hml]; rfl) (Steps.refl _) (argsL := []) (rest := []) (lenOf pd_5 rfl) rfl (by show 2 * 0 + _ ≤ _; exact Nat.le_of_eq rfl) (hb hby at_146) (fun _ _ => ⟨rfl, k2432, (by decide : 23 + 2 ≤ _), (by decide : 158 + 14 ≤ _)⟩)
          dsimp only [Pt.U, Pt.locs, Pt.cells, Pt.slots] at X2434 l2434 y2434 z2434 st2434 hQ2434
          subst l2434 y2434 z2434
          obtain ⟨x2447, rfl, N2448, k2449, f2450, f2451, f2452⟩ := hQ2434
          have N2453 := Fr.app N2433 N2448
          have ge2454 : n0 ≤ x2447 := by rw [← O2429.1]; exact Nat.le_trans O2429.2.1 f2450
          have ne2455 : b2158 ≠ x2447 := Nat.ne_of_lt (Nat.lt_of_lt_of_le (Exa.lt f2435) f2450)
          have f2456 := (Exa.keep f2382 k2412)
          have ne2457 : x2165 ≠ x2447 := Nat.ne_of_lt (Nat.lt_of_lt_of_le (Exa.lt f2456) f2450)
          have f2458 := (Exa.keep f2390 k2412)
          have ne2459 : x2166 ≠ x2447 := Nat.ne_of_lt (Nat.lt_of_lt_of_le (Exa.lt f2458) f2450)
          have f2460 := (Exa.keep f2421 k2412)
          have ne2461 : x2168 ≠ x2447 := Nat.ne_of_lt (Nat.lt_of_lt_of_le (Exa.lt f2460) f2450)
          have f2462 := (Exa.keep f2423 k2412)
          have ne2463 : x2169 ≠ x2447 := Nat.ne_of_lt (Nat.lt_of_lt_of_le (Exa.lt f2462) f2450)
          have ne2464 : x2284 ≠ x2447 := Nat.ne_of_lt (Nat.lt_of_lt_of_le (Exa.lt f2437) f2450)
          have ne2465 : x2285 ≠ x2447 := Nat.ne_of_lt (Nat.lt_of_lt_of_le (Exa.lt f2445) f2450)
          have f2466 := (Exa.keep f2427 k2412)
          have ne2467 : x2332 ≠ x2447 := Nat.ne_of_lt (Nat.lt_of_lt_of_le (Exa.lt f2466) f2450)
          have ne2468 : x2410 ≠ x2447 := Nat.ne_of_lt (Nat.lt_of_lt_of_le (Exa.lt f2414) f2450)
          have O2469 := O2429.keep k2449 all0
          obtain ⟨cq2470, kq2470, q2470a, q2470b, q2470c⟩ := isOf hZ rfl f2451
          obtain ⟨_, _, ⟨T2470, L2470, k2470, n2470⟩, -, X2470, ⟨Lc2470, hQ2470, l2470, y2470, z2470⟩, st2470⟩ := X2434.virtualBack hx (y := (⟨"com/example/sluice/sluice/WaitStatistics", "startedAtOnce", "()J"⟩ : MethodName)) (z := (⟨"com/example/sluice/sluice/WaitStatistics", "startedAtOnce", "()J"⟩ : MethodName)) hown (mvT hZ (own_w hw 124 rfl)) (mvT hZ (own_w hw 125 rfl)) (notFace_of_selects (args := #[]) (mvT hZ (own_w hw 127 rfl))) (mvT hZ (own_w hw 127 rfl)) (mvT hZ (own_w hw 126 rfl)) (by decide) (backOf (W := 0) (rm_get l Z a0 hw [] x2447 ((0 : Int64) + pc_) T2434.heap n0 O2469 f2452) hZ (own_w hw 128 rfl) (own_w hw 94 rfl) (by decide) (by decide)) q2470a q2470c (g := (mkF m 149 #[.val (.long raw), .second, .val (.long nw), .second, .val (.long lt), .second, .val (.long pc_), .second, .val (.int fl), .val (.long x2), .second, .val (.int (1 : Int32)), .val (.int (1 : Int32)), .val (.int (0 : Int32)), .val (.ref b2158), .val (.long nw), .second, .val (.long ((0 : Int64) + (1 : Int64))), .second, .val (.long (((0 : Int64) + (1 : Int64)) + pc_)), .second, .unset, .unset, .unset, .unset, .unset, .unset, .unset, .unset, .unset] [(.ref x2447)])) rfl (by rw [hml]; rfl) (Steps.refl _) (argsL := []) (rest := []) (lenOf pd_8 rfl) rfl (by show 2 * 0 + _ ≤ _; exact Nat.le_of_eq rfl) (hb hby at_149) (fun _ _ => ⟨rfl, rfl, (by decide : 25 + 0 ≤ _), (by decide : 172 + 0 ≤ _)⟩)
          dsimp only [Pt.U, Pt.locs, Pt.cells, Pt.slots] at X2470 l2470 y2470 z2470 st2470 hQ2470
          subst l2470 y2470 z2470
          obtain ⟨rfl, N2471, k2472⟩ := hQ2470
          have N2473 := Fr.app N2453 N2471
          have S2474 : ∀ t, Steps p.tables e below (T2470.setTop (mkF m 271 #[.val (.long raw), .second, .val (.long nw), .second, .val (.long lt), .second, .val (.long pc_), .second, .val (.int fl), .val (.long x2), .second, .val (.int (1 : Int32)), .val (.int (1 : Int32)), .val (.int (0 : Int32)), .val (.ref b2158), .val (.long nw), .second, .val (.long ((0 : Int64) + (1 : Int64))), .second, .val (.long (((0 : Int64) + (1 : Int64)) + pc_)), .second, .val (.long ((0 : Int64) + pc_)), .second, .val (.long (1 : Int64)), .second, .val (.long (0 : Int64)), .second, .val (.int (1 : Int32)), .val (.long ((0 : Int64) + pc_)), .second] [(.int (1 : Int32))])) t → Steps p.tables e below (s₁.setTop (mkF m 0 #[.val (.long raw), .second, .val (.long nw), .second, .val (.long lt), .second, .val (.long pc_), .second, .val (.int fl), .unset, .unset, .unset, .unset, .unset, .unset, .unset, .unset, .unset, .unset, .unset, .unset, .unset, .unset, .unset, .unset, .unset, .unset, .unset, .unset, .unset] [])) t := by
            intro t kt
            refine S2156 t ?_
            refine XS.ifYes X1.here hx rfl (pc0 := 43) (pc' := 50) rfl (hb hby at_43) rfl ((if0 _ _).trans (teq (c2157 : (fl &&& (4 : Int32)) = (0 : Int32))).1) (by decide) (by decide) ?_
            refine XS.iconst X1.here hx rfl (hb hby at_50) ?_
            refine XS.istore X1.here hx rfl (hb hby at_51) rfl (l' := #[.val (.long raw), .second, .val (.long nw), .second, .val (.long lt), .second, .val (.long pc_), .second, .val (.int fl), .val (.long x2), .second, .val (.int (1 : Int32)), .val (.int (1 : Int32)), .val (.int (0 : Int32)), .unset, .unset, .unset, .unset, .unset, .unset, .unset, .unset, .unset, .unset, .unset, .unset, .unset, .unset, .unset, .unset]) rfl ?_
            show Steps p.tables e below (T1.setTop (mkF m 53 #[.val (.long raw), .second, .val (.long nw), .second, .val (.long lt), .second, .val (.long pc_), .second, .val (.int fl), .val (.long x2), .second, .val (.int (1 : Int32)), .val (.int (1 : Int32)), .val (.int (0 : Int32)), .unset, .unset, .unset, .unset, .unset, .unset, .unset, .unset, .unset, .unset, .unset, .unset, .unset, .unset, .unset, .unset] [])) _
            refine st2158 _ ?_
            refine XS.dup X2158.here hx rfl (hb hby at_56) rfl rfl ?_
            refine XS.lload X2158.here hx rfl (hb hby at_57) rfl ?_
            refine XS.lloadN X2158.here hx rfl (hb hby at_59) rfl ?_
            show Steps p.tables e below (T2158.setTop (mkF m 60 #[.val (.long raw), .second, .val (.long nw), .second, .val (.long lt), .second, .val (.long pc_), .second, .val (.int fl), .val (.long x2), .second, .val (.int (1 : Int32)), .val (.int (1 : Int32)), .val (.int (0 : Int32)), .unset, .unset, .unset, .unset, .unset, .unset, .unset, .unset, .unset, .unset, .unset, .unset, .unset, .unset, .unset, .unset] [(.long nw), (.long x2), (.ref b2158), (.ref b2158)])) _
            refine st2164.trans ?_
            refine XS.astore X2164.here hx rfl (hb hby at_63) rfl rfl (l' := #[.val (.long raw), .second, .val (.long nw), .second, .val (.long lt), .second, .val (.long pc_), .second, .val (.int fl), .val (.long x2), .second, .val (.int (1 : Int32)), .val (.int (1 : Int32)), .val (.int (0 : Int32)), .val (.ref b2158), .unset, .unset, .unset, .unset, .unset, .unset, .unset, .unset, .unset, .unset, .unset, .unset, .unset, .unset, .unset]) rfl ?_
            refine XS.iload X2164.here hx rfl (hb hby at_65) rfl ?_
            refine XS.ifNo X2164.here hx rfl (hb hby at_67) rfl ((if0 _ _).trans (feq ((by decide) : ¬ ((1 : Int32) = (0 : Int32)))).1) ?_
            refine XS.aload X2164.here hx rfl (hb hby at_70) rfl rfl ?_
            refine XS.lloadN X2164.here hx rfl (hb hby at_72) rfl ?_
            show Steps p.tables e below (T2164.setTop (mkF m 73 #[.val (.long raw), .second, .val (.long nw), .second, .val (.long lt), .second, .val (.long pc_), .second, .val (.int fl), .val (.long x2), .second, .val (.int (1 : Int32)), .val (.int (1 : Int32)), .val (.int (0 : Int32)), .val (.ref b2158), .unset, .unset, .unset, .unset, .unset, .unset, .unset, .unset, .unset, .unset, .unset, .unset, .unset, .unset, .unset] [(.long nw), (.ref b2158)])) _
            refine st2218.trans ?_
            refine XS.iload X2218.here hx rfl (hb hby at_76) rfl ?_
            refine XS.ifYes X2218.here hx rfl (pc0 := 78) (pc' := 88) rfl (hb hby at_78) rfl ((if0 _ _).trans (teq ((by decide) : (0 : Int32) = (0 : Int32))).1) (by decide) (by decide) ?_
            refine XS.iload X2218.here hx rfl (hb hby at_88) rfl ?_
            refine XS.ifNo X2218.here hx rfl (hb hby at_90) rfl ((if0 _ _).trans (feq ((by decide) : ¬ ((1 : Int32) = (0 : Int32)))).1) ?_
            refine XS.aload X2218.here hx rfl (hb hby at_93) rfl rfl ?_
            show Steps p.tables e below (T2218.setTop (mkF m 95 #[.val (.long raw), .second, .val (.long nw), .second, .val (.long lt), .second, .val (.long pc_), .second, .val (.int fl), .val (.long x2), .second, .val (.int (1 : Int32)), .val (.int (1 : Int32)), .val (.int (0 : Int32)), .val (.ref b2158), .unset, .unset, .unset, .unset, .unset, .unset, .unset, .unset, .unset, .unset, .unset, .unset, .unset, .unset, .unset] [(.ref b2158)])) _
            refine XS.lload X2218.here hx rfl (hb hby at_95) rfl ?_
            show Steps p.tables e below (T2218.setTop (mkF m 97 #[.val (.long raw), .second, .val (.long nw), .second, .val (.long lt), .second, .val (.long pc_), .second, .val (.int fl), .val (.long x2), .second, .val (.int (1 : Int32)), .val (.int (1 : Int32)), .val (.int (0 : Int32)), .val (.ref b2158), .unset, .unset, .unset, .unset, .unset, .unset, .unset, .unset, .unset, .unset, .unset, .unset, .unset, .unset, .unset] [(.long lt), (.ref b2158)])) _
            refine st2283.trans ?_
            refine XS.iload X2283.here hx rfl (hb hby at_100) rfl ?_
            refine XS.ifYes X2283.here hx rfl (pc0 := 102) (pc' := 110) rfl (hb hby at_102) rfl ((if0 _ _).trans (teq ((by decide) : (0 : Int32) = (0 : Int32))).1) (by decide) (by decide) ?_
            refine XS.lloadN X2283.here hx rfl (hb hby at_110) rfl ?_
            refine XS.lstore X2283.here hx rfl (hb hby at_111) rfl (l' := #[.val (.long raw), .second, .val (.long nw), .second, .val (.long lt), .second, .val (.long pc_), .second, .val (.int fl), .val (.long x2), .second, .val (.int (1 : Int32)), .val (.int (1 : Int32)), .val (.int (0 : Int32)), .val (.ref b2158), .val (.long nw), .second, .unset, .unset, .unset, .unset, .unset, .unset, .unset, .unset, .unset, .unset, .unset, .unset, .unset]) rfl ?_
            refine XS.aload X2283.here hx rfl (hb hby at_113) rfl rfl ?_
            show Steps p.tables e below (T2283.setTop (mkF m 115 #[.val (.long raw), .second, .val (.long nw), .second, .val (.long lt), .second, .val (.long pc_), .second, .val (.int fl), .val (.long x2), .second, .val (.int (1 : Int32)), .val (.int (1 : Int32)), .val (.int (0 : Int32)), .val (.ref b2158), .val (.long nw), .second, .unset, .unset, .unset, .unset, .unset, .unset, .unset, .unset, .unset, .unset, .unset, .unset, .unset] [(.ref b2158)])) _
            refine XS.lload X2283.here hx rfl (hb hby at_115) rfl ?_
            show Steps p.tables e below (T2283.setTop (mkF m 117 #[.val (.long raw), .second, .val (.long nw), .second, .val (.long lt), .second, .val (.long pc_), .second, .val (.int fl), .val (.long x2), .second, .val (.int (1 : Int32)), .val (.int (1 : Int32)), .val (.int (0 : Int32)), .val (.ref b2158), .val (.long nw), .second, .unset, .unset, .unset, .unset, .unset, .unset, .unset, .unset, .unset, .unset, .unset, .unset, .unset] [(.long nw), (.ref b2158)])) _
            refine st2321.trans ?_
            show Steps p.tables e below (T2321.setTop (mkF m 120 #[.val (.long raw), .second, .val (.long nw), .second, .val (.long lt), .second, .val (.long pc_), .second, .val (.int fl), .val (.long x2), .second, .val (.int (1 : Int32)), .val (.int (1 : Int32)), .val (.int (0 : Int32)), .val (.ref b2158), .val (.long nw), .second, .unset, .unset, .unset, .unset, .unset, .unset, .unset, .unset, .unset, .unset, .unset, .unset, .unset] [(.ref x2332)])) _
            refine st2350.trans ?_
            refine XS.lstore X2350.here hx rfl (hb hby at_123) rfl (l' := #[.val (.long raw), .second, .val (.long nw), .second, .val (.long lt), .second, .val (.long pc_), .second, .val (.int fl), .val (.long x2), .second, .val (.int (1 : Int32)), .val (.int (1 : Int32)), .val (.int (0 : Int32)), .val (.ref b2158), .val (.long nw), .second, .val (.long ((0 : Int64) + (1 : Int64))), .second, .unset, .unset, .unset, .unset, .unset, .unset, .unset, .unset, .unset, .unset, .unset]) rfl ?_
            refine XS.aload X2350.here hx rfl (hb hby at_125) rfl rfl ?_
            refine XS.lload X2350.here hx rfl (hb hby at_127) rfl ?_
            show Steps p.tables e below (T2350.setTop (mkF m 129 #[.val (.long raw), .second, .val (.long nw), .second, .val (.long lt), .second, .val (.long pc_), .second, .val (.int fl), .val (.long x2), .second, .val (.int (1 : Int32)), .val (.int (1 : Int32)), .val (.int (0 : Int32)), .val (.ref b2158), .val (.long nw), .second, .val (.long ((0 : Int64) + (1 : Int64))), .second, .unset, .unset, .unset, .unset, .unset, .unset, .unset, .unset, .unset, .unset, .unset] [(.long pc_), (.ref b2158)])) _
            refine st2354.trans ?_
            refine XS.aload X2354.here hx rfl (hb hby at_132) rfl rfl ?_
            refine XS.lload X2354.here hx rfl (hb hby at_134) rfl ?_
            show Steps p.tables e below (T2354.setTop (mkF m 136 #[.val (.long raw), .second, .val (.long nw), .second, .val (.long lt), .second, .val (.long pc_), .second, .val (.int fl), .val (.long x2), .second, .val (.int (1 : Int32)), .val (.int (1 : Int32)), .val (.int (0 : Int32)), .val (.ref b2158), .val (.long nw), .second, .val (.long ((0 : Int64) + (1 : Int64))), .second, .unset, .unset, .unset, .unset, .unset, .unset, .unset, .unset, .unset, .unset, .unset] [(.long nw), (.ref b2158)])) _
            refine st2404.trans ?_
            show Steps p.tables e below (T2404.setTop (mkF m 139 #[.val (.long raw), .second, .val (.long nw), .second, .val (.long lt), .second, .val (.long pc_), .second, .val (.int fl), .val (.long x2), .second, .val (.int (1 : Int32)), .val (.int (1 : Int32)), .val (.int (0 : Int32)), .val (.ref b2158), .val (.long nw), .second, .val (.long ((0 : Int64) + (1 : Int64))), .second, .unset, .unset, .unset, .unset, .unset, .unset, .unset, .unset, .unset, .unset, .unset] [(.ref x2410)])) _
            refine st2430.trans ?_
            refine XS.lstore X2430.here hx rfl (hb hby at_142) rfl (l' := #[.val (.long raw), .second, .val (.long nw), .second, .val (.long lt), .second, .val (.long pc_), .second, .val (.int fl), .val (.long x2), .second, .val (.int (1 : Int32)), .val (.int (1 : Int32)), .val (.int (0 : Int32)), .val (.ref b2158), .val (.long nw), .second, .val (.long ((0 : Int64) + (1 : Int64))), .second, .val (.long (((0 : Int64) + (1 : Int64)) + pc_)), .second, .unset, .unset, .unset, .unset, .unset, .unset, .unset, .unset, .unset]) rfl ?_
            refine XS.aload X2430.here hx rfl (hb hby at_144) rfl rfl ?_
            show Steps p.tables e below (T2430.setTop (mkF m 146 #[.val (.long raw), .second, .val (.long nw), .second, .val (.long lt), .second, .val (.long pc_), .second, .val (.int fl), .val (.long x2), .second, .val (.int (1 : Int32)), .val (.int (1 : Int32)), .val (.int (0 : Int32)), .val (.ref b2158), .val (.long nw), .second, .val (.long ((0 : Int64) + (1 : Int64))), .second, .val (.long (((0 : Int64) + (1 : Int64)) + pc_)), .second, .unset, .unset, .unset, .unset, .unset, .unset, .unset, .unset, .unset] [(.ref b2158)])) _
            refine st2434.trans ?_
            show Steps p.tables e below (T2434.setTop (mkF m 149 #[.val (.long raw), .second, .val (.long nw), .second, .val (.long lt), .second, .val (.long pc_), .second, .val (.int fl), .val (.long x2), .second, .val (.int (1 : Int32)), .val (.int (1 : Int32)), .val (.int (0 : Int32)), .val (.ref b2158), .val (.long nw), .second, .val (.long ((0 : Int64) + (1 : Int64))), .second, .val (.long (((0 : Int64) + (1 : Int64)) + pc_)), .second, .unset, .unset, .unset, .unset, .unset, .unset, .unset, .unset, .unset] [(.ref x2447)])) _
            refine st2470.trans ?_
            refine XS.lstore X2470.here hx rfl (hb hby at_152) rfl (l' := #[.val (.long raw), .second, .val (.long nw), .second, .val (.long lt), .second, .val (.long pc_), .second, .val (.int fl), .val (.long x2), .second, .val (.int (1 : Int32)), .val (.int (1 : Int32)), .val (.int (0 : Int32)), .val (.ref b2158), .val (.long nw), .second, .val (.long ((0 : Int64) + (1 : Int64))), .second, .val (.long (((0 : Int64) + (1 : Int64)) + pc_)), .second, .val (.long ((0 : Int64) + pc_)), .second, .unset, .unset, .unset, .unset, .unset, .unset, .unset]) rfl ?_
            refine XS.iload X2470.here hx rfl (hb hby at_154) rfl ?_
            refine XS.ifNo X2470.here hx rfl (hb hby at_156) rfl ((if0 _ _).trans (feq ((by decide) : ¬ ((1 : Int32) = (0 : Int32)))).1) ?_
            refine XS.lconst X2470.here hx rfl (hb hby at_159) ?_
            refine XS.goto X2470.here hx rfl (pc0 := 160) (pc' := 164) rfl (hb hby at_160) (by decide) (by decide) ?_
            show Steps p.tables e below (T2470.setTop (mkF m 164 #[.val (.long raw), .second, .val (.long nw), .second, .val (.long lt), .second, .val (.long pc_), .second, .val (.int fl), .val (.long x2), .second, .val (.int (1 : Int32)), .val (.int (1 : Int32)), .val (.int (0 : Int32)), .val (.ref b2158), .val (.long nw), .second, .val (.long ((0 : Int64) + (1 : Int64))), .second, .val (.long (((0 : Int64) + (1 : Int64)) + pc_)), .second, .val (.long ((0 : Int64) + pc_)), .second, .unset, .unset, .unset, .unset, .unset, .unset, .unset] [(.long (1 : Int64))])) _
            refine XS.lstore X2470.here hx rfl (hb hby at_164) rfl (l' := #[.val (.long raw), .second, .val (.long nw), .second, .val (.long lt), .second, .val (.long pc_), .second, .val (.int fl), .val (.long x2), .second, .val (.int (1 : Int32)), .val (.int (1 : Int32)), .val (.int (0 : Int32)), .val (.ref b2158), .val (.long nw), .second, .val (.long ((0 : Int64) + (1 : Int64))), .second, .val (.long (((0 : Int64) + (1 : Int64)) + pc_)), .second, .val (.long ((0 : Int64) + pc_)), .second, .val (.long (1 : Int64)), .second, .unset, .unset, .unset, .unset, .unset]) rfl ?_
            refine XS.iload X2470.here hx rfl (hb hby at_166) rfl ?_
            refine XS.ifYes X2470.here hx rfl (pc0 := 168) (pc' := 175) rfl (hb hby at_168) rfl ((if0 _ _).trans (teq ((by decide) : (0 : Int32) = (0 : Int32))).1) (by decide) (by decide) ?_
            refine XS.lconst X2470.here hx rfl (hb hby at_175) ?_
            refine XS.lstore X2470.here hx rfl (hb hby at_176) rfl (l' := #[.val (.long raw), .second, .val (.long nw), .second, .val (.long lt), .second, .val (.long pc_), .second, .val (.int fl), .val (.long x2), .second, .val (.int (1 : Int32)), .val (.int (1 : Int32)), .val (.int (0 : Int32)), .val (.ref b2158), .val (.long nw), .second, .val (.long ((0 : Int64) + (1 : Int64))), .second, .val (.long (((0 : Int64) + (1 : Int64)) + pc_)), .second, .val (.long ((0 : Int64) + pc_)), .second, .val (.long (1 : Int64)), .second, .val (.long (0 : Int64)), .second, .unset, .unset, .unset]) rfl ?_
            refine XS.iload X2470.here hx rfl (hb hby at_178) rfl ?_
            show Steps p.tables e below (T2470.setTop (mkF m 180 #[.val (.long raw), .second, .val (.long nw), .second, .val (.long lt), .second, .val (.long pc_), .second, .val (.int fl), .val (.long x2), .second, .val (.int (1 : Int32)), .val (.int (1 : Int32)), .val (.int (0 : Int32)), .val (.ref b2158), .val (.long nw), .second, .val (.long ((0 : Int64) + (1 : Int64))), .second, .val (.long (((0 : Int64) + (1 : Int64)) + pc_)), .second, .val (.long ((0 : Int64) + pc_)), .second, .val (.long (1 : Int64)), .second, .val (.long (0 : Int64)), .second, .unset, .unset, .unset] [(.int (0 : Int32))])) _
            refine XS.ifYes X2470.here hx rfl (pc0 := 180) (pc' := 208) rfl (hb hby at_180) rfl ((if0 _ _).trans (teq ((by decide) : (0 : Int32) = (0 : Int32))).1) (by decide) (by decide) ?_
            refine XS.lload X2470.here hx rfl (hb hby at_208) rfl ?_
            refine XS.lload X2470.here hx rfl (hb hby at_210) rfl ?_
            refine XS.lcmp X2470.here hx rfl (hb hby at_212) rfl ?_
            refine XS.ifNo X2470.here hx rfl (hb hby at_213) rfl ((if0 _ _).trans (teq ((lw_eq ((0 : Int64) + (1 : Int64)) (1 : Int64)).mpr ((by decide) : ((0 : Int64) + (1 : Int64)) = (1 : Int64)) : (lcmpW ((0 : Int64) + (1 : Int64)) (1 : Int64)) = (0 : Int32))).2) ?_
            refine XS.iconst X2470.here hx rfl (hb hby at_216) ?_
            show Steps p.tables e below (T2470.setTop (mkF m 217 #[.val (.long raw), .second, .val (.long nw), .second, .val (.long lt), .second, .val (.long pc_), .second, .val (.int fl), .val (.long x2), .second, .val (.int (1 : Int32)), .val (.int (1 : Int32)), .val (.int (0 : Int32)), .val (.ref b2158), .val (.long nw), .second, .val (.long ((0 : Int64) + (1 : Int64))), .second, .val (.long (((0 : Int64) + (1 : Int64)) + pc_)), .second, .val (.long ((0 : Int64) + pc_)), .second, .val (.long (1 : Int64)), .second, .val (.long (0 : Int64)), .second, .unset, .unset, .unset] [(.int (1 : Int32))])) _
            refine XS.goto X2470.here hx rfl (pc0 := 217) (pc' := 221) rfl (hb hby at_217) (by decide) (by decide) ?_
            refine XS.istore X2470.here hx rfl (hb hby at_221) rfl (l' := #[.val (.long raw), .second, .val (.long nw), .second, .val (.long lt), .second, .val (.long pc_), .second, .val (.int fl), .val (.long x2), .second, .val (.int (1 : Int32)), .val (.int (1 : Int32)), .val (.int (0 : Int32)), .val (.ref b2158), .val (.long nw), .second, .val (.long ((0 : Int64) + (1 : Int64))), .second, .val (.long (((0 : Int64) + (1 : Int64)) + pc_)), .second, .val (.long ((0 : Int64) + pc_)), .second, .val (.long (1 : Int64)), .second, .val (.long (0 : Int64)), .second, .val (.int (1 : Int32)), .unset, .unset]) rfl ?_
            refine XS.iload X2470.here hx rfl (hb hby at_223) rfl ?_
            refine XS.ifNo X2470.here hx rfl (hb hby at_225) rfl ((if0 _ _).trans (feq ((by decide) : ¬ ((1 : Int32) = (0 : Int32)))).1) ?_
            refine XS.lconst X2470.here hx rfl (hb hby at_228) ?_
            refine XS.goto X2470.here hx rfl (pc0 := 229) (pc' := 237) rfl (hb hby at_229) (by decide) (by decide) ?_
            show Steps p.tables e below (T2470.setTop (mkF m 237 #[.val (.long raw), .second, .val (.long nw), .second, .val (.long lt), .second, .val (.long pc_), .second, .val (.int fl), .val (.long x2), .second, .val (.int (1 : Int32)), .val (.int (1 : Int32)), .val (.int (0 : Int32)), .val (.ref b2158), .val (.long nw), .second, .val (.long ((0 : Int64) + (1 : Int64))), .second, .val (.long (((0 : Int64) + (1 : Int64)) + pc_)), .second, .val (.long ((0 : Int64) + pc_)), .second, .val (.long (1 : Int64)), .second, .val (.long (0 : Int64)), .second, .val (.int (1 : Int32)), .unset, .unset] [(.long (0 : Int64))])) _
            refine XS.lload X2470.here hx rfl (hb hby at_237) rfl ?_
            refine XS.ladd X2470.here hx rfl (hb hby at_239) rfl ?_
            refine XS.lstore X2470.here hx rfl (hb hby at_240) rfl (l' := #[.val (.long raw), .second, .val (.long nw), .second, .val (.long lt), .second, .val (.long pc_), .second, .val (.int fl), .val (.long x2), .second, .val (.int (1 : Int32)), .val (.int (1 : Int32)), .val (.int (0 : Int32)), .val (.ref b2158), .val (.long nw), .second, .val (.long ((0 : Int64) + (1 : Int64))), .second, .val (.long (((0 : Int64) + (1 : Int64)) + pc_)), .second, .val (.long ((0 : Int64) + pc_)), .second, .val (.long (1 : Int64)), .second, .val (.long (0 : Int64)), .second, .val (.int (1 : Int32)), .val (.long ((0 : Int64) + pc_)), .second]) rfl ?_
            refine XS.iload X2470.here hx rfl (hb hby at_242) rfl ?_
            refine XS.ifNo X2470.here hx rfl (hb hby at_244) rfl ((if0 _ _).trans (feq ((by decide) : ¬ ((1 : Int32) = (0 : Int32)))).1) ?_
            refine XS.lload X2470.here hx rfl (hb hby at_247) rfl ?_
            show Steps p.tables e below (T2470.setTop (mkF m 249 #[.val (.long raw), .second, .val (.long nw), .second, .val (.long lt), .second, .val (.long pc_), .second, .val (.int fl), .val (.long x2), .second, .val (.int (1 : Int32)), .val (.int (1 : Int32)), .val (.int (0 : Int32)), .val (.ref b2158), .val (.long nw), .second, .val (.long ((0 : Int64) + (1 : Int64))), .second, .val (.long (((0 : Int64) + (1 : Int64)) + pc_)), .second, .val (.long ((0 : Int64) + pc_)), .second, .val (.long (1 : Int64)), .second, .val (.long (0 : Int64)), .second, .val (.int (1 : Int32)), .val (.long ((0 : Int64) + pc_)), .second] [(.long (((0 : Int64) + (1 : Int64)) + pc_))])) _
            refine XS.lload X2470.here hx rfl (hb hby at_249) rfl ?_
            refine XS.lload X2470.here hx rfl (hb hby at_251) rfl ?_
            refine XS.ladd X2470.here hx rfl (hb hby at_253) rfl ?_
            refine XS.lcmp X2470.here hx rfl (hb hby at_254) rfl ?_
            refine XS.ifNo X2470.here hx rfl (hb hby at_255) rfl ((if0 _ _).trans (teq ((lw_eq (((0 : Int64) + (1 : Int64)) + pc_) (((0 : Int64) + (1 : Int64)) + pc_)).mpr (rfl : (((0 : Int64) + (1 : Int64)) + pc_) = (((0 : Int64) + (1 : Int64)) + pc_)) : (lcmpW (((0 : Int64) + (1 : Int64)) + pc_) (((0 : Int64) + (1 : Int64)) + pc_)) = (0 : Int32))).2) ?_
            refine XS.lload X2470.here hx rfl (hb hby at_258) rfl ?_
            show Steps p.tables e below (T2470.setTop (mkF m 260 #[.val (.long raw), .second, .val (.long nw), .second, .val (.long lt), .second, .val (.long pc_), .second, .val (.int fl), .val (.long x2), .second, .val (.int (1 : Int32)), .val (.int (1 : Int32)), .val (.int (0 : Int32)), .val (.ref b2158), .val (.long nw), .second, .val (.long ((0 : Int64) + (1 : Int64))), .second, .val (.long (((0 : Int64) + (1 : Int64)) + pc_)), .second, .val (.long ((0 : Int64) + pc_)), .second, .val (.long (1 : Int64)), .second, .val (.long (0 : Int64)), .second, .val (.int (1 : Int32)), .val (.long ((0 : Int64) + pc_)), .second] [(.long ((0 : Int64) + pc_))])) _
            refine XS.lload X2470.here hx rfl (hb hby at_260) rfl ?_
            refine XS.lcmp X2470.here hx rfl (hb hby at_262) rfl ?_
            refine XS.ifNo X2470.here hx rfl (hb hby at_263) rfl ((if0 _ _).trans (teq ((lw_eq ((0 : Int64) + pc_) ((0 : Int64) + pc_)).mpr (rfl : ((0 : Int64) + pc_) = ((0 : Int64) + pc_)) : (lcmpW ((0 : Int64) + pc_) ((0 : Int64) + pc_)) = (0 : Int32))).2) ?_
            refine XS.iconst X2470.here hx rfl (hb hby at_266) ?_
            refine XS.goto X2470.here hx rfl (pc0 := 267) (pc' := 271) rfl (hb hby at_267) (by decide) (by decide) ?_
            exact kt
          obtain ⟨fs, hr, hrun, hended, hW, hsame⟩ := X2470.leave (v := some (.int (1 : Int32))) (fun h => by rw [Bd.returns] at h; cases h)
          refine ⟨_, _, pre0 _ (S2474 _ ?_), hrun, hended, _, _, rfl, ?_, ⟨_, rfl⟩, hW, hsame.mono (by decide) (by decide)⟩
          · exact retN X2470 hx (t := .boolean) Bd.returns (by simp) (hb hby at_271) hr
          · show Q_rm_law Z raw nw lt pc_ fl wV kV vV h0 n0 _ T2470.heap _
            rw [k2472]
            exact ⟨rfl, N2473⟩
        · exact absurd (rfl : (own_fd nw x2) = (own_fd nw x2)) c2250
      · obtain ⟨T2475, h2475, X2475, e2475, E2475, A2475, D2475, -, st2475⟩ := newO X1 hx hZ hown (own_w hw 5 rfl) (own_w hw 6 rfl) (own_w hw 7 rfl) k5 (g := (mkF m 53 #[.val (.long raw), .second, .val (.long nw), .second, .val (.long lt), .second, .val (.long pc_), .second, .val (.int fl), .val (.long x2), .second, .val (.int (1 : Int32)), .val (.int (1 : Int32)), .val (.int (1 : Int32)), .unset, .unset, .unset, .unset, .unset, .unset, .unset, .unset, .unset, .unset, .unset, .unset, .unset, .unset, .unset, .unset] [])) rfl (hb hby at_53) (by decide) (by decide)
        obtain ⟨b2475, g2475⟩ : ∃ z, z = h0.size := ⟨_, rfl⟩
        have ge_b2475 : n0 ≤ b2475 := by rw [g2475, ← O0.1]; exact O0.2.1
        rw [← g2475] at A2475 D2475 st2475
        have O2476 := O0.ext E2475
        have F2477 : Fld Z h2475 b2475 "com/example/sluice/sluice/WaitRecorder" "intervalMillis" "J" (.long (0 : Int64)) := D2475 (Or.inr (own_w hw 15 rfl)) (ty := .long) (by decide)
        have F2478 : Fld Z h2475 b2475 "com/example/sluice/sluice/WaitRecorder" "intervalIndex" "J" (.long (0 : Int64)) := D2475 (Or.inl (own_w hw 20 rfl)) (ty := .long) (by decide)
        have F2479 : Fld Z h2475 b2475 "com/example/sluice/sluice/WaitRecorder" "interval" "Lcom/example/sluice/sluice/WaitRecorder$Tally;" .null := D2475 (Or.inl (own_w hw 63 rfl)) (ty := (.object "com/example/sluice/sluice/WaitRecorder$Tally")) (by decide)
        have F2480 : Fld Z h2475 b2475 "com/example/sluice/sluice/WaitRecorder" "sinceReset" "Lcom/example/sluice/sluice/WaitRecorder$Tally;" .null := D2475 (Or.inl (own_w hw 65 rfl)) (ty := (.object "com/example/sluice/sluice/WaitRecorder$Tally")) (by decide)
        obtain ⟨_, _, ⟨T2481, L2481, k2481, n2481⟩, -, X2481, ⟨Lc2481, hQ2481, l2481, y2481, z2481⟩, st2481⟩ := X2475.specialBack hx (y := (⟨"com/example/sluice/sluice/WaitRecorder", "<init>", "(JJ)V"⟩ : MethodName)) rfl hown (mvT hZ (own_w hw 8 rfl)) (mvT hZ (own_w hw 9 rfl)) (mvT hZ (own_w hw 10 rfl)) (by decide) (backOf (W := 1) (rm_rinit l Z a0 hw [] b2475 x2 nw wV kV vV h2475 n0 O2476 A2475 ge_b2475 F2477 F2478 F2479 F2480 S_V E_V A_V hlen) hZ (own_w hw 10 rfl) (own_w hw 7 rfl) (by decide) (by decide)) (g := (mkF m 60 #[.val (.long raw), .second, .val (.long nw), .second, .val (.long lt), .second, .val (.long pc_), .second, .val (.int fl), .val (.long x2), .second, .val (.int (1 : Int32)), .val (.int (1 : Int32)), .val (.int (1 : Int32)), .unset, .unset, .unset, .unset, .unset, .unset, .unset, .unset, .unset, .unset, .unset, .unset, .unset, .unset, .unset, .unset] [(.long nw), (.long x2), (.ref b2475), (.ref b2475)])) rfl (by rw [hml]; rfl) (Steps.refl _) (a := b2475) (argsL := [(.long x2), (.long nw)]) (rest := [(.ref b2475)]) (lenOf pd_6 rfl) rfl (by show 2 * 0 + _ ≤ _; exact Nat.le_of_eq rfl) (hb hby at_60) (fun _ _ => ⟨rfl, e2475, (by decide : 1 + 6 ≤ _), (by decide : 4 + 42 ≤ _)⟩)
        dsimp only [Pt.U, Pt.locs, Pt.cells, Pt.slots] at X2481 l2481 y2481 z2481 st2481 hQ2481
        subst l2481 y2481 z2481
        obtain ⟨x2482, x2483, x2484, x2485, x2486, x2487, rfl, N2488, k2489, f2490, f2491, f2492, f2493, f2494, f2495, f2496, f2497, f2498, f2499, f2500, f2501, f2502, f2503, f2504, f2505, f2506, f2507, f2508, f2509, f2510, f2511, f2512, f2513, f2514, f2515, f2516, f2517, f2518, f2519, f2520, f2521, f2522, f2523, f2524⟩ := hQ2481
        have N2525 := Fr.app N6 N2488
        have ge2526 : n0 ≤ x2482 := by rw [← O2476.1]; exact Nat.le_trans O2476.2.1 f2490
        have ne2527 : b2475 ≠ x2482 := Nat.ne_of_lt (Nat.lt_of_lt_of_le (Exa.lt A2475) f2490)
        have ge2528 : n0 ≤ x2483 := by rw [← O2476.1]; exact Nat.le_trans O2476.2.1 f2491
        have ne2529 : b2475 ≠ x2483 := Nat.ne_of_lt (Nat.lt_of_lt_of_le (Exa.lt A2475) f2491)
        have ge2530 : n0 ≤ x2485 := by rw [← O2476.1]; exact Nat.le_trans O2476.2.1 f2492
        have ne2531 : b2475 ≠ x2485 := Nat.ne_of_lt (Nat.lt_of_lt_of_le (Exa.lt A2475) f2492)
        have ge2532 : n0 ≤ x2486 := by rw [← O2476.1]; exact Nat.le_trans O2476.2.1 f2493
        have ne2533 : b2475 ≠ x2486 := Nat.ne_of_lt (Nat.lt_of_lt_of_le (Exa.lt A2475) f2493)
        have O2534 := O2476.keep k2489 (allS ge_b2475 all0)
        obtain ⟨cq2535, kq2535, q2535a, q2535b, q2535c⟩ := isOf hZ rfl f2500
        obtain ⟨_, _, ⟨T2535, L2535, k2535, n2535⟩, -, X2535, ⟨Lc2535, hQ2535, l2535, y2535, z2535⟩, st2535⟩ := X2481.virtualBack hx (y := (⟨"com/example/sluice/sluice/WaitRecorder", "startedAtOnce", "(J)V"⟩ : MethodName)) (z := (⟨"com/example/sluice/sluice/WaitRecorder", "startedAtOnce", "(J)V"⟩ : MethodName)) hown (mvT hZ (own_w hw 66 rfl)) (mvT hZ (own_w hw 67 rfl)) (notFace_of_selects (args := #[]) (mvT hZ (own_w hw 69 rfl))) (mvT hZ (own_w hw 69 rfl)) (mvT hZ (own_w hw 68 rfl)) (by decide) (backOf (W := 0) (rm_sao l Z a0 hw [] b2475 nw x2 (own_fd nw x2) x2482 x2483 x2484 x2485 x2486 x2487 ((own_fd nw x2) * x2) (0 : Int64) nw (0 : Int64) wV kV vV T2481.heap n0 O2534 f2500 f2501 f2502 f2503 f2504 f2505 f2506 f2507 f2508 f2509 f2510 f2511 f2512 f2513 f2514 f2515 f2516 f2517 f2518 f2519 f2520 f2521 f2522 f2523 f2524 ge_b2475 ge2526 ge2530 ne2527 ne2529 ne2531 ne2533 f2494 f2495 f2496 f2497 f2498 f2499 S_V E_V A_V hlen) hZ (own_w hw 70 rfl) (own_w hw 7 rfl) (by decide) (by decide)) q2535a q2535c (g := (mkF m 73 #[.val (.long raw), .second, .val (.long nw), .second, .val (.long lt), .second, .val (.long pc_), .second, .val (.int fl), .val (.long x2), .second, .val (.int (1 : Int32)), .val (.int (1 : Int32)), .val (.int (1 : Int32)), .val (.ref b2475), .unset, .unset, .unset, .unset, .unset, .unset, .unset, .unset, .unset, .unset, .unset, .unset, .unset, .unset, .unset] [(.long nw), (.ref b2475)])) rfl (by rw [hml]; rfl) (Steps.refl _) (argsL := [(.long nw)]) (rest := []) (lenOf pd_2 rfl) rfl (by show 2 * 0 + _ ≤ _; exact Nat.le_of_eq rfl) (hb hby at_73) (fun _ _ => ⟨rfl, rfl, (by decide : 7 + 3 ≤ _), (by decide : 46 + 21 ≤ _)⟩)
        dsimp only [Pt.U, Pt.locs, Pt.cells, Pt.slots] at X2535 l2535 y2535 z2535 st2535 hQ2535
        subst l2535 y2535 z2535
        rcases hQ2535 with ⟨c2536, rfl, N2537, k2538, f2539, f2540, f2541, f2542, f2543, f2544, f2545, f2546, f2547, f2548, f2549, f2550, f2551, f2552, f2553, f2554, f2555, f2556, f2557, f2558, f2559, f2560, f2561, f2562, f2563⟩ | ⟨x2564, x2565, x2566, c2567, rfl, N2568, k2569, f2570, f2571, f2572, f2573, f2574, f2575, f2576, f2577, f2578, f2579, f2580, f2581, f2582, f2583, f2584, f2585, f2586, f2587, f2588, f2589, f2590, f2591, f2592, f2593, f2594, f2595, f2596, f2597⟩
        · have N2598 := Fr.app N2525 N2537
          have O2599 := O2534.keep k2538 (allS ge_b2475 (allS ge2526 (allS ge2530 all0)))
          obtain ⟨cq2600, kq2600, q2600a, q2600b, q2600c⟩ := isOf hZ rfl f2539
          obtain ⟨_, _, ⟨T2600, L2600, k2600, n2600⟩, -, X2600, ⟨Lc2600, hQ2600, l2600, y2600, z2600⟩, st2600⟩ := X2535.virtualBack hx (y := (⟨"com/example/sluice/sluice/WaitRecorder", "startedAtOnce", "(J)V"⟩ : MethodName)) (z := (⟨"com/example/sluice/sluice/WaitRecorder", "startedAtOnce", "(J)V"⟩ : MethodName)) hown (mvT hZ (own_w hw 66 rfl)) (mvT hZ (own_w hw 67 rfl)) (notFace_of_selects (args := #[]) (mvT hZ (own_w hw 69 rfl))) (mvT hZ (own_w hw 69 rfl)) (mvT hZ (own_w hw 68 rfl)) (by decide) (backOf (W := 0) (rm_sao l Z a0 hw [] b2475 lt x2 (own_fd nw x2) x2482 x2483 x2484 x2485 x2486 x2487 ((own_fd nw x2) * x2) ((0 : Int64) + (1 : Int64)) nw ((0 : Int64) + (1 : Int64)) wV kV vV T2535.heap n0 O2599 f2539 f2540 f2541 f2542 f2543 f2544 f2545 f2546 f2547 f2548 f2549 f2550 f2551 f2552 f2553 f2554 f2555 f2556 f2557 f2558 f2559 f2560 f2561 f2562 f2563 ge_b2475 ge2526 ge2530 ne2527 ne2529 ne2531 ne2533 f2494 f2495 f2496 f2497 f2498 f2499 S_V E_V A_V hlen) hZ (own_w hw 70 rfl) (own_w hw 7 rfl) (by decide) (by decide)) q2600a q2600c (g := (mkF m 85 #[.val (.long raw), .second, .val (.long nw), .second, .val (.long lt), .second, .val (.long pc_), .second, .val (.int fl), .val (.long x2), .second, .val (.int (1 : Int32)), .val (.int (1 : Int32)), .val (.int (1 : Int32)), .val (.ref b2475), .unset, .unset, .unset, .unset, .unset, .unset, .unset, .unset, .unset, .unset, .unset, .unset, .unset, .unset, .unset] [(.long lt), (.ref b2475)])) rfl (by rw [hml]; rfl) (Steps.refl _) (argsL := [(.long lt)]) (rest := []) (lenOf pd_2 rfl) rfl (by show 2 * 0 + _ ≤ _; exact Nat.le_of_eq rfl) (hb hby at_85) (fun _ _ => ⟨rfl, rfl, (by decide : 10 + 3 ≤ _), (by decide : 67 + 21 ≤ _)⟩)
          dsimp only [Pt.U, Pt.locs, Pt.cells, Pt.slots] at X2600 l2600 y2600 z2600 st2600 hQ2600
          subst l2600 y2600 z2600
          rcases hQ2600 with ⟨c2601, rfl, N2602, k2603, f2604, f2605, f2606, f2607, f2608, f2609, f2610, f2611, f2612, f2613, f2614, f2615, f2616, f2617, f2618, f2619, f2620, f2621, f2622, f2623, f2624, f2625, f2626, f2627, f2628⟩ | ⟨x2629, x2630, x2631, c2632, rfl, N2633, k2634, f2635, f2636, f2637, f2638, f2639, f2640, f2641, f2642, f2643, f2644, f2645, f2646, f2647, f2648, f2649, f2650, f2651, f2652, f2653, f2654, f2655, f2656, f2657, f2658, f2659, f2660, f2661, f2662⟩
          · have N2663 := Fr.app N2598 N2602
            have O2664 := O2599.keep k2603 (allS ge_b2475 (allS ge2526 (allS ge2530 all0)))
            obtain ⟨cq2665, kq2665, q2665a, q2665b, q2665c⟩ := isOf hZ rfl f2604
            obtain ⟨_, _, ⟨T2665, L2665, k2665, n2665⟩, -, X2665, ⟨Lc2665, hQ2665, l2665, y2665, z2665⟩, st2665⟩ := X2600.virtualBack hx (y := (⟨"com/example/sluice/sluice/WaitRecorder", "reset", "(J)V"⟩ : MethodName)) (z := (⟨"com/example/sluice/sluice/WaitRecorder", "reset", "(J)V"⟩ : MethodName)) hown (mvT hZ (own_w hw 77 rfl)) (mvT hZ (own_w hw 78 rfl)) (notFace_of_selects (args := #[]) (mvT hZ (own_w hw 80 rfl))) (mvT hZ (own_w hw 80 rfl)) (mvT hZ (own_w hw 79 rfl)) (by decide) (backOf (W := 0) (rm_reset l Z a0 hw [] b2475 lt x2 (own_fd nw x2) x2482 x2483 x2484 x2485 x2486 x2487 ((own_fd nw x2) * x2) (((0 : Int64) + (1 : Int64)) + (1 : Int64)) nw (((0 : Int64) + (1 : Int64)) + (1 : Int64)) wV kV vV T2600.heap n0 O2664 f2604 f2605 f2606 f2607 f2608 f2609 f2610 f2611 f2612 f2613 f2614 f2615 f2616 f2617 f2618 f2619 f2620 f2621 f2622 f2623 f2624 f2625 f2626 f2627 f2628 ge_b2475 ge2526 ge2530 ne2527 ne2529 ne2531 ne2533 f2494 f2495 f2496 f2497 f2498 f2499 S_V E_V A_V) hZ (own_w hw 81 rfl) (own_w hw 7 rfl) (by decide) (by decide)) q2665a q2665c (g := (mkF m 97 #[.val (.long raw), .second, .val (.long nw), .second, .val (.long lt), .second, .val (.long pc_), .second, .val (.int fl), .val (.long x2), .second, .val (.int (1 : Int32)), .val (.int (1 : Int32)), .val (.int (1 : Int32)), .val (.ref b2475), .unset, .unset, .unset, .unset, .unset, .unset, .unset, .unset, .unset, .unset, .unset, .unset, .unset, .unset, .unset] [(.long lt), (.ref b2475)])) rfl (by rw [hml]; rfl) (Steps.refl _) (argsL := [(.long lt)]) (rest := []) (lenOf pd_2 rfl) rfl (by show 2 * 0 + _ ≤ _; exact Nat.le_of_eq rfl) (hb hby at_97) (fun _ _ => ⟨rfl, rfl, (by decide : 13 + 3 ≤ _), (by decide : 88 + 21 ≤ _)⟩)
            dsimp only [Pt.U, Pt.locs, Pt.cells, Pt.slots] at X2665 l2665 y2665 z2665 st2665 hQ2665
            subst l2665 y2665 z2665
            obtain ⟨x2666, x2667, x2668, rfl, N2669, k2670, f2671, f2672, f2673, f2674, f2675, f2676, f2677, f2678, f2679, f2680, f2681, f2682, f2683, f2684, f2685, f2686, f2687, f2688⟩ := hQ2665
            have N2689 := Fr.app N2663 N2669
            have ge2690 : n0 ≤ x2666 := by rw [← O2664.1]; exact Nat.le_trans O2664.2.1 f2671
            have ne2691 : b2475 ≠ x2666 := Nat.ne_of_lt (Nat.lt_of_lt_of_le (Exa.lt f2604) f2671)
            have ne2692 : x2482 ≠ x2666 := Nat.ne_of_lt (Nat.lt_of_lt_of_le (Exa.lt f2609) f2671)
            have ne2693 : x2483 ≠ x2666 := Nat.ne_of_lt (Nat.lt_of_lt_of_le (Exa.lt f2617) f2671)
            have ne2694 : x2485 ≠ x2666 := Nat.ne_of_lt (Nat.lt_of_lt_of_le (Exa.lt f2619) f2671)
            have ne2695 : x2486 ≠ x2666 := Nat.ne_of_lt (Nat.lt_of_lt_of_le (Exa.lt f2627) f2671)
            have ge2696 : n0 ≤ x2667 := by rw [← O2664.1]; exact Nat.le_trans O2664.2.1 f2672
            have ne2697 : b2475 ≠ x2667 := Nat.ne_of_lt (Nat.lt_of_lt_of_le (Exa.lt f2604) f2672)
            have ne2698 : x2482 ≠ x2667 := Nat.ne_of_lt (Nat.lt_of_lt_of_le (Exa.lt f2609) f2672)
            have ne2699 : x2483 ≠ x2667 := Nat.ne_of_lt (Nat.lt_of_lt_of_le (Exa.lt f2617) f2672)
            have ne2700 : x2485 ≠ x2667 := Nat.ne_of_lt (Nat.lt_of_lt_of_le (Exa.lt f2619) f2672)
            have ne2701 : x2486 ≠ x2667 := Nat.ne_of_lt (Nat.lt_of_lt_of_le (Exa.lt f2627) f2672)
            have O2702 := O2664.keep k2670 (allS ge_b2475 all0)
            have f2704 := (Exa.keep f2609 k2670)
            have f2705 := (Fld.keep f2610 k2670 (ninS (Ne.symm ne2527) nin0))
            have f2706 := (Fld.keep f2611 k2670 (ninS (Ne.symm ne2527) nin0))
            have f2707 := (Fld.keep f2612 k2670 (ninS (Ne.symm ne2527) nin0))
            have f2708 := (Fld.keep f2613 k2670 (ninS (Ne.symm ne2527) nin0))
            have f2709 := (Fld.keep f2614 k2670 (ninS (Ne.symm ne2527) nin0))
            have f2710 := (Fld.keep f2615 k2670 (ninS (Ne.symm ne2527) nin0))
            have f2711 := (Fld.keep f2616 k2670 (ninS (Ne.symm ne2527) nin0))
            have f2712 := (Exa.keep f2617 k2670)
            have f2713 := (Arv.keep f2618 k2670 (ninS (Ne.symm ne2529) nin0))
            obtain ⟨cq2703, kq2703, q2703a, q2703b, q2703c⟩ := isOf hZ rfl f2674
            obtain ⟨_, _, ⟨T2703, L2703, k2703, n2703⟩, -, X2703, ⟨Lc2703, hQ2703, l2703, y2703, z2703⟩, st2703⟩ := X2665.virtualBack hx (y := (⟨"com/example/sluice/sluice/WaitRecorder", "intervalSnapshot", "(J)Lcom/example/sluice/sluice/WaitStatistics;"⟩ : MethodName)) (z := (⟨"com/example/sluice/sluice/WaitRecorder", "intervalSnapshot", "(J)Lcom/example/sluice/sluice/WaitStatistics;"⟩ : MethodName)) hown (mvT hZ (own_w hw 82 rfl)) (mvT hZ (own_w hw 83 rfl)) (notFace_of_selects (args := #[]) (mvT hZ (own_w hw 85 rfl))) (mvT hZ (own_w hw 85 rfl)) (mvT hZ (own_w hw 84 rfl)) (by decide) (backOf (W := 0) (rm_isnap l Z a0 hw [] b2475 lt x2 (own_fd nw x2) x2482 x2483 x2484 x2666 x2667 x2668 ((own_fd nw x2) * x2) (((0 : Int64) + (1 : Int64)) + (1 : Int64)) lt (0 : Int64) wV kV vV T2665.heap n0 O2702 f2674 f2675 f2676 f2677 f2678 f2704 f2705 f2706 f2707 f2708 f2709 f2710 f2711 f2712 f2713 f2679 f2680 f2681 f2682 f2683 f2684 f2685 f2686 f2687 f2688 ge_b2475 ge2526 ge2690 ne2527 ne2529 ne2691 ne2697 f2494 ne2692 ne2698 ne2693 ne2699 f2673 S_V E_V A_V hlen c2601) hZ (own_w hw 86 rfl) (own_w hw 7 rfl) (by decide) (by decide)) q2703a q2703c (g := (mkF m 117 #[.val (.long raw), .second, .val (.long nw), .second, .val (.long lt), .second, .val (.long pc_), .second, .val (.int fl), .val (.long x2), .second, .val (.int (1 : Int32)), .val (.int (1 : Int32)), .val (.int (1 : Int32)), .val (.ref b2475), .val (.long lt), .second, .unset, .unset, .unset, .unset, .unset, .unset, .unset, .unset, .unset, .unset, .unset, .unset, .unset] [(.long lt), (.ref b2475)])) rfl (by rw [hml]; rfl) (Steps.refl _) (argsL := [(.long lt)]) (rest := []) (lenOf pd_7 rfl) rfl (by show 2 * 0 + _ ≤ _; exact Nat.le_of_eq rfl) (hb hby at_117) (fun _ _ => ⟨rfl, rfl, (by decide : 16 + 5 ≤ _), (by decide : 109 + 35 ≤ _)⟩)
            dsimp only [Pt.U, Pt.locs, Pt.cells, Pt.slots] at X2703 l2703 y2703 z2703 st2703 hQ2703
            subst l2703 y2703 z2703
            obtain ⟨x2714, rfl, N2715, k2716, f2717, f2718, f2719⟩ := hQ2703
            have N2720 := Fr.app N2689 N2715
            have ge2721 : n0 ≤ x2714 := by rw [← O2702.1]; exact Nat.le_trans O2702.2.1 f2717
            have ne2722 : b2475 ≠ x2714 := Nat.ne_of_lt (Nat.lt_of_lt_of_le (Exa.lt f2674) f2717)
            have ne2723 : x2482 ≠ x2714 := Nat.ne_of_lt (Nat.lt_of_lt_of_le (Exa.lt f2704) f2717)
            have ne2724 : x2483 ≠ x2714 := Nat.ne_of_lt (Nat.lt_of_lt_of_le (Exa.lt f2712) f2717)
            have f2725 := (Exa.keep f2619 k2670)
            have ne2726 : x2485 ≠ x2714 := Nat.ne_of_lt (Nat.lt_of_lt_of_le (Exa.lt f2725) f2717)
            have f2727 := (Exa.keep f2627 k2670)
            have ne2728 : x2486 ≠ x2714 := Nat.ne_of_lt (Nat.lt_of_lt_of_le (Exa.lt f2727) f2717)
            have ne2729 : x2666 ≠ x2714 := Nat.ne_of_lt (Nat.lt_of_lt_of_le (Exa.lt f2679) f2717)
            have ne2730 : x2667 ≠ x2714 := Nat.ne_of_lt (Nat.lt_of_lt_of_le (Exa.lt f2687) f2717)
            have O2731 := O2702.keep k2716 all0
            obtain ⟨cq2732, kq2732, q2732a, q2732b, q2732c⟩ := isOf hZ rfl f2718
            obtain ⟨_, _, ⟨T2732, L2732, k2732, n2732⟩, -, X2732, ⟨Lc2732, hQ2732, l2732, y2732, z2732⟩, st2732⟩ := X2703.virtualBack hx (y := (⟨"com/example/sluice/sluice/WaitStatistics", "startedAtOnce", "()J"⟩ : MethodName)) (z := (⟨"com/example/sluice/sluice/WaitStatistics", "startedAtOnce", "()J"⟩ : MethodName)) hown (mvT hZ (own_w hw 124 rfl)) (mvT hZ (own_w hw 125 rfl)) (notFace_of_selects (args := #[]) (mvT hZ (own_w hw 127 rfl))) (mvT hZ (own_w hw 127 rfl)) (mvT hZ (own_w hw 126 rfl)) (by decide) (backOf (W := 0) (rm_get l Z a0 hw [] x2714 (((0 : Int64) + (1 : Int64)) + (1 : Int64)) T2703.heap n0 O2731 f2719) hZ (own_w hw 128 rfl) (own_w hw 94 rfl) (by decide) (by decide)) q2732a q2732c (g := (mkF m 120 #[.val (.long raw), .second, .val (.long nw), .second, .val (.long lt), .second, .val (.long pc_), .second, .val (.int fl), .val (.long x2), .second, .val (.int (1 : Int32)), .val (.int (1 : Int32)), .val (.int (1 : Int32)), .val (.ref b2475), .val (.long lt), .second, .unset, .unset, .unset, .unset, .unset, .unset, .unset, .unset, .unset, .unset, .unset, .unset, .unset] [(.ref x2714)])) rfl (by rw [hml]; rfl) (Steps.refl _) (argsL := []) (rest := []) (lenOf pd_8 rfl) rfl (by show 2 * 0 + _ ≤ _; exact Nat.le_of_eq rfl) (hb hby at_120) (fun _ _ => ⟨rfl, rfl, (by decide : 21 + 0 ≤ _), (by decide : 144 + 0 ≤ _)⟩)
            dsimp only [Pt.U, Pt.locs, Pt.cells, Pt.slots] at X2732 l2732 y2732 z2732 st2732 hQ2732
            subst l2732 y2732 z2732
            obtain ⟨rfl, N2733, k2734⟩ := hQ2732
            have N2735 := Fr.app N2720 N2733
            have f2737 := (Exa.keep f2674 k2716)
            have f2738 := (Fld.keep f2675 k2716 nin0)
            have f2739 := (Fld.keep f2676 k2716 nin0)
            have f2740 := (Fld.keep f2677 k2716 nin0)
            have f2741 := (Fld.keep f2678 k2716 nin0)
            have f2742 := (Exa.keep f2704 k2716)
            have f2743 := (Fld.keep f2705 k2716 nin0)
            have f2744 := (Fld.keep f2706 k2716 nin0)
            have f2745 := (Fld.keep f2707 k2716 nin0)
            have f2746 := (Fld.keep f2708 k2716 nin0)
            have f2747 := (Fld.keep f2709 k2716 nin0)
            have f2748 := (Fld.keep f2710 k2716 nin0)
            have f2749 := (Fld.keep f2711 k2716 nin0)
            have f2750 := (Exa.keep f2712 k2716)
            have f2751 := (Arv.keep f2713 k2716 nin0)
            have f2752 := (Exa.keep f2679 k2716)
            have f2753 := (Fld.keep f2680 k2716 nin0)
            have f2754 := (Fld.keep f2681 k2716 nin0)
            have f2755 := (Fld.keep f2682 k2716 nin0)
            have f2756 := (Fld.keep f2683 k2716 nin0)
            have f2757 := (Fld.keep f2684 k2716 nin0)
            have f2758 := (Fld.keep f2685 k2716 nin0)
            have f2759 := (Fld.keep f2686 k2716 nin0)
            have f2760 := (Exa.keep f2687 k2716)
            have f2761 := (Arv.keep f2688 k2716 nin0)
            obtain ⟨cq2736, kq2736, q2736a, q2736b, q2736c⟩ := isOf hZ k2734 f2737
            obtain ⟨_, _, ⟨T2736, L2736, k2736, n2736⟩, -, X2736, ⟨Lc2736, hQ2736, l2736, y2736, z2736⟩, st2736⟩ := X2732.virtualBack hx (y := (⟨"com/example/sluice/sluice/WaitRecorder", "startedAtOnceEarlier", "(J)V"⟩ : MethodName)) (z := (⟨"com/example/sluice/sluice/WaitRecorder", "startedAtOnceEarlier", "(J)V"⟩ : MethodName)) hown (mvT hZ (own_w hw 129 rfl)) (mvT hZ (own_w hw 130 rfl)) (notFace_of_selects (args := #[]) (mvT hZ (own_w hw 132 rfl))) (mvT hZ (own_w hw 132 rfl)) (mvT hZ (own_w hw 131 rfl)) (by decide) (backOf (W := 0) (rm_sae l Z a0 hw [] b2475 pc_ x2 (own_fd nw x2) x2482 x2483 x2484 x2666 x2667 x2668 ((own_fd nw x2) * x2) (((0 : Int64) + (1 : Int64)) + (1 : Int64)) lt (0 : Int64) T2703.heap n0 O2731 f2737 f2738 f2739 f2740 f2741 f2742 f2743 f2744 f2745 f2746 f2747 f2748 f2749 f2750 f2751 f2752 f2753 f2754 f2755 f2756 f2757 f2758 f2759 f2760 f2761 ge_b2475 ge2526 ge2690 ne2527 ne2529 ne2691 ne2697 f2494 ne2692 ne2698 ne2693 ne2699 f2673) hZ (own_w hw 133 rfl) (own_w hw 7 rfl) (by decide) (by decide)) q2736a q2736c (g := (mkF m 129 #[.val (.long raw), .second, .val (.long nw), .second, .val (.long lt), .second, .val (.long pc_), .second, .val (.int fl), .val (.long x2), .second, .val (.int (1 : Int32)), .val (.int (1 : Int32)), .val (.int (1 : Int32)), .val (.ref b2475), .val (.long lt), .second, .val (.long (((0 : Int64) + (1 : Int64)) + (1 : Int64))), .second, .unset, .unset, .unset, .unset, .unset, .unset, .unset, .unset, .unset, .unset, .unset] [(.long pc_), (.ref b2475)])) rfl (by rw [hml]; rfl) (Steps.refl _) (argsL := [(.long pc_)]) (rest := []) (lenOf pd_2 rfl) rfl (by show 2 * 0 + _ ≤ _; exact Nat.le_of_eq rfl) (hb hby at_129) (fun _ _ => ⟨rfl, k2734, (by decide : 21 + 0 ≤ _), (by decide : 144 + 0 ≤ _)⟩)
            dsimp only [Pt.U, Pt.locs, Pt.cells, Pt.slots] at X2736 l2736 y2736 z2736 st2736 hQ2736
            subst l2736 y2736 z2736
            obtain ⟨rfl, N2762, k2763, f2764, f2765, f2766, f2767, f2768, f2769, f2770, f2771, f2772, f2773, f2774, f2775, f2776, f2777, f2778, f2779, f2780, f2781, f2782, f2783⟩ := hQ2736
            have N2784 := Fr.app N2735 N2762
            have O2785 := O2731.keep k2763 (allS ge2526 (allS ge2690 all0))
            have f2787 := (Exa.keep f2737 k2763)
            have f2788 := (Fld.keep f2738 k2763 (ninS ne2527 (ninS ne2691 nin0)))
            have f2789 := (Fld.keep f2739 k2763 (ninS ne2527 (ninS ne2691 nin0)))
            have f2790 := (Fld.keep f2740 k2763 (ninS ne2527 (ninS ne2691 nin0)))
            have f2791 := (Fld.keep f2741 k2763 (ninS ne2527 (ninS ne2691 nin0)))
            obtain ⟨cq2786, kq2786, q2786a, q2786b, q2786c⟩ := isOf hZ rfl f2787
            obtain ⟨_, _, ⟨T2786, L2786, k2786, n2786⟩, -, X2786, ⟨Lc2786, hQ2786, l2786, y2786, z2786⟩, st2786⟩ := X2736.virtualBack hx (y := (⟨"com/example/sluice/sluice/WaitRecorder", "intervalSnapshot", "(J)Lcom/example/sluice/sluice/WaitStatistics;"⟩ : MethodName)) (z := (⟨"com/example/sluice/sluice/WaitRecorder", "intervalSnapshot", "(J)Lcom/example/sluice/sluice/WaitStatistics;"⟩ : MethodName)) hown (mvT hZ (own_w hw 82 rfl)) (mvT hZ (own_w hw 83 rfl)) (notFace_of_selects (args := #[]) (mvT hZ (own_w hw 85 rfl))) (mvT hZ (own_w hw 85 rfl)) (mvT hZ (own_w hw 84 rfl)) (by decide) (backOf (W := 0) (rm_isnap l Z a0 hw [] b2475 lt x2 (own_fd nw x2) x2482 x2483 x2484 x2666 x2667 x2668 ((own_fd nw x2) * x2) ((((0 : Int64) + (1 : Int64)) + (1 : Int64)) + pc_) lt ((0 : Int64) + pc_) wV kV vV T2736.heap n0 O2785 f2787 f2788 f2789 f2790 f2791 f2764 f2765 f2766 f2767 f2768 f2769 f2770 f2771 f2772 f2773 f2774 f2775 f2776 f2777 f2778 f2779 f2780 f2781 f2782 f2783 ge_b2475 ge2526 ge2690 ne2527 ne2529 ne2691 ne2697 f2494 ne2692 ne2698 ne2693 ne2699 f2673 S_V E_V A_V hlen c2601) hZ (own_w hw 86 rfl) (own_w hw 7 rfl) (by decide) (by decide)) q2786a q2786c (g := (mkF m 136 #[.val (.long raw), .second, .val (.long nw), .second, .val (.long lt), .second, .val (.long pc_), .second, .val (.int fl), .val (.long x2), .second, .val (.int (1 : Int32)), .val (.int (1 : Int32)), .val (.int (1 : Int32)), .val (.ref b2475), .val (.long lt), .second, .val (.long (((0 : Int64) + (1 : Int64)) + (1 : Int64))), .second, .unset, .unset, .unset, .unset, .unset, .unset, .unset, .unset, .unset, .unset, .unset] [(.long lt), (.ref b2475)])) rfl (by rw [hml]; rfl) (Steps.refl _) (argsL := [(.long lt)]) (rest := []) (lenOf pd_7 rfl) rfl (by show 2 * 0 + _ ≤ _; exact Nat.le_of_eq rfl) (hb hby at_136) (fun _ _ => ⟨rfl, rfl, (by decide : 21 + 5 ≤ _), (by decide : 144 + 35 ≤ _)⟩)
            dsimp only [Pt.U, Pt.locs, Pt.cells, Pt.slots] at X2786 l2786 y2786 z2786 st2786 hQ2786
            subst l2786 y2786 z2786
            obtain ⟨x2792, rfl, N2793, k2794, f2795, f2796, f2797⟩ := hQ2786
            have N2798 := Fr.app N2784 N2793
            have ge2799 : n0 ≤ x2792 := by rw [← O2785.1]; exact Nat.le_trans O2785.2.1 f2795
            have ne2800 : b2475 ≠ x2792 := Nat.ne_of_lt (Nat.lt_of_lt_of_le (Exa.lt f2787) f2795)
            have ne2801 : x2482 ≠ x2792 := Nat.ne_of_lt (Nat.lt_of_lt_of_le (Exa.lt f2764) f2795)
            have ne2802 : x2483 ≠ x2792 := Nat.ne_of_lt (Nat.lt_of_lt_of_le (Exa.lt f2772) f2795)
            have f2803 := (Exa.keep (Exa.keep f2725 k2716) k2763)
            have ne2804 : x2485 ≠ x2792 := Nat.ne_of_lt (Nat.lt_of_lt_of_le (Exa.lt f2803) f2795)
            have f2805 := (Exa.keep (Exa.keep f2727 k2716) k2763)
            have ne2806 : x2486 ≠ x2792 := Nat.ne_of_lt (Nat.lt_of_lt_of_le (Exa.lt f2805) f2795)
            have ne2807 : x2666 ≠ x2792 := Nat.ne_of_lt (Nat.lt_of_lt_of_le (Exa.lt f2774) f2795)
            have ne2808 : x2667 ≠ x2792 := Nat.ne_of_lt (Nat.lt_of_lt_of_le (Exa.lt f2782) f2795)
            have f2809 := (Exa.keep f2718 k2763)
            have ne2810 : x2714 ≠ x2792 := Nat.ne_of_lt (Nat.lt_of_lt_of_le (Exa.lt f2809) f2795)
            have O2811 := O2785.keep k2794 all0
            obtain ⟨cq2812, kq2812, q2812a, q2812b, q2812c⟩ := isOf hZ rfl f2796
            obtain ⟨_, _, ⟨T2812, L2812, k2812, n2812⟩, -, X2812, ⟨Lc2812, hQ2812, l2812, y2812, z2812⟩, st2812⟩ := X2786.virtualBack hx (y := (⟨"com/example/sluice/sluice/WaitStatistics", "startedAtOnce", "()J"⟩ : MethodName)) (z := (⟨"com/example/sluice/sluice/WaitStatistics", "startedAtOnce", "()J"⟩ : MethodName)) hown (mvT hZ (own_w hw 124 rfl)) (mvT hZ (own_w hw 125 rfl)) (notFace_of_selects (args := #[]) (mvT hZ (own_w hw 127 rfl))) (mvT hZ (own_w hw 127 rfl)) (mvT hZ (own_w hw 126 rfl)) (by decide) (backOf (W := 0) (rm_get l Z a0 hw [] x2792 ((((0 : Int64) + (1 : Int64)) + (1 : Int64)) + pc_) T2786.heap n0 O2811 f2797) hZ (own_w hw 128 rfl) (own_w hw 94 rfl) (by decide) (by decide)) q2812a q2812c (g := (mkF m 139 #[.val (.long raw), .second, .val (.long nw), .second, .val (.long lt), .second, .val (.long pc_), .second, .val (.int fl), .val (.long x2), .second, .val (.int (1 : Int32)), .val (.int (1 : Int32)), .val (.int (1 : Int32)), .val (.ref b2475), .val (.long lt), .second, .val (.long (((0 : Int64) + (1 : Int64)) + (1 : Int64))), .second, .unset, .unset, .unset, .unset, .unset, .unset, .unset, .unset, .unset, .unset, .unset] [(.ref x2792)])) rfl (by rw [hml]; rfl) (Steps.refl _) (argsL := []) (rest := []) (lenOf pd_8 rfl) rfl (by show 2 * 0 + _ ≤ _; exact Nat.le_of_eq rfl) (hb hby at_139) (fun _ _ => ⟨rfl, rfl, (by decide : 26 + 0 ≤ _), (by decide : 179 + 0 ≤ _)⟩)
            dsimp only [Pt.U, Pt.locs, Pt.cells, Pt.slots] at X2812 l2812 y2812 z2812 st2812 hQ2812
            subst l2812 y2812 z2812
            obtain ⟨rfl, N2813, k2814⟩ := hQ2812
            have N2815 := Fr.app N2798 N2813
            have f2817 := (Exa.keep f2787 k2794)
            have f2818 := (Fld.keep f2791 k2794 nin0)
            have f2819 := (Exa.keep f2774 k2794)
            have f2820 := (Fld.keep f2775 k2794 nin0)
            have f2821 := (Fld.keep f2776 k2794 nin0)
            have f2822 := (Fld.keep f2777 k2794 nin0)
            have f2823 := (Fld.keep f2778 k2794 nin0)
            have f2824 := (Fld.keep f2779 k2794 nin0)
            have f2825 := (Fld.keep f2780 k2794 nin0)
            have f2826 := (Fld.keep f2781 k2794 nin0)
            have f2827 := (Exa.keep f2782 k2794)
            have f2828 := (Arv.keep f2783 k2794 nin0)
            obtain ⟨cq2816, kq2816, q2816a, q2816b, q2816c⟩ := isOf hZ k2814 f2817
            obtain ⟨_, _, ⟨T2816, L2816, k2816, n2816⟩, -, X2816, ⟨Lc2816, hQ2816, l2816, y2816, z2816⟩, st2816⟩ := X2812.virtualBack hx (y := (⟨"com/example/sluice/sluice/WaitRecorder", "sinceResetSnapshot", "()Lcom/example/sluice/sluice/WaitStatistics;"⟩ : MethodName)) (z := (⟨"com/example/sluice/sluice/WaitRecorder", "sinceResetSnapshot", "()Lcom/example/sluice/sluice/WaitStatistics;"⟩ : MethodName)) hown (mvT hZ (own_w hw 134 rfl)) (mvT hZ (own_w hw 135 rfl)) (notFace_of_selects (args := #[]) (mvT hZ (own_w hw 137 rfl))) (mvT hZ (own_w hw 137 rfl)) (mvT hZ (own_w hw 136 rfl)) (by decide) (backOf (W := 0) (rm_ssnap l Z a0 hw [] b2475 x2666 lt ((0 : Int64) + pc_) x2667 x2668 T2786.heap n0 O2811 f2818 f2819 f2820 f2821 f2822 f2823 f2824 f2825 f2826 f2827 f2828) hZ (own_w hw 138 rfl) (own_w hw 7 rfl) (by decide) (by decide)) q2816a q2816c (g := (mkF m 146 #[.val (.long raw), .second, .val (.long nw), .second, .val (.long lt), .second, .val (.long pc_), .second, .val (.int fl), .val (.long x2), .second, .val (.int (1 : Int32)), .val (.int (1 : Int32)), .val (.int (1 : Int32)), .val (.ref b2475), .val (.long lt), .second, .val (.long (((0 : Int64) + (1 : Int64)) + (1 : Int64))), .second, .val (.long ((((0 : Int64) + (1 : Int64)) + (1 : Int64)) + pc_)), .second, .unset, .unset, .unset, .unset, .unset, .unset, .unset, .unset, .unset] [(.ref b2475)])) rfl (by rw [hml]; rfl) (Steps.refl _) (argsL := []) (rest := []) (lenOf pd_5 rfl) rfl (by show 2 * 0 + _ ≤ _; exact Nat.le_of_eq rfl) (hb hby at_146) (fun _ _ => ⟨rfl, k2814, (by decide : 26 + 2 ≤ _), (by decide : 179 + 14 ≤ _)⟩)
            dsimp only [Pt.U, Pt.locs, Pt.cells, Pt.slots] at X2816 l2816 y2816 z2816 st2816 hQ2816
            subst l2816 y2816 z2816
            obtain ⟨x2829, rfl, N2830, k2831, f2832, f2833, f2834⟩ := hQ2816
            have N2835 := Fr.app N2815 N2830
            have ge2836 : n0 ≤ x2829 := by rw [← O2811.1]; exact Nat.le_trans O2811.2.1 f2832
            have ne2837 : b2475 ≠ x2829 := Nat.ne_of_lt (Nat.lt_of_lt_of_le (Exa.lt f2817) f2832)
            have f2838 := (Exa.keep f2764 k2794)
            have ne2839 : x2482 ≠ x2829 := Nat.ne_of_lt (Nat.lt_of_lt_of_le (Exa.lt f2838) f2832)
            have f2840 := (Exa.keep f2772 k2794)
            have ne2841 : x2483 ≠ x2829 := Nat.ne_of_lt (Nat.lt_of_lt_of_le (Exa.lt f2840) f2832)
            have f2842 := (Exa.keep f2803 k2794)
            have ne2843 : x2485 ≠ x2829 := Nat.ne_of_lt (Nat.lt_of_lt_of_le (Exa.lt f2842) f2832)
            have f2844 := (Exa.keep f2805 k2794)
            have ne2845 : x2486 ≠ x2829 := Nat.ne_of_lt (Nat.lt_of_lt_of_le (Exa.lt f2844) f2832)
            have ne2846 : x2666 ≠ x2829 := Nat.ne_of_lt (Nat.lt_of_lt_of_le (Exa.lt f2819) f2832)
            have ne2847 : x2667 ≠ x2829 := Nat.ne_of_lt (Nat.lt_of_lt_of_le (Exa.lt f2827) f2832)
            have f2848 := (Exa.keep f2809 k2794)
            have ne2849 : x2714 ≠ x2829 := Nat.ne_of_lt (Nat.lt_of_lt_of_le (Exa.lt f2848) f2832)
            have ne2850 : x2792 ≠ x2829 := Nat.ne_of_lt (Nat.lt_of_lt_of_le (Exa.lt f2796) f2832)
            have O2851 := O2811.keep k2831 all0
            obtain ⟨cq2852, kq2852, q2852a, q2852b, q2852c⟩ := isOf hZ rfl f2833
            obtain ⟨_, _, ⟨T2852, L2852, k2852, n2852⟩, -, X2852, ⟨Lc2852, hQ2852, l2852, y2852, z2852⟩, st2852⟩ := X2816.virtualBack hx (y := (⟨"com/example/sluice/sluice/WaitStatistics", "startedAtOnce", "()J"⟩ : MethodName)) (z := (⟨"com/example/sluice/sluice/WaitStatistics", "startedAtOnce", "()J"⟩ : MethodName)) hown (mvT hZ (own_w hw 124 rfl)) (mvT hZ (own_w hw 125 rfl)) (notFace_of_selects (args := #[]) (mvT hZ (own_w hw 127 rfl))) (mvT hZ (own_w hw 127 rfl)) (mvT hZ (own_w hw 126 rfl)) (by decide) (backOf (W := 0) (rm_get l Z a0 hw [] x2829 ((0 : Int64) + pc_) T2816.heap n0 O2851 f2834) hZ (own_w hw 128 rfl) (own_w hw 94 rfl) (by decide) (by decide)) q2852a q2852c (g := (mkF m 149 #[.val (.long raw), .second, .val (.long nw), .second, .val (.long lt), .second, .val (.long pc_), .second, .val (.int fl), .val (.long x2), .second, .val (.int (1 : Int32)), .val (.int (1 : Int32)), .val (.int (1 : Int32)), .val (.ref b2475), .val (.long lt), .second, .val (.long (((0 : Int64) + (1 : Int64)) + (1 : Int64))), .second, .val (.long ((((0 : Int64) + (1 : Int64)) + (1 : Int64)) + pc_)), .second, .unset, .unset, .unset, .unset, .unset, .unset, .unset, .unset, .unset] [(.ref x2829)])) rfl (by rw [hml]; rfl) (Steps.refl _) (argsL := []) (rest := []) (lenOf pd_8 rfl) rfl (by show 2 * 0 + _ ≤ _; exact Nat.le_of_eq rfl) (hb hby at_149) (fun _ _ => ⟨rfl, rfl, (by decide : 28 + 0 ≤ _), (by decide : 193 + 0 ≤ _)⟩)
            dsimp only [Pt.U, Pt.locs, Pt.cells, Pt.slots] at X2852 l2852 y2852 z2852 st2852 hQ2852
            subst l2852 y2852 z2852
            obtain ⟨rfl, N2853, k2854⟩ := hQ2852
            have N2855 := Fr.app N2835 N2853
            have S2856 : ∀ t, Steps p.tables e below (T2852.setTop (mkF m 271 #[.val (.long raw), .second, .val (.long nw), .second, .val (.long lt), .second, .val (.long pc_), .second, .val (.int fl), .val (.long x2), .second, .val (.int (1 : Int32)), .val (.int (1 : Int32)), .val (.int (1 : Int32)), .val (.ref b2475), .val (.long lt), .second, .val (.long (((0 : Int64) + (1 : Int64)) + (1 : Int64))), .second, .val (.long ((((0 : Int64) + (1 : Int64)) + (1 : Int64)) + pc_)), .second, .val (.long ((0 : Int64) + pc_)), .second, .val (.long (1 : Int64)), .second, .val (.long (1 : Int64)), .second, .val (.int (1 : Int32)), .val (.long ((0 : Int64) + pc_)), .second] [(.int (1 : Int32))])) t → Steps p.tables e below (s₁.setTop (mkF m 0 #[.val (.long raw), .second, .val (.long nw), .second, .val (.long lt), .second, .val (.long pc_), .second, .val (.int fl), .unset, .unset, .unset, .unset, .unset, .unset, .unset, .unset, .unset, .unset, .unset, .unset, .unset, .unset, .unset, .unset, .unset, .unset, .unset, .unset, .unset] [])) t := by
              intro t kt
              refine S2156 t ?_
              refine XS.ifNo X1.here hx rfl (hb hby at_43) rfl ((if0 _ _).trans (feq (c2157 : ¬ ((fl &&& (4 : Int32)) = (0 : Int32)))).1) ?_
              refine XS.iconst X1.here hx rfl (hb hby at_46) ?_
              refine XS.goto X1.here hx rfl (pc0 := 47) (pc' := 51) rfl (hb hby at_47) (by decide) (by decide) ?_
              refine XS.istore X1.here hx rfl (hb hby at_51) rfl (l' := #[.val (.long raw), .second, .val (.long nw), .second, .val (.long lt), .second, .val (.long pc_), .second, .val (.int fl), .val (.long x2), .second, .val (.int (1 : Int32)), .val (.int (1 : Int32)), .val (.int (1 : Int32)), .unset, .unset, .unset, .unset, .unset, .unset, .unset, .unset, .unset, .unset, .unset, .unset, .unset, .unset, .unset, .unset]) rfl ?_
              show Steps p.tables e below (T1.setTop (mkF m 53 #[.val (.long raw), .second, .val (.long nw), .second, .val (.long lt), .second, .val (.long pc_), .second, .val (.int fl), .val (.long x2), .second, .val (.int (1 : Int32)), .val (.int (1 : Int32)), .val (.int (1 : Int32)), .unset, .unset, .unset, .unset, .unset, .unset, .unset, .unset, .unset, .unset, .unset, .unset, .unset, .unset, .unset, .unset] [])) _
              refine st2475 _ ?_
              refine XS.dup X2475.here hx rfl (hb hby at_56) rfl rfl ?_
              refine XS.lload X2475.here hx rfl (hb hby at_57) rfl ?_
              refine XS.lloadN X2475.here hx rfl (hb hby at_59) rfl ?_
              show Steps p.tables e below (T2475.setTop (mkF m 60 #[.val (.long raw), .second, .val (.long nw), .second, .val (.long lt), .second, .val (.long pc_), .second, .val (.int fl), .val (.long x2), .second, .val (.int (1 : Int32)), .val (.int (1 : Int32)), .val (.int (1 : Int32)), .unset, .unset, .unset, .unset, .unset, .unset, .unset, .unset, .unset, .unset, .unset, .unset, .unset, .unset, .unset, .unset] [(.long nw), (.long x2), (.ref b2475), (.ref b2475)])) _
              refine st2481.trans ?_
              refine XS.astore X2481.here hx rfl (hb hby at_63) rfl rfl (l' := #[.val (.long raw), .second, .val (.long nw), .second, .val (.long lt), .second, .val (.long pc_), .second, .val (.int fl), .val (.long x2), .second, .val (.int (1 : Int32)), .val (.int (1 : Int32)), .val (.int (1 : Int32)), .val (.ref b2475), .unset, .unset, .unset, .unset, .unset, .unset, .unset, .unset, .unset, .unset, .unset, .unset, .unset, .unset, .unset]) rfl ?_
              refine XS.iload X2481.here hx rfl (hb hby at_65) rfl ?_
              refine XS.ifNo X2481.here hx rfl (hb hby at_67) rfl ((if0 _ _).trans (feq ((by decide) : ¬ ((1 : Int32) = (0 : Int32)))).1) ?_
              refine XS.aload X2481.here hx rfl (hb hby at_70) rfl rfl ?_
              refine XS.lloadN X2481.here hx rfl (hb hby at_72) rfl ?_
              show Steps p.tables e below (T2481.setTop (mkF m 73 #[.val (.long raw), .second, .val (.long nw), .second, .val (.long lt), .second, .val (.long pc_), .second, .val (.int fl), .val (.long x2), .second, .val (.int (1 : Int32)), .val (.int (1 : Int32)), .val (.int (1 : Int32)), .val (.ref b2475), .unset, .unset, .unset, .unset, .unset, .unset, .unset, .unset, .unset, .unset, .unset, .unset, .unset, .unset, .unset] [(.long nw), (.ref b2475)])) _
              refine st2535.trans ?_
              refine XS.iload X2535.here hx rfl (hb hby at_76) rfl ?_
              refine XS.ifNo X2535.here hx rfl (hb hby at_78) rfl ((if0 _ _).trans (feq ((by decide) : ¬ ((1 : Int32) = (0 : Int32)))).1) ?_
              refine XS.aload X2535.here hx rfl (hb hby at_81) rfl rfl ?_
              refine XS.lload X2535.here hx rfl (hb hby at_83) rfl ?_
              show Steps p.tables e below (T2535.setTop (mkF m 85 #[.val (.long raw), .second, .val (.long nw), .second, .val (.long lt), .second, .val (.long pc_), .second, .val (.int fl), .val (.long x2), .second, .val (.int (1 : Int32)), .val (.int (1 : Int32)), .val (.int (1 : Int32)), .val (.ref b2475), .unset, .unset, .unset, .unset, .unset, .unset, .unset, .unset, .unset, .unset, .unset, .unset, .unset, .unset, .unset] [(.long lt), (.ref b2475)])) _
              refine st2600.trans ?_
              refine XS.iload X2600.here hx rfl (hb hby at_88) rfl ?_
              refine XS.ifNo X2600.here hx rfl (hb hby at_90) rfl ((if0 _ _).trans (feq ((by decide) : ¬ ((1 : Int32) = (0 : Int32)))).1) ?_
              refine XS.aload X2600.here hx rfl (hb hby at_93) rfl rfl ?_
              refine XS.lload X2600.here hx rfl (hb hby at_95) rfl ?_
              show Steps p.tables e below (T2600.setTop (mkF m 97 #[.val (.long raw), .second, .val (.long nw), .second, .val (.long lt), .second, .val (.long pc_), .second, .val (.int fl), .val (.long x2), .second, .val (.int (1 : Int32)), .val (.int (1 : Int32)), .val (.int (1 : Int32)), .val (.ref b2475), .unset, .unset, .unset, .unset, .unset, .unset, .unset, .unset, .unset, .unset, .unset, .unset, .unset, .unset, .unset] [(.long lt), (.ref b2475)])) _
              refine st2665.trans ?_
              refine XS.iload X2665.here hx rfl (hb hby at_100) rfl ?_
              refine XS.ifNo X2665.here hx rfl (hb hby at_102) rfl ((if0 _ _).trans (feq ((by decide) : ¬ ((1 : Int32) = (0 : Int32)))).1) ?_
              refine XS.lload X2665.here hx rfl (hb hby at_105) rfl ?_
              refine XS.goto X2665.here hx rfl (pc0 := 107) (pc' := 111) rfl (hb hby at_107) (by decide) (by decide) ?_
              refine XS.lstore X2665.here hx rfl (hb hby at_111) rfl (l' := #[.val (.long raw), .second, .val (.long nw), .second, .val (.long lt), .second, .val (.long pc_), .second, .val (.int fl), .val (.long x2), .second, .val (.int (1 : Int32)), .val (.int (1 : Int32)), .val (.int (1 : Int32)), .val (.ref b2475), .val (.long lt), .second, .unset, .unset, .unset, .unset, .unset, .unset, .unset, .unset, .unset, .unset, .unset, .unset, .unset]) rfl ?_
              show Steps p.tables e below (T2665.setTop (mkF m 113 #[.val (.long raw), .second, .val (.long nw), .second, .val (.long lt), .second, .val (.long pc_), .second, .val (.int fl), .val (.long x2), .second, .val (.int (1 : Int32)), .val (.int (1 : Int32)), .val (.int (1 : Int32)), .val (.ref b2475), .val (.long lt), .second, .unset, .unset, .unset, .unset, .unset, .unset, .unset, .unset, .unset, .unset, .unset, .unset, .unset] [])) _
              refine XS.aload X2665.here hx rfl (hb hby at_113) rfl rfl ?_
              refine XS.lload X2665.here hx rfl (hb hby at_115) rfl ?_
              show Steps p.tables e below (T2665.setTop (mkF m 117 #[.val (.long raw), .second, .val (.long nw), .second, .val (.long lt), .second, .val (.long pc_), .second, .val (.int fl), .val (.long x2), .second, .val (.int (1 : Int32)), .val (.int (1 : Int32)), .val (.int (1 : Int32)), .val (.ref b2475), .val (.long lt), .second, .unset, .unset, .unset, .unset, .unset, .unset, .unset, .unset, .unset, .unset, .unset, .unset, .unset] [(.long lt), (.ref b2475)])) _
              refine st2703.trans ?_
              show Steps p.tables e below (T2703.setTop (mkF m 120 #[.val (.long raw), .second, .val (.long nw), .second, .val (.long lt), .second, .val (.long pc_), .second, .val (.int fl), .val (.long x2), .second, .val (.int (1 : Int32)), .val (.int (1 : Int32)), .val (.int (1 : Int32)), .val (.ref b2475), .val (.long lt), .second, .unset, .unset, .unset, .unset, .unset, .unset, .unset, .unset, .unset, .unset, .unset, .unset, .unset] [(.ref x2714)])) _
              refine st2732.trans ?_
              refine XS.lstore X2732.here hx rfl (hb hby at_123) rfl (l' := #[.val (.long raw), .second, .val (.long nw), .second, .val (.long lt), .second, .val (.long pc_), .second, .val (.int fl), .val (.long x2), .second, .val (.int (1 : Int32)), .val (.int (1 : Int32)), .val (.int (1 : Int32)), .val (.ref b2475), .val (.long lt), .second, .val (.long (((0 : Int64) + (1 : Int64)) + (1 : Int64))), .second, .unset, .unset, .unset, .unset, .unset, .unset, .unset, .unset, .unset, .unset, .unset]) rfl ?_
              refine XS.aload X2732.here hx rfl (hb hby at_125) rfl rfl ?_
              refine XS.lload X2732.here hx rfl (hb hby at_127) rfl ?_
              show Steps p.tables e below (T2732.setTop (mkF m 129 #[.val (.long raw), .second, .val (.long nw), .second, .val (.long lt), .second, .val (.long pc_), .second, .val (.int fl), .val (.long x2), .second, .val (.int (1 : Int32)), .val (.int (1 : Int32)), .val (.int (1 : Int32)), .val (.ref b2475), .val (.long lt), .second, .val (.long (((0 : Int64) + (1 : Int64)) + (1 : Int64))), .second, .unset, .unset, .unset, .unset, .unset, .unset, .unset, .unset, .unset, .unset, .unset] [(.long pc_), (.ref b2475)])) _
              refine st2736.trans ?_
              refine XS.aload X2736.here hx rfl (hb hby at_132) rfl rfl ?_
              refine XS.lload X2736.here hx rfl (hb hby at_134) rfl ?_
              show Steps p.tables e below (T2736.setTop (mkF m 136 #[.val (.long raw), .second, .val (.long nw), .second, .val (.long lt), .second, .val (.long pc_), .second, .val (.int fl), .val (.long x2), .second, .val (.int (1 : Int32)), .val (.int (1 : Int32)), .val (.int (1 : Int32)), .val (.ref b2475), .val (.long lt), .second, .val (.long (((0 : Int64) + (1 : Int64)) + (1 : Int64))), .second, .unset, .unset, .unset, .unset, .unset, .unset, .unset, .unset, .unset, .unset, .unset] [(.long lt), (.ref b2475)])) _
              refine st2786.trans ?_
              show Steps p.tables e below (T2786.setTop (mkF m 139 #[.val (.long raw), .second, .val (.long nw), .second, .val (.long lt), .second, .val (.long pc_), .second, .val (.int fl), .val (.long x2), .second, .val (.int (1 : Int32)), .val (.int (1 : Int32)), .val (.int (1 : Int32)), .val (.ref b2475), .val (.long lt), .second, .val (.long (((0 : Int64) + (1 : Int64)) + (1 : Int64))), .second, .unset, .unset, .unset, .unset, .unset, .unset, .unset, .unset, .unset, .unset, .unset] [(.ref x2792)])) _
              refine st2812.trans ?_
              refine XS.lstore X2812.here hx rfl (hb hby at_142) rfl (l' := #[.val (.long raw), .second, .val (.long nw), .second, .val (.long lt), .second, .val (.long pc_), .second, .val (.int fl), .val (.long x2), .second, .val (.int (1 : Int32)), .val (.int (1 : Int32)), .val (.int (1 : Int32)), .val (.ref b2475), .val (.long lt), .second, .val (.long (((0 : Int64) + (1 : Int64)) + (1 : Int64))), .second, .val (.long ((((0 : Int64) + (1 : Int64)) + (1 : Int64)) + pc_)), .second, .unset, .unset, .unset, .unset, .unset, .unset, .unset, .unset, .unset]) rfl ?_
              refine XS.aload X2812.here hx rfl (hb hby at_144) rfl rfl ?_
              show Steps p.tables e below (T2812.setTop (mkF m 146 #[.val (.long raw), .second, .val (.long nw), .second, .val (.long lt), .second, .val (.long pc_), .second, .val (.int fl), .val (.long x2), .second, .val (.int (1 : Int32)), .val (.int (1 : Int32)), .val (.int (1 : Int32)), .val (.ref b2475), .val (.long lt), .second, .val (.long (((0 : Int64) + (1 : Int64)) + (1 : Int64))), .second, .val (.long ((((0 : Int64) + (1 : Int64)) + (1 : Int64)) + pc_)), .second, .unset, .unset, .unset, .unset, .unset, .unset, .unset, .unset, .unset] [(.ref b2475)])) _
              refine st2816.trans ?_
              show Steps p.tables e below (T2816.setTop (mkF m 149 #[.val (.long raw), .second, .val (.long nw), .second, .val (.long lt), .second, .val (.long pc_), .second, .val (.int fl), .val (.long x2), .second, .val (.int (1 : Int32)), .val (.int (1 : Int32)), .val (.int (1 : Int32)), .val (.ref b2475), .val (.long lt), .second, .val (.long (((0 : Int64) + (1 : Int64)) + (1 : Int64))), .second, .val (.long ((((0 : Int64) + (1 : Int64)) + (1 : Int64)) + pc_)), .second, .unset, .unset, .unset, .unset, .unset, .unset, .unset, .unset, .unset] [(.ref x2829)])) _
              refine st2852.trans ?_
              refine XS.lstore X2852.here hx rfl (hb hby at_152) rfl (l' := #[.val (.long raw), .second, .val (.long nw), .second, .val (.long lt), .second, .val (.long pc_), .second, .val (.int fl), .val (.long x2), .second, .val (.int (1 : Int32)), .val (.int (1 : Int32)), .val (.int (1 : Int32)), .val (.ref b2475), .val (.long lt), .second, .val (.long (((0 : Int64) + (1 : Int64)) + (1 : Int64))), .second, .val (.long ((((0 : Int64) + (1 : Int64)) + (1 : Int64)) + pc_)), .second, .val (.long ((0 : Int64) + pc_)), .second, .unset, .unset, .unset, .unset, .unset, .unset, .unset]) rfl ?_
              refine XS.iload X2852.here hx rfl (hb hby at_154) rfl ?_
              refine XS.ifNo X2852.here hx rfl (hb hby at_156) rfl ((if0 _ _).trans (feq ((by decide) : ¬ ((1 : Int32) = (0 : Int32)))).1) ?_
              refine XS.lconst X2852.here hx rfl (hb hby at_159) ?_
              refine XS.goto X2852.here hx rfl (pc0 := 160) (pc' := 164) rfl (hb hby at_160) (by decide) (by decide) ?_
              show Steps p.tables e below (T2852.setTop (mkF m 164 #[.val (.long raw), .second, .val (.long nw), .second, .val (.long lt), .second, .val (.long pc_), .second, .val (.int fl), .val (.long x2), .second, .val (.int (1 : Int32)), .val (.int (1 : Int32)), .val (.int (1 : Int32)), .val (.ref b2475), .val (.long lt), .second, .val (.long (((0 : Int64) + (1 : Int64)) + (1 : Int64))), .second, .val (.long ((((0 : Int64) + (1 : Int64)) + (1 : Int64)) + pc_)), .second, .val (.long ((0 : Int64) + pc_)), .second, .unset, .unset, .unset, .unset, .unset, .unset, .unset] [(.long (1 : Int64))])) _
              refine XS.lstore X2852.here hx rfl (hb hby at_164) rfl (l' := #[.val (.long raw), .second, .val (.long nw), .second, .val (.long lt), .second, .val (.long pc_), .second, .val (.int fl), .val (.long x2), .second, .val (.int (1 : Int32)), .val (.int (1 : Int32)), .val (.int (1 : Int32)), .val (.ref b2475), .val (.long lt), .second, .val (.long (((0 : Int64) + (1 : Int64)) + (1 : Int64))), .second, .val (.long ((((0 : Int64) + (1 : Int64)) + (1 : Int64)) + pc_)), .second, .val (.long ((0 : Int64) + pc_)), .second, .val (.long (1 : Int64)), .second, .unset, .unset, .unset, .unset, .unset]) rfl ?_
              refine XS.iload X2852.here hx rfl (hb hby at_166) rfl ?_
              refine XS.ifNo X2852.here hx rfl (hb hby at_168) rfl ((if0 _ _).trans (feq ((by decide) : ¬ ((1 : Int32) = (0 : Int32)))).1) ?_
              refine XS.lconst X2852.here hx rfl (hb hby at_171) ?_
              refine XS.goto X2852.here hx rfl (pc0 := 172) (pc' := 176) rfl (hb hby at_172) (by decide) (by decide) ?_
              refine XS.lstore X2852.here hx rfl (hb hby at_176) rfl (l' := #[.val (.long raw), .second, .val (.long nw), .second, .val (.long lt), .second, .val (.long pc_), .second, .val (.int fl), .val (.long x2), .second, .val (.int (1 : Int32)), .val (.int (1 : Int32)), .val (.int (1 : Int32)), .val (.ref b2475), .val (.long lt), .second, .val (.long (((0 : Int64) + (1 : Int64)) + (1 : Int64))), .second, .val (.long ((((0 : Int64) + (1 : Int64)) + (1 : Int64)) + pc_)), .second, .val (.long ((0 : Int64) + pc_)), .second, .val (.long (1 : Int64)), .second, .val (.long (1 : Int64)), .second, .unset, .unset, .unset]) rfl ?_
              show Steps p.tables e below (T2852.setTop (mkF m 178 #[.val (.long raw), .second, .val (.long nw), .second, .val (.long lt), .second, .val (.long pc_), .second, .val (.int fl), .val (.long x2), .second, .val (.int (1 : Int32)), .val (.int (1 : Int32)), .val (.int (1 : Int32)), .val (.ref b2475), .val (.long lt), .second, .val (.long (((0 : Int64) + (1 : Int64)) + (1 : Int64))), .second, .val (.long ((((0 : Int64) + (1 : Int64)) + (1 : Int64)) + pc_)), .second, .val (.long ((0 : Int64) + pc_)), .second, .val (.long (1 : Int64)), .second, .val (.long (1 : Int64)), .second, .unset, .unset, .unset] [])) _
              refine XS.iload X2852.here hx rfl (hb hby at_178) rfl ?_
              refine XS.ifNo X2852.here hx rfl (hb hby at_180) rfl ((if0 _ _).trans (feq ((by decide) : ¬ ((1 : Int32) = (0 : Int32)))).1) ?_
              refine XS.lload X2852.here hx rfl (hb hby at_183) rfl ?_
              refine XS.lconst X2852.here hx rfl (hb hby at_185) ?_
              refine XS.lcmp X2852.here hx rfl (hb hby at_186) rfl ?_
              refine XS.ifNo X2852.here hx rfl (hb hby at_187) rfl ((if0 _ _).trans (feq (fun q => ((by decide) : ¬ ((((0 : Int64) + (1 : Int64)) + (1 : Int64)) = (1 : Int64))) ((lw_eq (((0 : Int64) + (1 : Int64)) + (1 : Int64)) (1 : Int64)).mp q) : ¬ ((lcmpW (((0 : Int64) + (1 : Int64)) + (1 : Int64)) (1 : Int64)) = (0 : Int32)))).1) ?_
              show Steps p.tables e below (T2852.setTop (mkF m 190 #[.val (.long raw), .second, .val (.long nw), .second, .val (.long lt), .second, .val (.long pc_), .second, .val (.int fl), .val (.long x2), .second, .val (.int (1 : Int32)), .val (.int (1 : Int32)), .val (.int (1 : Int32)), .val (.ref b2475), .val (.long lt), .second, .val (.long (((0 : Int64) + (1 : Int64)) + (1 : Int64))), .second, .val (.long ((((0 : Int64) + (1 : Int64)) + (1 : Int64)) + pc_)), .second, .val (.long ((0 : Int64) + pc_)), .second, .val (.long (1 : Int64)), .second, .val (.long (1 : Int64)), .second, .unset, .unset, .unset] [])) _
              refine XS.lload X2852.here hx rfl (hb hby at_190) rfl ?_
              refine XS.lconst X2852.here hx rfl (hb hby at_192) ?_
              refine XS.lload X2852.here hx rfl (hb hby at_193) rfl ?_
              refine XS.ladd X2852.here hx rfl (hb hby at_195) rfl ?_
              refine XS.lcmp X2852.here hx rfl (hb hby at_196) rfl ?_
              refine XS.ifNo X2852.here hx rfl (hb hby at_197) rfl ((if0 _ _).trans (teq ((lw_eq (((0 : Int64) + (1 : Int64)) + (1 : Int64)) (2 : Int64)).mpr ((by decide) : (((0 : Int64) + (1 : Int64)) + (1 : Int64)) = (2 : Int64)) : (lcmpW (((0 : Int64) + (1 : Int64)) + (1 : Int64)) (2 : Int64)) = (0 : Int32))).2) ?_
              show Steps p.tables e below (T2852.setTop (mkF m 200 #[.val (.long raw), .second, .val (.long nw), .second, .val (.long lt), .second, .val (.long pc_), .second, .val (.int fl), .val (.long x2), .second, .val (.int (1 : Int32)), .val (.int (1 : Int32)), .val (.int (1 : Int32)), .val (.ref b2475), .val (.long lt), .second, .val (.long (((0 : Int64) + (1 : Int64)) + (1 : Int64))), .second, .val (.long ((((0 : Int64) + (1 : Int64)) + (1 : Int64)) + pc_)), .second, .val (.long ((0 : Int64) + pc_)), .second, .val (.long (1 : Int64)), .second, .val (.long (1 : Int64)), .second, .unset, .unset, .unset] [])) _
              refine XS.iconst X2852.here hx rfl (hb hby at_200) ?_
              refine XS.goto X2852.here hx rfl (pc0 := 201) (pc' := 221) rfl (hb hby at_201) (by decide) (by decide) ?_
              refine XS.istore X2852.here hx rfl (hb hby at_221) rfl (l' := #[.val (.long raw), .second, .val (.long nw), .second, .val (.long lt), .second, .val (.long pc_), .second, .val (.int fl), .val (.long x2), .second, .val (.int (1 : Int32)), .val (.int (1 : Int32)), .val (.int (1 : Int32)), .val (.ref b2475), .val (.long lt), .second, .val (.long (((0 : Int64) + (1 : Int64)) + (1 : Int64))), .second, .val (.long ((((0 : Int64) + (1 : Int64)) + (1 : Int64)) + pc_)), .second, .val (.long ((0 : Int64) + pc_)), .second, .val (.long (1 : Int64)), .second, .val (.long (1 : Int64)), .second, .val (.int (1 : Int32)), .unset, .unset]) rfl ?_
              refine XS.iload X2852.here hx rfl (hb hby at_223) rfl ?_
              refine XS.ifNo X2852.here hx rfl (hb hby at_225) rfl ((if0 _ _).trans (feq ((by decide) : ¬ ((1 : Int32) = (0 : Int32)))).1) ?_
              refine XS.lconst X2852.here hx rfl (hb hby at_228) ?_
              show Steps p.tables e below (T2852.setTop (mkF m 229 #[.val (.long raw), .second, .val (.long nw), .second, .val (.long lt), .second, .val (.long pc_), .second, .val (.int fl), .val (.long x2), .second, .val (.int (1 : Int32)), .val (.int (1 : Int32)), .val (.int (1 : Int32)), .val (.ref b2475), .val (.long lt), .second, .val (.long (((0 : Int64) + (1 : Int64)) + (1 : Int64))), .second, .val (.long ((((0 : Int64) + (1 : Int64)) + (1 : Int64)) + pc_)), .second, .val (.long ((0 : Int64) + pc_)), .second, .val (.long (1 : Int64)), .second, .val (.long (1 : Int64)), .second, .val (.int (1 : Int32)), .unset, .unset] [(.long (0 : Int64))])) _
              refine XS.goto X2852.here hx rfl (pc0 := 229) (pc' := 237) rfl (hb hby at_229) (by decide) (by decide) ?_
              refine XS.lload X2852.here hx rfl (hb hby at_237) rfl ?_
              refine XS.ladd X2852.here hx rfl (hb hby at_239) rfl ?_
              refine XS.lstore X2852.here hx rfl (hb hby at_240) rfl (l' := #[.val (.long raw), .second, .val (.long nw), .second, .val (.long lt), .second, .val (.long pc_), .second, .val (.int fl), .val (.long x2), .second, .val (.int (1 : Int32)), .val (.int (1 : Int32)), .val (.int (1 : Int32)), .val (.ref b2475), .val (.long lt), .second, .val (.long (((0 : Int64) + (1 : Int64)) + (1 : Int64))), .second, .val (.long ((((0 : Int64) + (1 : Int64)) + (1 : Int64)) + pc_)), .second, .val (.long ((0 : Int64) + pc_)), .second, .val (.long (1 : Int64)), .second, .val (.long (1 : Int64)), .second, .val (.int (1 : Int32)), .val (.long ((0 : Int64) + pc_)), .second]) rfl ?_
              refine XS.iload X2852.here hx rfl (hb hby at_242) rfl ?_
              refine XS.ifNo X2852.here hx rfl (hb hby at_244) rfl ((if0 _ _).trans (feq ((by decide) : ¬ ((1 : Int32) = (0 : Int32)))).1) ?_
              show Steps p.tables e below (T2852.setTop (mkF m 247 #[.val (.long raw), .second, .val (.long nw), .second, .val (.long lt), .second, .val (.long pc_), .second, .val (.int fl), .val (.long x2), .second, .val (.int (1 : Int32)), .val (.int (1 : Int32)), .val (.int (1 : Int32)), .val (.ref b2475), .val (.long lt), .second, .val (.long (((0 : Int64) + (1 : Int64)) + (1 : Int64))), .second, .val (.long ((((0 : Int64) + (1 : Int64)) + (1 : Int64)) + pc_)), .second, .val (.long ((0 : Int64) + pc_)), .second, .val (.long (1 : Int64)), .second, .val (.long (1 : Int64)), .second, .val (.int (1 : Int32)), .val (.long ((0 : Int64) + pc_)), .second] [])) _
              refine XS.lload X2852.here hx rfl (hb hby at_247) rfl ?_
              refine XS.lload X2852.here hx rfl (hb hby at_249) rfl ?_
              refine XS.lload X2852.here hx rfl (hb hby at_251) rfl ?_
              refine XS.ladd X2852.here hx rfl (hb hby at_253) rfl ?_
              refine XS.lcmp X2852.here hx rfl (hb hby at_254) rfl ?_
              refine XS.ifNo X2852.here hx rfl (hb hby at_255) rfl ((if0 _ _).trans (teq ((lw_eq ((((0 : Int64) + (1 : Int64)) + (1 : Int64)) + pc_) ((((0 : Int64) + (1 : Int64)) + (1 : Int64)) + pc_)).mpr (rfl : ((((0 : Int64) + (1 : Int64)) + (1 : Int64)) + pc_) = ((((0 : Int64) + (1 : Int64)) + (1 : Int64)) + pc_)) : (lcmpW ((((0 : Int64) + (1 : Int64)) + (1 : Int64)) + pc_) ((((0 : Int64) + (1 : Int64)) + (1 : Int64)) + pc_)) = (0 : Int32))).2) ?_
              show Steps p.tables e below (T2852.setTop (mkF m 258 #[.val (.long raw), .second, .val (.long nw), .second, .val (.long lt), .second, .val (.long pc_), .second, .val (.int fl), .val (.long x2), .second, .val (.int (1 : Int32)), .val (.int (1 : Int32)), .val (.int (1 : Int32)), .val (.ref b2475), .val (.long lt), .second, .val (.long (((0 : Int64) + (1 : Int64)) + (1 : Int64))), .second, .val (.long ((((0 : Int64) + (1 : Int64)) + (1 : Int64)) + pc_)), .second, .val (.long ((0 : Int64) + pc_)), .second, .val (.long (1 : Int64)), .second, .val (.long (1 : Int64)), .second, .val (.int (1 : Int32)), .val (.long ((0 : Int64) + pc_)), .second] [])) _
              refine XS.lload X2852.here hx rfl (hb hby at_258) rfl ?_
              refine XS.lload X2852.here hx rfl (hb hby at_260) rfl ?_
              refine XS.lcmp X2852.here hx rfl (hb hby at_262) rfl ?_
              refine XS.ifNo X2852.here hx rfl (hb hby at_263) rfl ((if0 _ _).trans (teq ((lw_eq ((0 : Int64) + pc_) ((0 : Int64) + pc_)).mpr (rfl : ((0 : Int64) + pc_) = ((0 : Int64) + pc_)) : (lcmpW ((0 : Int64) + pc_) ((0 : Int64) + pc_)) = (0 : Int32))).2) ?_
              refine XS.iconst X2852.here hx rfl (hb hby at_266) ?_
              refine XS.goto X2852.here hx rfl (pc0 := 267) (pc' := 271) rfl (hb hby at_267) (by decide) (by decide) ?_
              exact kt
            obtain ⟨fs, hr, hrun, hended, hW, hsame⟩ := X2852.leave (v := some (.int (1 : Int32))) (fun h => by rw [Bd.returns] at h; cases h)
            refine ⟨_, _, pre0 _ (S2856 _ ?_), hrun, hended, _, _, rfl, ?_, ⟨_, rfl⟩, hW, hsame.mono (by decide) (by decide)⟩
            · exact retN X2852 hx (t := .boolean) Bd.returns (by simp) (hb hby at_271) hr
            · show Q_rm_law Z raw nw lt pc_ fl wV kV vV h0 n0 _ T2852.heap _
              rw [k2854]
              exact ⟨rfl, N2855⟩
          · have N2857 := Fr.app N2598 N2633
            have ge2858 : n0 ≤ x2629 := by rw [← O2599.1]; exact Nat.le_trans O2599.2.1 f2635
            have ne2859 : b2475 ≠ x2629 := Nat.ne_of_lt (Nat.lt_of_lt_of_le (Exa.lt f2539) f2635)
            have ne2860 : x2482 ≠ x2629 := Nat.ne_of_lt (Nat.lt_of_lt_of_le (Exa.lt f2544) f2635)
            have ne2861 : x2483 ≠ x2629 := Nat.ne_of_lt (Nat.lt_of_lt_of_le (Exa.lt f2552) f2635)
            have ne2862 : x2485 ≠ x2629 := Nat.ne_of_lt (Nat.lt_of_lt_of_le (Exa.lt f2554) f2635)
            have ne2863 : x2486 ≠ x2629 := Nat.ne_of_lt (Nat.lt_of_lt_of_le (Exa.lt f2562) f2635)
            have ge2864 : n0 ≤ x2630 := by rw [← O2599.1]; exact Nat.le_trans O2599.2.1 f2636
            have ne2865 : b2475 ≠ x2630 := Nat.ne_of_lt (Nat.lt_of_lt_of_le (Exa.lt f2539) f2636)
            have ne2866 : x2482 ≠ x2630 := Nat.ne_of_lt (Nat.lt_of_lt_of_le (Exa.lt f2544) f2636)
            have ne2867 : x2483 ≠ x2630 := Nat.ne_of_lt (Nat.lt_of_lt_of_le (Exa.lt f2552) f2636)
            have ne2868 : x2485 ≠ x2630 := Nat.ne_of_lt (Nat.lt_of_lt_of_le (Exa.lt f2554) f2636)
            have ne2869 : x2486 ≠ x2630 := Nat.ne_of_lt (Nat.lt_of_lt_of_le (Exa.lt f2562) f2636)
            have O2870 := O2599.keep k2634 (allS ge_b2475 (allS ge2526 (allS ge2530 all0)))
            obtain ⟨cq2871, kq2871, q2871a, q2871b, q2871c⟩ := isOf hZ rfl f2638
            obtain ⟨_, _, ⟨T2871, L2871, k2871, n2871⟩, -, X2871, ⟨Lc2871, hQ2871, l2871, y2871, z2871⟩, st2871⟩ := X2600.virtualBack hx (y := (⟨"com/example/sluice/sluice/WaitRecorder", "reset", "(J)V"⟩ : MethodName)) (z := (⟨"com/example/sluice/sluice/WaitRecorder", "reset", "(J)V"⟩ : MethodName)) hown (mvT hZ (own_w hw 77 rfl)) (mvT hZ (own_w hw 78 rfl)) (notFace_of_selects (args := #[]) (mvT hZ (own_w hw 80 rfl))) (mvT hZ (own_w hw 80 rfl)) (mvT hZ (own_w hw 79 rfl)) (by decide) (backOf (W := 0) (rm_reset l Z a0 hw [] b2475 lt x2 (own_fd lt x2) x2629 x2630 x2631 x2485 x2486 x2487 ((own_fd lt x2) * x2) ((0 : Int64) + (1 : Int64)) nw (((0 : Int64) + (1 : Int64)) + (1 : Int64)) wV kV vV T2600.heap n0 O2870 f2638 f2639 f2640 f2641 f2642 f2643 f2644 f2645 f2646 f2647 f2648 f2649 f2650 f2651 f2652 f2653 f2654 f2655 f2656 f2657 f2658 f2659 f2660 f2661 f2662 ge_b2475 ge2858 ge2530 ne2859 ne2865 ne2531 ne2533 f2637 (Ne.symm ne2862) (Ne.symm ne2863) (Ne.symm ne2868) (Ne.symm ne2869) f2499 S_V E_V A_V) hZ (own_w hw 81 rfl) (own_w hw 7 rfl) (by decide) (by decide)) q2871a q2871c (g := (mkF m 97 #[.val (.long raw), .second, .val (.long nw), .second, .val (.long lt), .second, .val (.long pc_), .second, .val (.int fl), .val (.long x2), .second, .val (.int (1 : Int32)), .val (.int (1 : Int32)), .val (.int (1 : Int32)), .val (.ref b2475), .unset, .unset, .unset, .unset, .unset, .unset, .unset, .unset, .unset, .unset, .unset, .unset, .unset, .unset, .unset] [(.long lt), (.ref b2475)])) rfl (by rw [hml]; rfl) (Steps.refl _) (argsL := [(.long lt)]) (rest := []) (lenOf pd_2 rfl) rfl (by show 2 * 0 + _ ≤ _; exact Nat.le_of_eq rfl) (hb hby at_97) (fun _ _ => ⟨rfl, rfl, (by decide : 13 + 3 ≤ _), (by decide : 88 + 21 ≤ _)⟩)
            dsimp only [Pt.U, Pt.locs, Pt.cells, Pt.slots] at X2871 l2871 y2871 z2871 st2871 hQ2871
            subst l2871 y2871 z2871
            obtain ⟨x2872, x2873, x2874, rfl, N2875, k2876, f2877, f2878, f2879, f2880, f2881, f2882, f2883, f2884, f2885, f2886, f2887, f2888, f2889, f2890, f2891, f2892, f2893, f2894⟩ := hQ2871
            have N2895 := Fr.app N2857 N2875
            have ge2896 : n0 ≤ x2872 := by rw [← O2870.1]; exact Nat.le_trans O2870.2.1 f2877
            have ne2897 : b2475 ≠ x2872 := Nat.ne_of_lt (Nat.lt_of_lt_of_le (Exa.lt f2638) f2877)
            have f2898 := (Exa.keep f2544 k2634)
            have ne2899 : x2482 ≠ x2872 := Nat.ne_of_lt (Nat.lt_of_lt_of_le (Exa.lt f2898) f2877)
            have f2900 := (Exa.keep f2552 k2634)
            have ne2901 : x2483 ≠ x2872 := Nat.ne_of_lt (Nat.lt_of_lt_of_le (Exa.lt f2900) f2877)
            have ne2902 : x2485 ≠ x2872 := Nat.ne_of_lt (Nat.lt_of_lt_of_le (Exa.lt f2653) f2877)
            have ne2903 : x2486 ≠ x2872 := Nat.ne_of_lt (Nat.lt_of_lt_of_le (Exa.lt f2661) f2877)
            have ne2904 : x2629 ≠ x2872 := Nat.ne_of_lt (Nat.lt_of_lt_of_le (Exa.lt f2643) f2877)
            have ne2905 : x2630 ≠ x2872 := Nat.ne_of_lt (Nat.lt_of_lt_of_le (Exa.lt f2651) f2877)
            have ge2906 : n0 ≤ x2873 := by rw [← O2870.1]; exact Nat.le_trans O2870.2.1 f2878
            have ne2907 : b2475 ≠ x2873 := Nat.ne_of_lt (Nat.lt_of_lt_of_le (Exa.lt f2638) f2878)
            have ne2908 : x2482 ≠ x2873 := Nat.ne_of_lt (Nat.lt_of_lt_of_le (Exa.lt f2898) f2878)
            have ne2909 : x2483 ≠ x2873 := Nat.ne_of_lt (Nat.lt_of_lt_of_le (Exa.lt f2900) f2878)
            have ne2910 : x2485 ≠ x2873 := Nat.ne_of_lt (Nat.lt_of_lt_of_le (Exa.lt f2653) f2878)
            have ne2911 : x2486 ≠ x2873 := Nat.ne_of_lt (Nat.lt_of_lt_of_le (Exa.lt f2661) f2878)
            have ne2912 : x2629 ≠ x2873 := Nat.ne_of_lt (Nat.lt_of_lt_of_le (Exa.lt f2643) f2878)
            have ne2913 : x2630 ≠ x2873 := Nat.ne_of_lt (Nat.lt_of_lt_of_le (Exa.lt f2651) f2878)
            have O2914 := O2870.keep k2876 (allS ge_b2475 all0)
            have f2916 := (Exa.keep f2643 k2876)
            have f2917 := (Fld.keep f2644 k2876 (ninS (Ne.symm ne2859) nin0))
            have f2918 := (Fld.keep f2645 k2876 (ninS (Ne.symm ne2859) nin0))
            have f2919 := (Fld.keep f2646 k2876 (ninS (Ne.symm ne2859) nin0))
            have f2920 := (Fld.keep f2647 k2876 (ninS (Ne.symm ne2859) nin0))
            have f2921 := (Fld.keep f2648 k2876 (ninS (Ne.symm ne2859) nin0))
            have f2922 := (Fld.keep f2649 k2876 (ninS (Ne.symm ne2859) nin0))
            have f2923 := (Fld.keep f2650 k2876 (ninS (Ne.symm ne2859) nin0))
            have f2924 := (Exa.keep f2651 k2876)
            have f2925 := (Arv.keep f2652 k2876 (ninS (Ne.symm ne2865) nin0))
            obtain ⟨cq2915, kq2915, q2915a, q2915b, q2915c⟩ := isOf hZ rfl f2880
            obtain ⟨_, _, ⟨T2915, L2915, k2915, n2915⟩, -, X2915, ⟨Lc2915, hQ2915, l2915, y2915, z2915⟩, st2915⟩ := X2871.virtualBack hx (y := (⟨"com/example/sluice/sluice/WaitRecorder", "intervalSnapshot", "(J)Lcom/example/sluice/sluice/WaitStatistics;"⟩ : MethodName)) (z := (⟨"com/example/sluice/sluice/WaitRecorder", "intervalSnapshot", "(J)Lcom/example/sluice/sluice/WaitStatistics;"⟩ : MethodName)) hown (mvT hZ (own_w hw 82 rfl)) (mvT hZ (own_w hw 83 rfl)) (notFace_of_selects (args := #[]) (mvT hZ (own_w hw 85 rfl))) (mvT hZ (own_w hw 85 rfl)) (mvT hZ (own_w hw 84 rfl)) (by decide) (backOf (W := 0) (rm_isnap l Z a0 hw [] b2475 lt x2 (own_fd lt x2) x2629 x2630 x2631 x2872 x2873 x2874 ((own_fd lt x2) * x2) ((0 : Int64) + (1 : Int64)) lt (0 : Int64) wV kV vV T2871.heap n0 O2914 f2880 f2881 f2882 f2883 f2884 f2916 f2917 f2918 f2919 f2920 f2921 f2922 f2923 f2924 f2925 f2885 f2886 f2887 f2888 f2889 f2890 f2891 f2892 f2893 f2894 ge_b2475 ge2858 ge2896 ne2859 ne2865 ne2897 ne2907 f2637 ne2904 ne2912 ne2905 ne2913 f2879 S_V E_V A_V hlen rfl) hZ (own_w hw 86 rfl) (own_w hw 7 rfl) (by decide) (by decide)) q2915a q2915c (g := (mkF m 117 #[.val (.long raw), .second, .val (.long nw), .second, .val (.long lt), .second, .val (.long pc_), .second, .val (.int fl), .val (.long x2), .second, .val (.int (1 : Int32)), .val (.int (1 : Int32)), .val (.int (1 : Int32)), .val (.ref b2475), .val (.long lt), .second, .unset, .unset, .unset, .unset, .unset, .unset, .unset, .unset, .unset, .unset, .unset, .unset, .unset] [(.long lt), (.ref b2475)])) rfl (by rw [hml]; rfl) (Steps.refl _) (argsL := [(.long lt)]) (rest := []) (lenOf pd_7 rfl) rfl (by show 2 * 0 + _ ≤ _; exact Nat.le_of_eq rfl) (hb hby at_117) (fun _ _ => ⟨rfl, rfl, (by decide : 16 + 5 ≤ _), (by decide : 109 + 35 ≤ _)⟩)
            dsimp only [Pt.U, Pt.locs, Pt.cells, Pt.slots] at X2915 l2915 y2915 z2915 st2915 hQ2915
            subst l2915 y2915 z2915
            obtain ⟨x2926, rfl, N2927, k2928, f2929, f2930, f2931⟩ := hQ2915
            have N2932 := Fr.app N2895 N2927
            have ge2933 : n0 ≤ x2926 := by rw [← O2914.1]; exact Nat.le_trans O2914.2.1 f2929
            have ne2934 : b2475 ≠ x2926 := Nat.ne_of_lt (Nat.lt_of_lt_of_le (Exa.lt f2880) f2929)
            have f2935 := (Exa.keep f2898 k2876)
            have ne2936 : x2482 ≠ x2926 := Nat.ne_of_lt (Nat.lt_of_lt_of_le (Exa.lt f2935) f2929)
            have f2937 := (Exa.keep f2900 k2876)
            have ne2938 : x2483 ≠ x2926 := Nat.ne_of_lt (Nat.lt_of_lt_of_le (Exa.lt f2937) f2929)
            have f2939 := (Exa.keep f2653 k2876)
            have ne2940 : x2485 ≠ x2926 := Nat.ne_of_lt (Nat.lt_of_lt_of_le (Exa.lt f2939) f2929)
            have f2941 := (Exa.keep f2661 k2876)
            have ne2942 : x2486 ≠ x2926 := Nat.ne_of_lt (Nat.lt_of_lt_of_le (Exa.lt f2941) f2929)
            have ne2943 : x2629 ≠ x2926 := Nat.ne_of_lt (Nat.lt_of_lt_of_le (Exa.lt f2916) f2929)
            have ne2944 : x2630 ≠ x2926 := Nat.ne_of_lt (Nat.lt_of_lt_of_le (Exa.lt f2924) f2929)
            have ne2945 : x2872 ≠ x2926 := Nat.ne_of_lt (Nat.lt_of_lt_of_le (Exa.lt f2885) f2929)
            have ne2946 : x2873 ≠ x2926 := Nat.ne_of_lt (Nat.lt_of_lt_of_le (Exa.lt f2893) f2929)
            have O2947 := O2914.keep k2928 all0
            obtain ⟨cq2948, kq2948, q2948a, q2948b, q2948c⟩ := isOf hZ rfl f2930
            obtain ⟨_, _, ⟨T2948, L2948, k2948, n2948⟩, -, X2948, ⟨Lc2948, hQ2948, l2948, y2948, z2948⟩, st2948⟩ := X2915.virtualBack hx (y := (⟨"com/example/sluice/sluice/WaitStatistics", "startedAtOnce", "()J"⟩ : MethodName)) (z := (⟨"com/example/sluice/sluice/WaitStatistics", "startedAtOnce", "()J"⟩ : MethodName)) hown (mvT hZ (own_w hw 124 rfl)) (mvT hZ (own_w hw 125 rfl)) (notFace_of_selects (args := #[]) (mvT hZ (own_w hw 127 rfl))) (mvT hZ (own_w hw 127 rfl)) (mvT hZ (own_w hw 126 rfl)) (by decide) (backOf (W := 0) (rm_get l Z a0 hw [] x2926 ((0 : Int64) + (1 : Int64)) T2915.heap n0 O2947 f2931) hZ (own_w hw 128 rfl) (own_w hw 94 rfl) (by decide) (by decide)) q2948a q2948c (g := (mkF m 120 #[.val (.long raw), .second, .val (.long nw), .second, .val (.long lt), .second, .val (.long pc_), .second, .val (.int fl), .val (.long x2), .second, .val (.int (1 : Int32)), .val (.int (1 : Int32)), .val (.int (1 : Int32)), .val (.ref b2475), .val (.long lt), .second, .unset, .unset, .unset, .unset, .unset, .unset, .unset, .unset, .unset, .unset, .unset, .unset, .unset] [(.ref x2926)])) rfl (by rw [hml]; rfl) (Steps.refl _) (argsL := []) (rest := []) (lenOf pd_8 rfl) rfl (by show 2 * 0 + _ ≤ _; exact Nat.le_of_eq rfl) (hb hby at_120) (fun _ _ => ⟨rfl, rfl, (by decide : 21 + 0 ≤ _), (by decide : 144 + 0 ≤ _)⟩)
            dsimp only [Pt.U, Pt.locs, Pt.cells, Pt.slots] at X2948 l2948 y2948 z2948 st2948 hQ2948
            subst l2948 y2948 z2948
            obtain ⟨rfl, N2949, k2950⟩ := hQ2948
            have N2951 := Fr.app N2932 N2949
            have f2953 := (Exa.keep f2880 k2928)
            have f2954 := (Fld.keep f2881 k2928 nin0)
            have f2955 := (Fld.keep f2882 k2928 nin0)
            have f2956 := (Fld.keep f2883 k2928 nin0)
            have f2957 := (Fld.keep f2884 k2928 nin0)
            have f2958 := (Exa.keep f2916 k2928)
            have f2959 := (Fld.keep f2917 k2928 nin0)
            have f2960 := (Fld.keep f2918 k2928 nin0)
            have f2961 := (Fld.keep f2919 k2928 nin0)
            have f2962 := (Fld.keep f2920 k2928 nin0)
            have f2963 := (Fld.keep f2921 k2928 nin0)
            have f2964 := (Fld.keep f2922 k2928 nin0)
            have f2965 := (Fld.keep f2923 k2928 nin0)
            have f2966 := (Exa.keep f2924 k2928)
            have f2967 := (Arv.keep f2925 k2928 nin0)
            have f2968 := (Exa.keep f2885 k2928)
            have f2969 := (Fld.keep f2886 k2928 nin0)
            have f2970 := (Fld.keep f2887 k2928 nin0)
            have f2971 := (Fld.keep f2888 k2928 nin0)
            have f2972 := (Fld.keep f2889 k2928 nin0)
            have f2973 := (Fld.keep f2890 k2928 nin0)
            have f2974 := (Fld.keep f2891 k2928 nin0)
            have f2975 := (Fld.keep f2892 k2928 nin0)
            have f2976 := (Exa.keep f2893 k2928)
            have f2977 := (Arv.keep f2894 k2928 nin0)
            obtain ⟨cq2952, kq2952, q2952a, q2952b, q2952c⟩ := isOf hZ k2950 f2953
            obtain ⟨_, _, ⟨T2952, L2952, k2952, n2952⟩, -, X2952, ⟨Lc2952, hQ2952, l2952, y2952, z2952⟩, st2952⟩ := X2948.virtualBack hx (y := (⟨"com/example/sluice/sluice/WaitRecorder", "startedAtOnceEarlier", "(J)V"⟩ : MethodName)) (z := (⟨"com/example/sluice/sluice/WaitRecorder", "startedAtOnceEarlier", "(J)V"⟩ : MethodName)) hown (mvT hZ (own_w hw 129 rfl)) (mvT hZ (own_w hw 130 rfl)) (notFace_of_selects (args := #[]) (mvT hZ (own_w hw 132 rfl))) (mvT hZ (own_w hw 132 rfl)) (mvT hZ (own_w hw 131 rfl)) (by decide) (backOf (W := 0) (rm_sae l Z a0 hw [] b2475 pc_ x2 (own_fd lt x2) x2629 x2630 x2631 x2872 x2873 x2874 ((own_fd lt x2) * x2) ((0 : Int64) + (1 : Int64)) lt (0 : Int64) T2915.heap n0 O2947 f2953 f2954 f2955 f2956 f2957 f2958 f2959 f2960 f2961 f2962 f2963 f2964 f2965 f2966 f2967 f2968 f2969 f2970 f2971 f2972 f2973 f2974 f2975 f2976 f2977 ge_b2475 ge2858 ge2896 ne2859 ne2865 ne2897 ne2907 f2637 ne2904 ne2912 ne2905 ne2913 f2879) hZ (own_w hw 133 rfl) (own_w hw 7 rfl) (by decide) (by decide)) q2952a q2952c (g := (mkF m 129 #[.val (.long raw), .second, .val (.long nw), .second, .val (.long lt), .second, .val (.long pc_), .second, .val (.int fl), .val (.long x2), .second, .val (.int (1 : Int32)), .val (.int (1 : Int32)), .val (.int (1 : Int32)), .val (.ref b2475), .val (.long lt), .second, .val (.long ((0 : Int64) + (1 : Int64))), .second, .unset, .unset, .unset, .unset, .unset, .unset, .unset, .unset, .unset, .unset, .unset] [(.long pc_), (.ref b2475)])) rfl (by rw [hml]; rfl) (Steps.refl _) (argsL := [(.long pc_)]) (rest := []) (lenOf pd_2 rfl) rfl (by show 2 * 0 + _ ≤ _; exact Nat.le_of_eq rfl) (hb hby at_129) (fun _ _ => ⟨rfl, k2950, (by decide : 21 + 0 ≤ _), (by decide : 144 + 0 ≤ _)⟩)
            dsimp only [Pt.U, Pt.locs, Pt.cells, Pt.slots] at X2952 l2952 y2952 z2952 st2952 hQ2952
            subst l2952 y2952 z2952
            obtain ⟨rfl, N2978, k2979, f2980, f2981, f2982, f2983, f2984, f2985, f2986, f2987, f2988, f2989, f2990, f2991, f2992, f2993, f2994, f2995, f2996, f2997, f2998, f2999⟩ := hQ2952
            have N3000 := Fr.app N2951 N2978
            have O3001 := O2947.keep k2979 (allS ge2858 (allS ge2896 all0))
            have f3003 := (Exa.keep f2953 k2979)
            have f3004 := (Fld.keep f2954 k2979 (ninS ne2859 (ninS ne2897 nin0)))
            have f3005 := (Fld.keep f2955 k2979 (ninS ne2859 (ninS ne2897 nin0)))
            have f3006 := (Fld.keep f2956 k2979 (ninS ne2859 (ninS ne2897 nin0)))
            have f3007 := (Fld.keep f2957 k2979 (ninS ne2859 (ninS ne2897 nin0)))
            obtain ⟨cq3002, kq3002, q3002a, q3002b, q3002c⟩ := isOf hZ rfl f3003
            obtain ⟨_, _, ⟨T3002, L3002, k3002, n3002⟩, -, X3002, ⟨Lc3002, hQ3002, l3002, y3002, z3002⟩, st3002⟩ := X2952.virtualBack hx (y := (⟨"com/example/sluice/sluice/WaitRecorder", "intervalSnapshot", "(J)Lcom/example/sluice/sluice/WaitStatistics;"⟩ : MethodName)) (z := (⟨"com/example/sluice/sluice/WaitRecorder", "intervalSnapshot", "(J)Lcom/example/sluice/sluice/WaitStatistics;"⟩ : MethodName)) hown (mvT hZ (own_w hw 82 rfl)) (mvT hZ (own_w hw 83 rfl)) (notFace_of_selects (args := #[]) (mvT hZ (own_w hw 85 rfl))) (mvT hZ (own_w hw 85 rfl)) (mvT hZ (own_w hw 84 rfl)) (by decide) (backOf (W := 0) (rm_isnap l Z a0 hw [] b2475 lt x2 (own_fd lt x2) x2629 x2630 x2631 x2872 x2873 x2874 ((own_fd lt x2) * x2) (((0 : Int64) + (1 : Int64)) + pc_) lt ((0 : Int64) + pc_) wV kV vV T2952.heap n0 O3001 f3003 f3004 f3005 f3006 f3007 f2980 f2981 f2982 f2983 f2984 f2985 f2986 f2987 f2988 f2989 f2990 f2991 f2992 f2993 f2994 f2995 f2996 f2997 f2998 f2999 ge_b2475 ge2858 ge2896 ne2859 ne2865 ne2897 ne2907 f2637 ne2904 ne2912 ne2905 ne2913 f2879 S_V E_V A_V hlen rfl) hZ (own_w hw 86 rfl) (own_w hw 7 rfl) (by decide) (by decide)) q3002a q3002c (g := (mkF m 136 #[.val (.long raw), .second, .val (.long nw), .second, .val (.long lt), .second, .val (.long pc_), .second, .val (.int fl), .val (.long x2), .second, .val (.int (1 : Int32)), .val (.int (1 : Int32)), .val (.int (1 : Int32)), .val (.ref b2475), .val (.long lt), .second, .val (.long ((0 : Int64) + (1 : Int64))), .second, .unset, .unset, .unset, .unset, .unset, .unset, .unset, .unset, .unset, .unset, .unset] [(.long lt), (.ref b2475)])) rfl (by rw [hml]; rfl) (Steps.refl _) (argsL := [(.long lt)]) (rest := []) (lenOf pd_7 rfl) rfl (by show 2 * 0 + _ ≤ _; exact Nat.le_of_eq rfl) (hb hby at_136) (fun _ _ => ⟨rfl, rfl, (by decide : 21 + 5 ≤ _), (by decide : 144 + 35 ≤ _)⟩)
            dsimp only [Pt.U, Pt.locs, Pt.cells, Pt.slots] at X3002 l3002 y3002 z3002 st3002 hQ3002
            subst l3002 y3002 z3002
            obtain ⟨x3008, rfl, N3009, k3010, f3011, f3012, f3013⟩ := hQ3002
            have N3014 := Fr.app N3000 N3009
            have ge3015 : n0 ≤ x3008 := by rw [← O3001.1]; exact Nat.le_trans O3001.2.1 f3011
            have ne3016 : b2475 ≠ x3008 := Nat.ne_of_lt (Nat.lt_of_lt_of_le (Exa.lt f3003) f3011)
            have f3017 := (Exa.keep (Exa.keep f2935 k2928) k2979)
            have ne3018 : x2482 ≠ x3008 := Nat.ne_of_lt (Nat.lt_of_lt_of_le (Exa.lt f3017) f3011)
            have f3019 := (Exa.keep (Exa.keep f2937 k2928) k2979)
            have ne3020 : x2483 ≠ x3008 := Nat.ne_of_lt (Nat.lt_of_lt_of_le (Exa.lt f3019) f3011)
            have f3021 := (Exa.keep (Exa.keep f2939 k2928) k2979)
            have ne3022 : x2485 ≠ x3008 := Nat.ne_of_lt (Nat.lt_of_lt_of_le (Exa.lt f3021) f3011)
            have f3023 := (Exa.keep (Exa.keep f2941 k2928) k2979)
            have ne3024 : x2486 ≠ x3008 := Nat.ne_of_lt (Nat.lt_of_lt_of_le (Exa.lt f3023) f3011)
            have ne3025 : x2629 ≠ x3008 := Nat.ne_of_lt (Nat.lt_of_lt_of_le (Exa.lt f2980) f3011)
            have ne3026 : x2630 ≠ x3008 := Nat.ne_of_lt (Nat.lt_of_lt_of_le (Exa.lt f2988) f3011)
            have ne3027 : x2872 ≠ x3008 := Nat.ne_of_lt (Nat.lt_of_lt_of_le (Exa.lt f2990) f3011)
            have ne3028 : x2873 ≠ x3008 := Nat.ne_of_lt (Nat.lt_of_lt_of_le (Exa.lt f2998) f3011)
            have f3029 := (Exa.keep f2930 k2979)
            have ne3030 : x2926 ≠ x3008 := Nat.ne_of_lt (Nat.lt_of_lt_of_le (Exa.lt f3029) f3011)
            have O3031 := O3001.keep k3010 all0
            obtain ⟨cq3032, kq3032, q3032a, q3032b, q3032c⟩ := isOf hZ rfl f3012
            obtain ⟨_, _, ⟨T3032, L3032, k3032, n3032⟩, -, X3032, ⟨Lc3032, hQ3032, l3032, y3032, z3032⟩, st3032⟩ := X3002.virtualBack hx (y := (⟨"com/example/sluice/sluice/WaitStatistics", "startedAtOnce", "()J"⟩ : MethodName)) (z := (⟨"com/example/sluice/sluice/WaitStatistics", "startedAtOnce", "()J"⟩ : MethodName)) hown (mvT hZ (own_w hw 124 rfl)) (mvT hZ (own_w hw 125 rfl)) (notFace_of_selects (args := #[]) (mvT hZ (own_w hw 127 rfl))) (mvT hZ (own_w hw 127 rfl)) (mvT hZ (own_w hw 126 rfl)) (by decide) (backOf (W := 0) (rm_get l Z a0 hw [] x3008 (((0 : Int64) + (1 : Int64)) + pc_) T3002.heap n0 O3031 f3013) hZ (own_w hw 128 rfl) (own_w hw 94 rfl) (by decide) (by decide)) q3032a q3032c (g := (mkF m 139 #[.val (.long raw), .second, .val (.long nw), .second, .val (.long lt), .second, .val (.long pc_), .second, .val (.int fl), .val (.long x2), .second, .val (.int (1 : Int32)), .val (.int (1 : Int32)), .val (.int (1 : Int32)), .val (.ref b2475), .val (.long lt), .second, .val (.long ((0 : Int64) + (1 : Int64))), .second, .unset, .unset, .unset, .unset, .unset, .unset, .unset, .unset, .unset, .unset, .unset] [(.ref x3008)])) rfl (by rw [hml]; rfl) (Steps.refl _) (argsL := []) (rest := []) (lenOf pd_8 rfl) rfl (by show 2 * 0 + _ ≤ _; exact Nat.le_of_eq rfl) (hb hby at_139) (fun _ _ => ⟨rfl, rfl, (by decide : 26 + 0 ≤ _), (by decide : 179 + 0 ≤ _)⟩)
            dsimp only [Pt.U, Pt.locs, Pt.cells, Pt.slots] at X3032 l3032 y3032 z3032 st3032 hQ3032
            subst l3032 y3032 z3032
            obtain ⟨rfl, N3033, k3034⟩ := hQ3032
            have N3035 := Fr.app N3014 N3033
            have f3037 := (Exa.keep f3003 k3010)
            have f3038 := (Fld.keep f3007 k3010 nin0)
            have f3039 := (Exa.keep f2990 k3010)
            have f3040 := (Fld.keep f2991 k3010 nin0)
            have f3041 := (Fld.keep f2992 k3010 nin0)
            have f3042 := (Fld.keep f2993 k3010 nin0)
            have f3043 := (Fld.keep f2994 k3010 nin0)
            have f3044 := (Fld.keep f2995 k3010 nin0)
            have f3045 := (Fld.keep f2996 k3010 nin0)
            have f3046 := (Fld.keep f2997 k3010 nin0)
            have f3047 := (Exa.keep f2998 k3010)
            have f3048 := (Arv.keep f2999 k3010 nin0)
            obtain ⟨cq3036, kq3036, q3036a, q3036b, q3036c⟩ := isOf hZ k3034 f3037
            obtain ⟨_, _, ⟨T3036, L3036, k3036, n3036⟩, -, X3036, ⟨Lc3036, hQ3036, l3036, y3036, z3036⟩, st3036⟩ := X3032.virtualBack hx (y := (⟨"com/example/sluice/sluice/WaitRecorder", "sinceResetSnapshot", "()Lcom/example/sluice/sluice/WaitStatistics;"⟩ : MethodName)) (z := (⟨"com/example/sluice/sluice/WaitRecorder", "sinceResetSnapshot", "()Lcom/example/sluice/sluice/WaitStatistics;"⟩ : MethodName)) hown (mvT hZ (own_w hw 134 rfl)) (mvT hZ (own_w hw 135 rfl)) (notFace_of_selects (args := #[]) (mvT hZ (own_w hw 137 rfl))) (mvT hZ (own_w hw 137 rfl)) (mvT hZ (own_w hw 136 rfl)) (by decide) (backOf (W := 0) (rm_ssnap l Z a0 hw [] b2475 x2872 lt ((0 : Int64) + pc_) x2873 x2874 T3002.heap n0 O3031 f3038 f3039 f3040 f3041 f3042 f3043 f3044 f3045 f3046 f3047 f3048) hZ (own_w hw 138 rfl) (own_w hw 7 rfl) (by decide) (by decide)) q3036a q3036c (g := (mkF m 146 #[.val (.long raw), .second, .val (.long nw), .second, .val (.long lt), .second, .val (.long pc_), .second, .val (.int fl), .val (.long x2), .second, .val (.int (1 : Int32)), .val (.int (1 : Int32)), .val (.int (1 : Int32)), .val (.ref b2475), .val (.long lt), .second, .val (.long ((0 : Int64) + (1 : Int64))), .second, .val (.long (((0 : Int64) + (1 : Int64)) + pc_)), .second, .unset, .unset, .unset, .unset, .unset, .unset, .unset, .unset, .unset] [(.ref b2475)])) rfl (by rw [hml]; rfl) (Steps.refl _) (argsL := []) (rest := []) (lenOf pd_5 rfl) rfl (by show 2 * 0 + _ ≤ _; exact Nat.le_of_eq rfl) (hb hby at_146) (fun _ _ => ⟨rfl, k3034, (by decide : 26 + 2 ≤ _), (by decide : 179 + 14 ≤ _)⟩)
            dsimp only [Pt.U, Pt.locs, Pt.cells, Pt.slots] at X3036 l3036 y3036 z3036 st3036 hQ3036
            subst l3036 y3036 z3036
            obtain ⟨x3049, rfl, N3050, k3051, f3052, f3053, f3054⟩ := hQ3036
            have N3055 := Fr.app N3035 N3050
            have ge3056 : n0 ≤ x3049 := by rw [← O3031.1]; exact Nat.le_trans O3031.2.1 f3052
            have ne3057 : b2475 ≠ x3049 := Nat.ne_of_lt (Nat.lt_of_lt_of_le (Exa.lt f3037) f3052)
            have f3058 := (Exa.keep f3017 k3010)
            have ne3059 : x2482 ≠ x3049 := Nat.ne_of_lt (Nat.lt_of_lt_of_le (Exa.lt f3058) f3052)
            have f3060 := (Exa.keep f3019 k3010)
            have ne3061 : x2483 ≠ x3049 := Nat.ne_of_lt (Nat.lt_of_lt_of_le (Exa.lt f3060) f3052)
            have f3062 := (Exa.keep f3021 k3010)
            have ne3063 : x2485 ≠ x3049 := Nat.ne_of_lt (Nat.lt_of_lt_of_le (Exa.lt f3062) f3052)
            have f3064 := (Exa.keep f3023 k3010)
            have ne3065 : x2486 ≠ x3049 := Nat.ne_of_lt (Nat.lt_of_lt_of_le (Exa.lt f3064) f3052)
            have f3066 := (Exa.keep f2980 k3010)
            have ne3067 : x2629 ≠ x3049 := Nat.ne_of_lt (Nat.lt_of_lt_of_le (Exa.lt f3066) f3052)
            have f3068 := (Exa.keep f2988 k3010)
            have ne3069 : x2630 ≠ x3049 := Nat.ne_of_lt (Nat.lt_of_lt_of_le (Exa.lt f3068) f3052)
            have ne3070 : x2872 ≠ x3049 := Nat.ne_of_lt (Nat.lt_of_lt_of_le (Exa.lt f3039) f3052)
            have ne3071 : x2873 ≠ x3049 := Nat.ne_of_lt (Nat.lt_of_lt_of_le (Exa.lt f3047) f3052)
            have f3072 := (Exa.keep f3029 k3010)
            have ne3073 : x2926 ≠ x3049 := Nat.ne_of_lt (Nat.lt_of_lt_of_le (Exa.lt f3072) f3052)
            have ne3074 : x3008 ≠ x3049 := Nat.ne_of_lt (Nat.lt_of_lt_of_le (Exa.lt f3012) f3052)
            have O3075 := O3031.keep k3051 all0
            obtain ⟨cq3076, kq3076, q3076a, q3076b, q3076c⟩ := isOf hZ rfl f3053
            obtain ⟨_, _, ⟨T3076, L3076, k3076, n3076⟩, -, X3076, ⟨Lc3076, hQ3076, l3076, y3076, z3076⟩, st3076⟩ := X3036.virtualBack hx (y := (⟨"com/example/sluice/sluice/WaitStatistics", "startedAtOnce", "()J"⟩ : MethodName)) (z := (⟨"com/example/sluice/sluice/WaitStatistics", "startedAtOnce", "()J"⟩ : MethodName)) hown (mvT hZ (own_w hw 124 rfl)) (mvT hZ (own_w hw 125 rfl)) (notFace_of_selects (args := #[]) (mvT hZ (own_w hw 127 rfl))) (mvT hZ (own_w hw 127 rfl)) (mvT hZ (own_w hw 126 rfl)) (by decide) (backOf (W := 0) (rm_get l Z a0 hw [] x3049 ((0 : Int64) + pc_) T3036.heap n0 O3075 f3054) hZ (own_w hw 128 rfl) (own_w hw 94 rfl) (by decide) (by decide)) q3076a q3076c (g := (mkF m 149 #[.val (.long raw), .second, .val (.long nw), .second, .val (.long lt), .second, .val (.long pc_), .second, .val (.int fl), .val (.long x2), .second, .val (.int (1 : Int32)), .val (.int (1 : Int32)), .val (.int (1 : Int32)), .val (.ref b2475), .val (.long lt), .second, .val (.long ((0 : Int64) + (1 : Int64))), .second, .val (.long (((0 : Int64) + (1 : Int64)) + pc_)), .second, .unset, .unset, .unset, .unset, .unset, .unset, .unset, .unset, .unset] [(.ref x3049)])) rfl (by rw [hml]; rfl) (Steps.refl _) (argsL := []) (rest := []) (lenOf pd_8 rfl) rfl (by show 2 * 0 + _ ≤ _; exact Nat.le_of_eq rfl) (hb hby at_149) (fun _ _ => ⟨rfl, rfl, (by decide : 28 + 0 ≤ _), (by decide : 193 + 0 ≤ _)⟩)
            dsimp only [Pt.U, Pt.locs, Pt.cells, Pt.slots] at X3076 l3076 y3076 z3076 st3076 hQ3076
            subst l3076 y3076 z3076
            obtain ⟨rfl, N3077, k3078⟩ := hQ3076
            have N3079 := Fr.app N3055 N3077
            have S3080 : ∀ t, Steps p.tables e below (T3076.setTop (mkF m 271 #[.val (.long raw), .second, .val (.long nw), .second, .val (.long lt), .second, .val (.long pc_), .second, .val (.int fl), .val (.long x2), .second, .val (.int (1 : Int32)), .val (.int (1 : Int32)), .val (.int (1 : Int32)), .val (.ref b2475), .val (.long lt), .second, .val (.long ((0 : Int64) + (1 : Int64))), .second, .val (.long (((0 : Int64) + (1 : Int64)) + pc_)), .second, .val (.long ((0 : Int64) + pc_)), .second, .val (.long (1 : Int64)), .second, .val (.long (1 : Int64)), .second, .val (.int (1 : Int32)), .val (.long ((0 : Int64) + pc_)), .second] [(.int (1 : Int32))])) t → Steps p.tables e below (s₁.setTop (mkF m 0 #[.val (.long raw), .second, .val (.long nw), .second, .val (.long lt), .second, .val (.long pc_), .second, .val (.int fl), .unset, .unset, .unset, .unset, .unset, .unset, .unset, .unset, .unset, .unset, .unset, .unset, .unset, .unset, .unset, .unset, .unset, .unset, .unset, .unset, .unset] [])) t := by
              intro t kt
              refine S2156 t ?_
              refine XS.ifNo X1.here hx rfl (hb hby at_43) rfl ((if0 _ _).trans (feq (c2157 : ¬ ((fl &&& (4 : Int32)) = (0 : Int32)))).1) ?_
              refine XS.iconst X1.here hx rfl (hb hby at_46) ?_
              refine XS.goto X1.here hx rfl (pc0 := 47) (pc' := 51) rfl (hb hby at_47) (by decide) (by decide) ?_
              refine XS.istore X1.here hx rfl (hb hby at_51) rfl (l' := #[.val (.long raw), .second, .val (.long nw), .second, .val (.long lt), .second, .val (.long pc_), .second, .val (.int fl), .val (.long x2), .second, .val (.int (1 : Int32)), .val (.int (1 : Int32)), .val (.int (1 : Int32)), .unset, .unset, .unset, .unset, .unset, .unset, .unset, .unset, .unset, .unset, .unset, .unset, .unset, .unset, .unset, .unset]) rfl ?_
              show Steps p.tables e below (T1.setTop (mkF m 53 #[.val (.long raw), .second, .val (.long nw), .second, .val (.long lt), .second, .val (.long pc_), .second, .val (.int fl), .val (.long x2), .second, .val (.int (1 : Int32)), .val (.int (1 : Int32)), .val (.int (1 : Int32)), .unset, .unset, .unset, .unset, .unset, .unset, .unset, .unset, .unset, .unset, .unset, .unset, .unset, .unset, .unset, .unset] [])) _
              refine st2475 _ ?_
              refine XS.dup X2475.here hx rfl (hb hby at_56) rfl rfl ?_
              refine XS.lload X2475.here hx rfl (hb hby at_57) rfl ?_
              refine XS.lloadN X2475.here hx rfl (hb hby at_59) rfl ?_
              show Steps p.tables e below (T2475.setTop (mkF m 60 #[.val (.long raw), .second, .val (.long nw), .second, .val (.long lt), .second, .val (.long pc_), .second, .val (.int fl), .val (.long x2), .second, .val (.int (1 : Int32)), .val (.int (1 : Int32)), .val (.int (1 : Int32)), .unset, .unset, .unset, .unset, .unset, .unset, .unset, .unset, .unset, .unset, .unset, .unset, .unset, .unset, .unset, .unset] [(.long nw), (.long x2), (.ref b2475), (.ref b2475)])) _
              refine st2481.trans ?_
              refine XS.astore X2481.here hx rfl (hb hby at_63) rfl rfl (l' := #[.val (.long raw), .second, .val (.long nw), .second, .val (.long lt), .second, .val (.long pc_), .second, .val (.int fl), .val (.long x2), .second, .val (.int (1 : Int32)), .val (.int (1 : Int32)), .val (.int (1 : Int32)), .val (.ref b2475), .unset, .unset, .unset, .unset, .unset, .unset, .unset, .unset, .unset, .unset, .unset, .unset, .unset, .unset, .unset]) rfl ?_
              refine XS.iload X2481.here hx rfl (hb hby at_65) rfl ?_
              refine XS.ifNo X2481.here hx rfl (hb hby at_67) rfl ((if0 _ _).trans (feq ((by decide) : ¬ ((1 : Int32) = (0 : Int32)))).1) ?_
              refine XS.aload X2481.here hx rfl (hb hby at_70) rfl rfl ?_
              refine XS.lloadN X2481.here hx rfl (hb hby at_72) rfl ?_
              show Steps p.tables e below (T2481.setTop (mkF m 73 #[.val (.long raw), .second, .val (.long nw), .second, .val (.long lt), .second, .val (.long pc_), .second, .val (.int fl), .val (.long x2), .second, .val (.int (1 : Int32)), .val (.int (1 : Int32)), .val (.int (1 : Int32)), .val (.ref b2475), .unset, .unset, .unset, .unset, .unset, .unset, .unset, .unset, .unset, .unset, .unset, .unset, .unset, .unset, .unset] [(.long nw), (.ref b2475)])) _
              refine st2535.trans ?_
              refine XS.iload X2535.here hx rfl (hb hby at_76) rfl ?_
              refine XS.ifNo X2535.here hx rfl (hb hby at_78) rfl ((if0 _ _).trans (feq ((by decide) : ¬ ((1 : Int32) = (0 : Int32)))).1) ?_
              refine XS.aload X2535.here hx rfl (hb hby at_81) rfl rfl ?_
              refine XS.lload X2535.here hx rfl (hb hby at_83) rfl ?_
              show Steps p.tables e below (T2535.setTop (mkF m 85 #[.val (.long raw), .second, .val (.long nw), .second, .val (.long lt), .second, .val (.long pc_), .second, .val (.int fl), .val (.long x2), .second, .val (.int (1 : Int32)), .val (.int (1 : Int32)), .val (.int (1 : Int32)), .val (.ref b2475), .unset, .unset, .unset, .unset, .unset, .unset, .unset, .unset, .unset, .unset, .unset, .unset, .unset, .unset, .unset] [(.long lt), (.ref b2475)])) _
              refine st2600.trans ?_
              refine XS.iload X2600.here hx rfl (hb hby at_88) rfl ?_
              refine XS.ifNo X2600.here hx rfl (hb hby at_90) rfl ((if0 _ _).trans (feq ((by decide) : ¬ ((1 : Int32) = (0 : Int32)))).1) ?_
              refine XS.aload X2600.here hx rfl (hb hby at_93) rfl rfl ?_
              refine XS.lload X2600.here hx rfl (hb hby at_95) rfl ?_
              show Steps p.tables e below (T2600.setTop (mkF m 97 #[.val (.long raw), .second, .val (.long nw), .second, .val (.long lt), .second, .val (.long pc_), .second, .val (.int fl), .val (.long x2), .second, .val (.int (1 : Int32)), .val (.int (1 : Int32)), .val (.int (1 : Int32)), .val (.ref b2475), .unset, .unset, .unset, .unset, .unset, .unset, .unset, .unset, .unset, .unset, .unset, .unset, .unset, .unset, .unset] [(.long lt), (.ref b2475)])) _
              refine st2871.trans ?_
              refine XS.iload X2871.here hx rfl (hb hby at_100) rfl ?_
              refine XS.ifNo X2871.here hx rfl (hb hby at_102) rfl ((if0 _ _).trans (feq ((by decide) : ¬ ((1 : Int32) = (0 : Int32)))).1) ?_
              refine XS.lload X2871.here hx rfl (hb hby at_105) rfl ?_
              refine XS.goto X2871.here hx rfl (pc0 := 107) (pc' := 111) rfl (hb hby at_107) (by decide) (by decide) ?_
              refine XS.lstore X2871.here hx rfl (hb hby at_111) rfl (l' := #[.val (.long raw), .second, .val (.long nw), .second, .val (.long lt), .second, .val (.long pc_), .second, .val (.int fl), .val (.long x2), .second, .val (.int (1 : Int32)), .val (.int (1 : Int32)), .val (.int (1 : Int32)), .val (.ref b2475), .val (.long lt), .second, .unset, .unset, .unset, .unset, .unset, .unset, .unset, .unset, .unset, .unset, .unset, .unset, .unset]) rfl ?_
              show Steps p.tables e below (T2871.setTop (mkF m 113 #[.val (.long raw), .second, .val (.long nw), .second, .val (.long lt), .second, .val (.long pc_), .second, .val (.int fl), .val (.long x2), .second, .val (.int (1 : Int32)), .val (.int (1 : Int32)), .val (.int (1 : Int32)), .val (.ref b2475), .val (.long lt), .second, .unset, .unset, .unset, .unset, .unset, .unset, .unset, .unset, .unset, .unset, .unset, .unset, .unset] [])) _
              refine XS.aload X2871.here hx rfl (hb hby at_113) rfl rfl ?_
              refine XS.lload X2871.here hx rfl (hb hby at_115) rfl ?_
              show Steps p.tables e below (T2871.setTop (mkF m 117 #[.val (.long raw), .second, .val (.long nw), .second, .val (.long lt), .second, .val (.long pc_), .second, .val (.int fl), .val (.long x2), .second, .val (.int (1 : Int32)), .val (.int (1 : Int32)), .val (.int (1 : Int32)), .val (.ref b2475), .val (.long lt), .second, .unset, .unset, .unset, .unset, .unset, .unset, .unset, .unset, .unset, .unset, .unset, .unset, .unset] [(.long lt), (.ref b2475)])) _
              refine st2915.trans ?_
              show Steps p.tables e below (T2915.setTop (mkF m 120 #[.val (.long raw), .second, .val (.long nw), .second, .val (.long lt), .second, .val (.long pc_), .second, .val (.int fl), .val (.long x2), .second, .val (.int (1 : Int32)), .val (.int (1 : Int32)), .val (.int (1 : Int32)), .val (.ref b2475), .val (.long lt), .second, .unset, .unset, .unset, .unset, .unset, .unset, .unset, .unset, .unset, .unset, .unset, .unset, .unset] [(.ref x2926)])) _
              refine st2948.trans ?_
              refine XS.lstore X2948.here hx rfl (hb hby at_123) rfl (l' := #[.val (.long raw), .second, .val (.long nw), .second, .val (.long lt), .second, .val (.long pc_), .second, .val (.int fl), .val (.long x2), .second, .val (.int (1 : Int32)), .val (.int (1 : Int32)), .val (.int (1 : Int32)), .val (.ref b2475), .val (.long lt), .second, .val (.long ((0 : Int64) + (1 : Int64))), .second, .unset, .unset, .unset, .unset, .unset, .unset, .unset, .unset, .unset, .unset, .unset]) rfl ?_
              refine XS.aload X2948.here hx rfl (hb hby at_125) rfl rfl ?_
              refine XS.lload X2948.here hx rfl (hb hby at_127) rfl ?_
              show Steps p.tables e below (T2948.setTop (mkF m 129 #[.val (.long raw), .second, .val (.long nw), .second, .val (.long lt), .second, .val (.long pc_), .second, .val (.int fl), .val (.long x2), .second, .val (.int (1 : Int32)), .val (.int (1 : Int32)), .val (.int (1 : Int32)), .val (.ref b2475), .val (.long lt), .second, .val (.long ((0 : Int64) + (1 : Int64))), .second, .unset, .unset, .unset, .unset, .unset, .unset, .unset, .unset, .unset, .unset, .unset] [(.long pc_), (.ref b2475)])) _
              refine st2952.trans ?_
              refine XS.aload X2952.here hx rfl (hb hby at_132) rfl rfl ?_
              refine XS.lload X2952.here hx rfl (hb hby at_134) rfl ?_
              show Steps p.tables e below (T2952.setTop (mkF m 136 #[.val (.long raw), .second, .val (.long nw), .second, .val (.long lt), .second, .val (.long pc_), .second, .val (.int fl), .val (.long x2), .second, .val (.int (1 : Int32)), .val (.int (1 : Int32)), .val (.int (1 : Int32)), .val (.ref b2475), .val (.long lt), .second, .val (.long ((0 : Int64) + (1 : Int64))), .second, .unset, .unset, .unset, .unset, .unset, .unset, .unset, .unset, .unset, .unset, .unset] [(.long lt), (.ref b2475)])) _
              refine st3002.trans ?_
              show Steps p.tables e below (T3002.setTop (mkF m 139 #[.val (.long raw), .second, .val (.long nw), .second, .val (.long lt), .second, .val (.long pc_), .second, .val (.int fl), .val (.long x2), .second, .val (.int (1 : Int32)), .val (.int (1 : Int32)), .val (.int (1 : Int32)), .val (.ref b2475), .val (.long lt), .second, .val (.long ((0 : Int64) + (1 : Int64))), .second, .unset, .unset, .unset, .unset, .unset, .unset, .unset, .unset, .unset, .unset, .unset] [(.ref x3008)])) _
              refine st3032.trans ?_
              refine XS.lstore X3032.here hx rfl (hb hby at_142) rfl (l' := #[.val (.long raw), .second, .val (.long nw), .second, .val (.long lt), .second, .val (.long pc_), .second, .val (.int fl), .val (.long x2), .second, .val (.int (1 : Int32)), .val (.int (1 : Int32)), .val (.int (1 : Int32)), .val (.ref b2475), .val (.long lt), .second, .val (.long ((0 : Int64) + (1 : Int64))), .second, .val (.long (((0 : Int64) + (1 : Int64)) + pc_)), .second, .unset, .unset, .unset, .unset, .unset, .unset, .unset, .unset, .unset]) rfl ?_
              refine XS.aload X3032.here hx rfl (hb hby at_144) rfl rfl ?_
              show Steps p.tables e below (T3032.setTop (mkF m 146 #[.val (.long raw), .second, .val (.long nw), .second, .val (.long lt), .second, .val (.long pc_), .second, .val (.int fl), .val (.long x2), .second, .val (.int (1 : Int32)), .val (.int (1 : Int32)), .val (.int (1 : Int32)), .val (.ref b2475), .val (.long lt), .second, .val (.long ((0 : Int64) + (1 : Int64))), .second, .val (.long (((0 : Int64) + (1 : Int64)) + pc_)), .second, .unset, .unset, .unset, .unset, .unset, .unset, .unset, .unset, .unset] [(.ref b2475)])) _
              refine st3036.trans ?_
              show Steps p.tables e below (T3036.setTop (mkF m 149 #[.val (.long raw), .second, .val (.long nw), .second, .val (.long lt), .second, .val (.long pc_), .second, .val (.int fl), .val (.long x2), .second, .val (.int (1 : Int32)), .val (.int (1 : Int32)), .val (.int (1 : Int32)), .val (.ref b2475), .val (.long lt), .second, .val (.long ((0 : Int64) + (1 : Int64))), .second, .val (.long (((0 : Int64) + (1 : Int64)) + pc_)), .second, .unset, .unset, .unset, .unset, .unset, .unset, .unset, .unset, .unset] [(.ref x3049)])) _
              refine st3076.trans ?_
              refine XS.lstore X3076.here hx rfl (hb hby at_152) rfl (l' := #[.val (.long raw), .second, .val (.long nw), .second, .val (.long lt), .second, .val (.long pc_), .second, .val (.int fl), .val (.long x2), .second, .val (.int (1 : Int32)), .val (.int (1 : Int32)), .val (.int (1 : Int32)), .val (.ref b2475), .val (.long lt), .second, .val (.long ((0 : Int64) + (1 : Int64))), .second, .val (.long (((0 : Int64) + (1 : Int64)) + pc_)), .second, .val (.long ((0 : Int64) + pc_)), .second, .unset, .unset, .unset, .unset, .unset, .unset, .unset]) rfl ?_
              refine XS.iload X3076.here hx rfl (hb hby at_154) rfl ?_
              refine XS.ifNo X3076.here hx rfl (hb hby at_156) rfl ((if0 _ _).trans (feq ((by decide) : ¬ ((1 : Int32) = (0 : Int32)))).1) ?_
              refine XS.lconst X3076.here hx rfl (hb hby at_159) ?_
              refine XS.goto X3076.here hx rfl (pc0 := 160) (pc' := 164) rfl (hb hby at_160) (by decide) (by decide) ?_
              show Steps p.tables e below (T3076.setTop (mkF m 164 #[.val (.long raw), .second, .val (.long nw), .second, .val (.long lt), .second, .val (.long pc_), .second, .val (.int fl), .val (.long x2), .second, .val (.int (1 : Int32)), .val (.int (1 : Int32)), .val (.int (1 : Int32)), .val (.ref b2475), .val (.long lt), .second, .val (.long ((0 : Int64) + (1 : Int64))), .second, .val (.long (((0 : Int64) + (1 : Int64)) + pc_)), .second, .val (.long ((0 : Int64) + pc_)), .second, .unset, .unset, .unset, .unset, .unset, .unset, .unset] [(.long (1 : Int64))])) _
              refine XS.lstore X3076.here hx rfl (hb hby at_164) rfl (l' := #[.val (.long raw), .second, .val (.long nw), .second, .val (.long lt), .second, .val (.long pc_), .second, .val (.int fl), .val (.long x2), .second, .val (.int (1 : Int32)), .val (.int (1 : Int32)), .val (.int (1 : Int32)), .val (.ref b2475), .val (.long lt), .second, .val (.long ((0 : Int64) + (1 : Int64))), .second, .val (.long (((0 : Int64) + (1 : Int64)) + pc_)), .second, .val (.long ((0 : Int64) + pc_)), .second, .val (.long (1 : Int64)), .second, .unset, .unset, .unset, .unset, .unset]) rfl ?_
              refine XS.iload X3076.here hx rfl (hb hby at_166) rfl ?_
              refine XS.ifNo X3076.here hx rfl (hb hby at_168) rfl ((if0 _ _).trans (feq ((by decide) : ¬ ((1 : Int32) = (0 : Int32)))).1) ?_
              refine XS.lconst X3076.here hx rfl (hb hby at_171) ?_
              refine XS.goto X3076.here hx rfl (pc0 := 172) (pc' := 176) rfl (hb hby at_172) (by decide) (by decide) ?_
              refine XS.lstore X3076.here hx rfl (hb hby at_176) rfl (l' := #[.val (.long raw), .second, .val (.long nw), .second, .val (.long lt), .second, .val (.long pc_), .second, .val (.int fl), .val (.long x2), .second, .val (.int (1 : Int32)), .val (.int (1 : Int32)), .val (.int (1 : Int32)), .val (.ref b2475), .val (.long lt), .second, .val (.long ((0 : Int64) + (1 : Int64))), .second, .val (.long (((0 : Int64) + (1 : Int64)) + pc_)), .second, .val (.long ((0 : Int64) + pc_)), .second, .val (.long (1 : Int64)), .second, .val (.long (1 : Int64)), .second, .unset, .unset, .unset]) rfl ?_
              show Steps p.tables e below (T3076.setTop (mkF m 178 #[.val (.long raw), .second, .val (.long nw), .second, .val (.long lt), .second, .val (.long pc_), .second, .val (.int fl), .val (.long x2), .second, .val (.int (1 : Int32)), .val (.int (1 : Int32)), .val (.int (1 : Int32)), .val (.ref b2475), .val (.long lt), .second, .val (.long ((0 : Int64) + (1 : Int64))), .second, .val (.long (((0 : Int64) + (1 : Int64)) + pc_)), .second, .val (.long ((0 : Int64) + pc_)), .second, .val (.long (1 : Int64)), .second, .val (.long (1 : Int64)), .second, .unset, .unset, .unset] [])) _
              refine XS.iload X3076.here hx rfl (hb hby at_178) rfl ?_
              refine XS.ifNo X3076.here hx rfl (hb hby at_180) rfl ((if0 _ _).trans (feq ((by decide) : ¬ ((1 : Int32) = (0 : Int32)))).1) ?_
              refine XS.lload X3076.here hx rfl (hb hby at_183) rfl ?_
              refine XS.lconst X3076.here hx rfl (hb hby at_185) ?_
              refine XS.lcmp X3076.here hx rfl (hb hby at_186) rfl ?_
              refine XS.ifYes X3076.here hx rfl (pc0 := 187) (pc' := 200) rfl (hb hby at_187) rfl ((if0 _ _).trans (teq ((lw_eq ((0 : Int64) + (1 : Int64)) (1 : Int64)).mpr ((by decide) : ((0 : Int64) + (1 : Int64)) = (1 : Int64)) : (lcmpW ((0 : Int64) + (1 : Int64)) (1 : Int64)) = (0 : Int32))).1) (by decide) (by decide) ?_
              show Steps p.tables e below (T3076.setTop (mkF m 200 #[.val (.long raw), .second, .val (.long nw), .second, .val (.long lt), .second, .val (.long pc_), .second, .val (.int fl), .val (.long x2), .second, .val (.int (1 : Int32)), .val (.int (1 : Int32)), .val (.int (1 : Int32)), .val (.ref b2475), .val (.long lt), .second, .val (.long ((0 : Int64) + (1 : Int64))), .second, .val (.long (((0 : Int64) + (1 : Int64)) + pc_)), .second, .val (.long ((0 : Int64) + pc_)), .second, .val (.long (1 : Int64)), .second, .val (.long (1 : Int64)), .second, .unset, .unset, .unset] [])) _
              refine XS.iconst X3076.here hx rfl (hb hby at_200) ?_
              refine XS.goto X3076.here hx rfl (pc0 := 201) (pc' := 221) rfl (hb hby at_201) (by decide) (by decide) ?_
              refine XS.istore X3076.here hx rfl (hb hby at_221) rfl (l' := #[.val (.long raw), .second, .val (.long nw), .second, .val (.long lt), .second, .val (.long pc_), .second, .val (.int fl), .val (.long x2), .second, .val (.int (1 : Int32)), .val (.int (1 : Int32)), .val (.int (1 : Int32)), .val (.ref b2475), .val (.long lt), .second, .val (.long ((0 : Int64) + (1 : Int64))), .second, .val (.long (((0 : Int64) + (1 : Int64)) + pc_)), .second, .val (.long ((0 : Int64) + pc_)), .second, .val (.long (1 : Int64)), .second, .val (.long (1 : Int64)), .second, .val (.int (1 : Int32)), .unset, .unset]) rfl ?_
              refine XS.iload X3076.here hx rfl (hb hby at_223) rfl ?_
              refine XS.ifNo X3076.here hx rfl (hb hby at_225) rfl ((if0 _ _).trans (feq ((by decide) : ¬ ((1 : Int32) = (0 : Int32)))).1) ?_
              refine XS.lconst X3076.here hx rfl (hb hby at_228) ?_
              show Steps p.tables e below (T3076.setTop (mkF m 229 #[.val (.long raw), .second, .val (.long nw), .second, .val (.long lt), .second, .val (.long pc_), .second, .val (.int fl), .val (.long x2), .second, .val (.int (1 : Int32)), .val (.int (1 : Int32)), .val (.int (1 : Int32)), .val (.ref b2475), .val (.long lt), .second, .val (.long ((0 : Int64) + (1 : Int64))), .second, .val (.long (((0 : Int64) + (1 : Int64)) + pc_)), .second, .val (.long ((0 : Int64) + pc_)), .second, .val (.long (1 : Int64)), .second, .val (.long (1 : Int64)), .second, .val (.int (1 : Int32)), .unset, .unset] [(.long (0 : Int64))])) _
              refine XS.goto X3076.here hx rfl (pc0 := 229) (pc' := 237) rfl (hb hby at_229) (by decide) (by decide) ?_
              refine XS.lload X3076.here hx rfl (hb hby at_237) rfl ?_
              refine XS.ladd X3076.here hx rfl (hb hby at_239) rfl ?_
              refine XS.lstore X3076.here hx rfl (hb hby at_240) rfl (l' := #[.val (.long raw), .second, .val (.long nw), .second, .val (.long lt), .second, .val (.long pc_), .second, .val (.int fl), .val (.long x2), .second, .val (.int (1 : Int32)), .val (.int (1 : Int32)), .val (.int (1 : Int32)), .val (.ref b2475), .val (.long lt), .second, .val (.long ((0 : Int64) + (1 : Int64))), .second, .val (.long (((0 : Int64) + (1 : Int64)) + pc_)), .second, .val (.long ((0 : Int64) + pc_)), .second, .val (.long (1 : Int64)), .second, .val (.long (1 : Int64)), .second, .val (.int (1 : Int32)), .val (.long ((0 : Int64) + pc_)), .second]) rfl ?_
              refine XS.iload X3076.here hx rfl (hb hby at_242) rfl ?_
              refine XS.ifNo X3076.here hx rfl (hb hby at_244) rfl ((if0 _ _).trans (feq ((by decide) : ¬ ((1 : Int32) = (0 : Int32)))).1) ?_
              show Steps p.tables e below (T3076.setTop (mkF m 247 #[.val (.long raw), .second, .val (.long nw), .second, .val (.long lt), .second, .val (.long pc_), .second, .val (.int fl), .val (.long x2), .second, .val (.int (1 : Int32)), .val (.int (1 : Int32)), .val (.int (1 : Int32)), .val (.ref b2475), .val (.long lt), .second, .val (.long ((0 : Int64) + (1 : Int64))), .second, .val (.long (((0 : Int64) + (1 : Int64)) + pc_)), .second, .val (.long ((0 : Int64) + pc_)), .second, .val (.long (1 : Int64)), .second, .val (.long (1 : Int64)), .second, .val (.int (1 : Int32)), .val (.long ((0 : Int64) + pc_)), .second] [])) _
              refine XS.lload X3076.here hx rfl (hb hby at_247) rfl ?_
              refine XS.lload X3076.here hx rfl (hb hby at_249) rfl ?_
              refine XS.lload X3076.here hx rfl (hb hby at_251) rfl ?_
              refine XS.ladd X3076.here hx rfl (hb hby at_253) rfl ?_
              refine XS.lcmp X3076.here hx rfl (hb hby at_254) rfl ?_
              refine XS.ifNo X3076.here hx rfl (hb hby at_255) rfl ((if0 _ _).trans (teq ((lw_eq (((0 : Int64) + (1 : Int64)) + pc_) (((0 : Int64) + (1 : Int64)) + pc_)).mpr (rfl : (((0 : Int64) + (1 : Int64)) + pc_) = (((0 : Int64) + (1 : Int64)) + pc_)) : (lcmpW (((0 : Int64) + (1 : Int64)) + pc_) (((0 : Int64) + (1 : Int64)) + pc_)) = (0 : Int32))).2) ?_
              show Steps p.tables e below (T3076.setTop (mkF m 258 #[.val (.long raw), .second, .val (.long nw), .second, .val (.long lt), .second, .val (.long pc_), .second, .val (.int fl), .val (.long x2), .second, .val (.int (1 : Int32)), .val (.int (1 : Int32)), .val (.int (1 : Int32)), .val (.ref b2475), .val (.long lt), .second, .val (.long ((0 : Int64) + (1 : Int64))), .second, .val (.long (((0 : Int64) + (1 : Int64)) + pc_)), .second, .val (.long ((0 : Int64) + pc_)), .second, .val (.long (1 : Int64)), .second, .val (.long (1 : Int64)), .second, .val (.int (1 : Int32)), .val (.long ((0 : Int64) + pc_)), .second] [])) _
              refine XS.lload X3076.here hx rfl (hb hby at_258) rfl ?_
              refine XS.lload X3076.here hx rfl (hb hby at_260) rfl ?_
              refine XS.lcmp X3076.here hx rfl (hb hby at_262) rfl ?_
              refine XS.ifNo X3076.here hx rfl (hb hby at_263) rfl ((if0 _ _).trans (teq ((lw_eq ((0 : Int64) + pc_) ((0 : Int64) + pc_)).mpr (rfl : ((0 : Int64) + pc_) = ((0 : Int64) + pc_)) : (lcmpW ((0 : Int64) + pc_) ((0 : Int64) + pc_)) = (0 : Int32))).2) ?_
              refine XS.iconst X3076.here hx rfl (hb hby at_266) ?_
              refine XS.goto X3076.here hx rfl (pc0 := 267) (pc' := 271) rfl (hb hby at_267) (by decide) (by decide) ?_
              exact kt
            obtain ⟨fs, hr, hrun, hended, hW, hsame⟩ := X3076.leave (v := some (.int (1 : Int32))) (fun h => by rw [Bd.returns] at h; cases h)
            refine ⟨_, _, pre0 _ (S3080 _ ?_), hrun, hended, _, _, rfl, ?_, ⟨_, rfl⟩, hW, hsame.mono (by decide) (by decide)⟩
            · exact retN X3076 hx (t := .boolean) Bd.returns (by simp) (hb hby at_271) hr
            · show Q_rm_law Z raw nw lt pc_ fl wV kV vV h0 n0 _ T3076.heap _
              rw [k3078]
              exact ⟨rfl, N3079⟩
        · exact absurd (rfl : (own_fd nw x2) = (own_fd nw x2)) c2567
theorem own_arv {args : Array Value} {s : State} {t : Term} {a : Addr} {ty : FieldType} {z : Int32} (hf : Fit s) (ev : t.eval args s none [] s = some (.ref a)) (hA : (Jvm.Cond.arrayOf t ty).value args s none s [] = some true)
    (hL : (Jvm.Cond.eq (.length t) (.int z)).value args s none s [] = some true) (hz : ¬ z < 0) (dv : Value) : ∃ (k : ClassId) (vs : List Value), Arv s s.heap a k ty z vs dv := by
  obtain ⟨c, A⟩ := Arr.start ev hA
  have ha : s.arrayAt? a = some c := A.fin (Vm.Alike.refl _)
  obtain ⟨u, v, e1, e2, -, -⟩ := cmp_v (Or.inl hL)
  obtain ⟨a', c', q1, q2, q3⟩ := Term.length_spec e1
  cases ev.symm.trans q1
  cases ha.symm.trans q2
  have h31 : c.slots.size < 2 ^ 31 := by
    apply Classical.byContradiction
    intro hn
    simp [Term.eval, ev, ha, hn] at e1
  cases (show some (Value.int z) = some v from e2)
  subst q3
  have hzz : c.slots.size.toInt32 = z := by
    simp only [Jvm.Cond.value, e1, e2] at hL
    simpa using hL
  have hn : ∀ i : Nat, i < 2 ^ 31 → i.toInt32.toNatClampNeg = i := fun i hi => by
    show i.toInt32.toInt.toNat = i
    rw [len_toInt hi]; rfl
  have hsz : c.slots.size = z.toNatClampNeg := by rw [← hzz, hn _ h31]
  refine ⟨c.cls, c.slots.toList, c, A, rfl, hsz, hz, fun k hk => by simp [List.getD, hk], fun i hi => ?_⟩
  obtain ⟨v, g1, g2⟩ := elem_fit (j := i.toInt32) hf A (idx_in hi h31)
  rw [hn i (Nat.lt_trans hi h31)] at g1
  have : c.slots.toList.getD i dv = v := by simp [List.getD, g1]
  rw [this]; exact g2
set_option maxRecDepth 65536 in
set_option maxHeartbeats 40000000 in
theorem comes_1 {Post : Tables → Env → Array Value → State → Outcome → State → Prop} (hpost : ∀ tb e args s v u, (limb_1_1.after args s (.returned v) u = true ∧ limb_1_2.after args s (.returned v) u = true ∧ True) → FrameEnd s (.returned v) u (Jvm.fieldLocs frame_1_writes args s ++ Jvm.arrayLocs frame_1_arrays args s ++ Jvm.staticLocs frame_1_statics s) 48 384 → Post tb e args s (.returned v) u) :
    ArmFor flags0 classFile x code maxLocals ret World_1 tables_1 room_1 Calls_1 rest_1 Pre_1 Post := by
  intro l hfl _ _ p e ha hc hk s m args below hf hA hF happ hP
  obtain ⟨hcalls, hrest, hpre⟩ := hP
  obtain ⟨-, -, -, hnamed, -, -, -, hat⟩ := (Spec.applies_iff hf).mp happ
  obtain ⟨hg, hn⟩ := and_e (Cond.before_iff.mp (show (Jvm.Cond.and given_1 narrow_1).before args s = true from hpre))
  obtain ⟨g0, r0⟩ := and_e hg
  obtain ⟨g1, r1⟩ := and_e r0
  obtain ⟨g2, r2⟩ := and_e r1
  obtain ⟨g3, r3⟩ := and_e r2
  obtain ⟨g4, r4⟩ := and_e r3
  obtain ⟨w0, w1, w2, w3, w4, rfl⟩ : ∃ w0 w1 w2 w3 w4 : Value, args = #[w0, w1, w2, w3, w4] := by
    have hs : args.size = 5 := by simpa [Cond.value, given_1] using g0
    obtain ⟨L⟩ := args
    match L, hs with
    | [w0, w1, w2, w3, w4], _ => exact ⟨w0, w1, w2, w3, w4, rfl⟩
  have hw := fun d (hd : d ∈ tables_1) => atoms_spec (ws := Jvm.Cond.code x code maxLocals ret :: tables_1) hat d (List.mem_cons_of_mem _ hd)
  have hfit : Fit s := fun {y c} hc i hi => by
    obtain ⟨ha, rfl⟩ := Array.getElem?_eq_some_iff.mp hc
    have q := List.all_eq_true.mp ((Array.all_eq_true_iff_forall_mem.mp hF) _ (Array.getElem_mem ha)) i (List.mem_range.mpr hi)
    simpa [Array.getElem?_eq_getElem hi] using q
  obtain ⟨i0, e0⟩ := isL_v g1
  obtain rfl : w0 = (.long i0) := Option.some.inj e0
  obtain ⟨i1, e1⟩ := isL_v g2
  obtain rfl : w1 = (.long i1) := Option.some.inj e1
  obtain ⟨i2, e2⟩ := isL_v g3
  obtain rfl : w2 = (.long i2) := Option.some.inj e2
  obtain ⟨i3, e3⟩ := isL_v g4
  obtain rfl : w3 = (.long i3) := Option.some.inj e3
  obtain ⟨i4, e4⟩ := is_v r4
  obtain rfl : w4 = (.int i4) := Option.some.inj e4
  obtain ⟨n0, m0⟩ := and_e hn
  obtain ⟨n1, m1⟩ := and_e m0
  obtain ⟨n2, m2⟩ := and_e m1
  obtain ⟨n3, m3⟩ := and_e m2
  obtain ⟨n4, m4⟩ := and_e m3
  obtain ⟨n5, m5⟩ := and_e m4
  obtain ⟨n6, m6⟩ := and_e m5
  obtain ⟨n7, m7⟩ := and_e m6
  obtain ⟨n8, m8⟩ := and_e m7
  obtain ⟨n9, m9⟩ := and_e m8
  obtain ⟨n10, m10⟩ := and_e m9
  obtain ⟨n11, m11⟩ := and_e m10
  obtain ⟨n12, m12⟩ := and_e m11
  obtain ⟨n13, m13⟩ := and_e m12
  obtain ⟨n14, m14⟩ := and_e m13
  obtain ⟨n15, m15⟩ := and_e m14
  obtain ⟨w_RefusalReason__VALUES, ev_w_RefusalReason__VALUES⟩ := exa_v n1
  have E_w_RefusalReason__VALUES : Exa s s.heap w_RefusalReason__VALUES "[Lcom/example/sluice/sluice/RefusalReason;" := Exa.start ev_w_RefusalReason__VALUES n1
  have S_w_RefusalReason__VALUES : Sta s s.heap "com/example/sluice/sluice/RefusalReason" "$VALUES" "[Lcom/example/sluice/sluice/RefusalReason;" (.ref w_RefusalReason__VALUES) := Sta.start ev_w_RefusalReason__VALUES (Or.inr ⟨(own_w hw 36 rfl), (own_w hw 39 rfl)⟩)
  obtain ⟨w_RefusalReason_QUEUE_FULL, ev_w_RefusalReason_QUEUE_FULL⟩ := exa_v n3
  have E_w_RefusalReason_QUEUE_FULL : Exa s s.heap w_RefusalReason_QUEUE_FULL "com/example/sluice/sluice/RefusalReason" := Exa.start ev_w_RefusalReason_QUEUE_FULL n3
  have S_w_RefusalReason_QUEUE_FULL : Sta s s.heap "com/example/sluice/sluice/RefusalReason" "QUEUE_FULL" "Lcom/example/sluice/sluice/RefusalReason;" (.ref w_RefusalReason_QUEUE_FULL) := Sta.start ev_w_RefusalReason_QUEUE_FULL (Or.inr ⟨(own_w hw 36 rfl), (own_w hw 47 rfl)⟩)
  obtain ⟨w_RefusalReason_EVICTED, ev_w_RefusalReason_EVICTED⟩ := exa_v n5
  have E_w_RefusalReason_EVICTED : Exa s s.heap w_RefusalReason_EVICTED "com/example/sluice/sluice/RefusalReason" := Exa.start ev_w_RefusalReason_EVICTED n5
  have S_w_RefusalReason_EVICTED : Sta s s.heap "com/example/sluice/sluice/RefusalReason" "EVICTED" "Lcom/example/sluice/sluice/RefusalReason;" (.ref w_RefusalReason_EVICTED) := Sta.start ev_w_RefusalReason_EVICTED (Or.inr ⟨(own_w hw 36 rfl), (own_w hw 48 rfl)⟩)
  obtain ⟨w_RefusalReason_EXPIRED, ev_w_RefusalReason_EXPIRED⟩ := exa_v n7
  have E_w_RefusalReason_EXPIRED : Exa s s.heap w_RefusalReason_EXPIRED "com/example/sluice/sluice/RefusalReason" := Exa.start ev_w_RefusalReason_EXPIRED n7
  have S_w_RefusalReason_EXPIRED : Sta s s.heap "com/example/sluice/sluice/RefusalReason" "EXPIRED" "Lcom/example/sluice/sluice/RefusalReason;" (.ref w_RefusalReason_EXPIRED) := Sta.start ev_w_RefusalReason_EXPIRED (Or.inr ⟨(own_w hw 36 rfl), (own_w hw 49 rfl)⟩)
  obtain ⟨w_RefusalReason_DISCARDED, ev_w_RefusalReason_DISCARDED⟩ := exa_v n9
  have E_w_RefusalReason_DISCARDED : Exa s s.heap w_RefusalReason_DISCARDED "com/example/sluice/sluice/RefusalReason" := Exa.start ev_w_RefusalReason_DISCARDED n9
  have S_w_RefusalReason_DISCARDED : Sta s s.heap "com/example/sluice/sluice/RefusalReason" "DISCARDED" "Lcom/example/sluice/sluice/RefusalReason;" (.ref w_RefusalReason_DISCARDED) := Sta.start ev_w_RefusalReason_DISCARDED (Or.inr ⟨(own_w hw 36 rfl), (own_w hw 50 rfl)⟩)
  obtain ⟨w_RefusalReason_CLOSED, ev_w_RefusalReason_CLOSED⟩ := exa_v n11
  have E_w_RefusalReason_CLOSED : Exa s s.heap w_RefusalReason_CLOSED "com/example/sluice/sluice/RefusalReason" := Exa.start ev_w_RefusalReason_CLOSED n11
  have S_w_RefusalReason_CLOSED : Sta s s.heap "com/example/sluice/sluice/RefusalReason" "CLOSED" "Lcom/example/sluice/sluice/RefusalReason;" (.ref w_RefusalReason_CLOSED) := Sta.start ev_w_RefusalReason_CLOSED (Or.inr ⟨(own_w hw 36 rfl), (own_w hw 51 rfl)⟩)
  obtain ⟨w_RefusalReason_DUPLICATE, ev_w_RefusalReason_DUPLICATE⟩ := exa_v n13
  have E_w_RefusalReason_DUPLICATE : Exa s s.heap w_RefusalReason_DUPLICATE "com/example/sluice/sluice/RefusalReason" := Exa.start ev_w_RefusalReason_DUPLICATE n13
  have S_w_RefusalReason_DUPLICATE : Sta s s.heap "com/example/sluice/sluice/RefusalReason" "DUPLICATE" "Lcom/example/sluice/sluice/RefusalReason;" (.ref w_RefusalReason_DUPLICATE) := Sta.start ev_w_RefusalReason_DUPLICATE (Or.inr ⟨(own_w hw 36 rfl), (own_w hw 52 rfl)⟩)
  obtain ⟨w_RefusalReason_STALE, ev_w_RefusalReason_STALE⟩ := exa_v n15
  have E_w_RefusalReason_STALE : Exa s s.heap w_RefusalReason_STALE "com/example/sluice/sluice/RefusalReason" := Exa.start ev_w_RefusalReason_STALE n15
  have S_w_RefusalReason_STALE : Sta s s.heap "com/example/sluice/sluice/RefusalReason" "STALE" "Lcom/example/sluice/sluice/RefusalReason;" (.ref w_RefusalReason_STALE) := Sta.start ev_w_RefusalReason_STALE (Or.inr ⟨(own_w hw 36 rfl), (own_w hw 53 rfl)⟩)
  obtain ⟨kV, vV, A_V⟩ := own_arv hfit ev_w_RefusalReason__VALUES n0 n2 (by decide) .null
  obtain ⟨n, o, h1, h2, h3, _, L, rfl, ⟨rfl, N⟩, hq⟩ := rm_law l s _ hw tables_1 i0 i1 i2 i3 i4 w_RefusalReason__VALUES kV vV s.heap s.heap.size (Old.start s) S_w_RefusalReason__VALUES E_w_RefusalReason__VALUES A_V p e ha hc hk s m _ below hf ((Spec.applies_iff_loose hf).mp happ).1 ⟨rfl, State.Warmed39.refl s, rfl⟩ trivial
  refine ⟨n, _, h1, h2, h3, hpost _ _ _ _ _ _ ⟨Cond.after_iff.mpr rfl, Cond.after_iff.mpr (eq_i res_at (Term.int_eval (1)) rfl), trivial⟩ ⟨hq.1, hq.2.1, (hq.2.2.sift fun y hy => Or.inr (N y hy)).mono (by decide) (by decide)⟩⟩
theorem main_1_1 : Claimed_1_1 := comes_1 fun _ _ _ _ _ _ h hF => ⟨h.1, hF⟩
theorem main_1_2 : Claimed_1_2 := comes_1 fun _ _ _ _ _ _ h hF => ⟨h.2.1, hF⟩
end Jvm.Pilot.@@N@@
namespace Jvm.Pilot.@@N@@
open Jvm Jvm.ClassFile Sem Op Lib Jvm.Free Jvm.Stand Jvm.Pilot.@@N@@.Jvm.D
/-! MADE BY PROGRAM (witnessworld.py) out of the Statement's table words and the real class files: 19 classes; the members and pool entries that the words name. The judged class is class 1, her method 1. -/
namespace start1
open Jvm.ClassFile
def u (s : String) : CpInfo := .utf8 (stringToUtf16 s)
/-- a pool by its gaps: so many unusable entries, then the entry; so many at the end -/
def gap : Nat → List CpInfo → List CpInfo
  | 0, r => r
  | n + 1, r => .unusable :: gap n r
def poolList (es : List (Nat × CpInfo)) (last : Nat) : List CpInfo := es.foldr (fun e r => gap e.1 (e.2 :: r)) (gap last [])
def pool (es : List (Nat × CpInfo)) (last : Nat) : Array CpInfo := ⟨poolList es last⟩
def fileOf (pool : Array CpInfo) (this : Nat) (attrs : Array Attribute := #[]) (ms : Array MethodInfo := #[]) (fl : Nat := 33) (sup : Nat := 0) (ifs : Array Nat := #[]) (fds : Array FieldInfo := #[]) : ClassFile where
  minorVersion := 0
  majorVersion := 65
  constantPool := pool
  accessFlags := fl
  thisClass := this
  superClass := sup
  interfaces := ifs
  fields := fds
  methods := ms
  attributes := attrs
def plain (name : String) (sup : Option ClassId) : Class where
  name := name
  kind := .ordinary
  loader := none
  accessFlags := 33
  super := sup
  interfaces := #[]
  cf := none
  fields := #[]
  methods := #[]
  instanceTypes := #[]
  staticTypes := #[]
  resolved := #[]
  callSites := []
  init := .initialized
  statics := none
  mirror := none

def pool0 : Array CpInfo := pool [(5, u "<init>"), (0, u "()V"), (1, .class_ 10), (1, u "java/lang/Object"), (85, u "clone"), (0, u "()Ljava/lang/Object;")] 26

def k0c0 : Code := { maxStack := 0, maxLocals := 1, code := object_method_1_code, exceptionTable := #[], attributes := #[] }
def k0m0 : Method := { name := "<init>", desc := "()V", sig := { parameters := [], returnType := none }, accessFlags := 1, code := some k0c0 }
def k0m1 : Method := { name := "clone", desc := "()Ljava/lang/Object;", sig := { parameters := [], returnType := some (.object "java/lang/Object") }, accessFlags := 260, code := none }
/-- java/lang/Object -/
def k0 : Class := { plain "java/lang/Object" none with
  accessFlags := 33
  interfaces := #[]
  cf := some (fileOf pool0 8 #[] #[{ accessFlags := 1, nameIndex := 5, descriptorIndex := 6, attributes := #[] }, { accessFlags := 260, nameIndex := 96, descriptorIndex := 97, attributes := #[] }] 33 0 #[] #[])
  fields := #[]
  methods := #[k0m0, k0m1]
  instanceTypes := #[]
  staticTypes := #[]
  resolved := Array.replicate 124 none
  statics := none }

def pool1 : Array CpInfo := pool [(2, .class_ 4), (1, u "java/lang/Object"), (0, u "<init>"), (0, u "()V"), (2, .long 9223372036854775807), (1, .methodref 12 13), (0, .class_ 14), (0, .nameAndType 15 16), (0, u "java/lang/Math"), (0, u "max"), (0, u "(JJ)J"), (0, .class_ 18), (0, u "com/example/sluice/sluice/WaitRecorder"), (0, .methodref 17 20), (0, .nameAndType 5 21), (0, u "(JJ)V"), (0, .methodref 17 23), (0, .nameAndType 24 25), (0, u "startedAtOnce"), (0, u "(J)V"), (0, .methodref 17 27), (0, .nameAndType 28 25), (0, u "reset"), (0, .methodref 17 30), (0, .nameAndType 31 32), (0, u "intervalSnapshot"), (0, u "(J)Lcom/example/sluice/sluice/WaitStatistics;"), (0, .methodref 34 35), (0, .class_ 36), (0, .nameAndType 24 37), (0, u "com/example/sluice/sluice/WaitStatistics"), (0, u "()J"), (0, .methodref 17 39), (0, .nameAndType 40 25), (0, u "startedAtOnceEarlier"), (0, .methodref 17 42), (0, .nameAndType 43 44), (0, u "sinceResetSnapshot"), (0, u "()Lcom/example/sluice/sluice/WaitStatistics;"), (0, .class_ 46), (0, u "com/example/sluice/sluice/WaitRecorderStartedAtOnceEarlierPinLaw"), (2, u "law"), (0, u "(JJJJI)Z")] 3

def k1m0 : Method := { name := "<init>", desc := "()V", sig := { parameters := [], returnType := none }, accessFlags := 1, code := none }
def k1c1 : Code := { maxStack := 6, maxLocals := 30, code := code, exceptionTable := #[], attributes := #[] }
def k1m1 : Method := { name := "law", desc := "(JJJJI)Z", sig := { parameters := [.long, .long, .long, .long, .int], returnType := some .boolean }, accessFlags := 9, code := some k1c1 }
/-- com/example/sluice/sluice/WaitRecorderStartedAtOnceEarlierPinLaw -/
def k1 : Class := { plain "com/example/sluice/sluice/WaitRecorderStartedAtOnceEarlierPinLaw" (some 0) with
  accessFlags := 49
  interfaces := #[]
  cf := some (fileOf pool1 45 #[] #[{ accessFlags := 1, nameIndex := 5, descriptorIndex := 6, attributes := #[] }, { accessFlags := 9, nameIndex := 49, descriptorIndex := 50, attributes := #[] }] 49 2 #[] #[])
  fields := #[]
  methods := #[k1m0, k1m1]
  instanceTypes := #[]
  staticTypes := #[]
  resolved := Array.replicate 54 none
  statics := none }

def pool2 : Array CpInfo := pool [(1, .class_ 2), (0, u "java/lang/Math"), (1, .class_ 6), (1, u "java/lang/Object"), (0, u "<init>"), (0, u "()V"), (89, .class_ 100), (1, u "java/lang/Math$RandomNumberGeneratorHolder"), (20, u "(JJ)J"), (23, u "floorDiv"), (26, u "negativeZeroFloatBits"), (0, u "J"), (2, u "negativeZeroDoubleBits"), (21, u "max"), (46, u "$assertionsDisabled"), (0, u "Z"), (91, u "twoToTheDoubleScaleDown"), (0, u "D"), (4, u "twoToTheDoubleScaleUp"), (9, u "E"), (3, u "PI"), (2, u "TAU"), (2, u "DEGREES_TO_RADIANS"), (0, u "RADIANS_TO_DEGREES")] 94

def k2m0 : Method := { name := "<init>", desc := "()V", sig := { parameters := [], returnType := none }, accessFlags := 2, code := none }
def k2c1 : Code := { maxStack := 4, maxLocals := 6, code := jdk_29_method_49_code, exceptionTable := #[], attributes := #[] }
def k2m1 : Method := { name := "floorDiv", desc := "(JJ)J", sig := { parameters := [.long, .long], returnType := some .long }, accessFlags := 9, code := some k2c1 }
def k2c2 : Code := { maxStack := 4, maxLocals := 4, code := jdk_29_method_66_code, exceptionTable := #[], attributes := #[] }
def k2m2 : Method := { name := "max", desc := "(JJ)J", sig := { parameters := [.long, .long], returnType := some .long }, accessFlags := 9, code := some k2c2 }
/-- java/lang/Math -/
def k2 : Class := { plain "java/lang/Math" (some 0) with
  accessFlags := 49
  interfaces := #[]
  cf := some (fileOf pool2 1 #[.nestMembers #[98]] #[{ accessFlags := 2, nameIndex := 7, descriptorIndex := 8, attributes := #[] }, { accessFlags := 9, nameIndex := 145, descriptorIndex := 121, attributes := #[] }, { accessFlags := 9, nameIndex := 198, descriptorIndex := 121, attributes := #[] }] 49 4 #[] #[{ accessFlags := 25, nameIndex := 354, descriptorIndex := 339, attributes := #[] }, { accessFlags := 25, nameIndex := 358, descriptorIndex := 339, attributes := #[] }, { accessFlags := 25, nameIndex := 361, descriptorIndex := 339, attributes := #[] }, { accessFlags := 26, nameIndex := 364, descriptorIndex := 339, attributes := #[] }, { accessFlags := 26, nameIndex := 365, descriptorIndex := 339, attributes := #[] }, { accessFlags := 26, nameIndex := 172, descriptorIndex := 173, attributes := #[] }, { accessFlags := 26, nameIndex := 176, descriptorIndex := 173, attributes := #[] }, { accessFlags := 8, nameIndex := 344, descriptorIndex := 339, attributes := #[] }, { accessFlags := 8, nameIndex := 338, descriptorIndex := 339, attributes := #[] }, { accessFlags := 4120, nameIndex := 245, descriptorIndex := 246, attributes := #[] }])
  fields := #[{ name := "E", type := .double, accessFlags := 25, slot := 0, constantValue := 0 }, { name := "PI", type := .double, accessFlags := 25, slot := 1, constantValue := 0 }, { name := "TAU", type := .double, accessFlags := 25, slot := 2, constantValue := 0 }, { name := "DEGREES_TO_RADIANS", type := .double, accessFlags := 26, slot := 3, constantValue := 0 }, { name := "RADIANS_TO_DEGREES", type := .double, accessFlags := 26, slot := 4, constantValue := 0 }, { name := "negativeZeroFloatBits", type := .long, accessFlags := 26, slot := 5, constantValue := 0 }, { name := "negativeZeroDoubleBits", type := .long, accessFlags := 26, slot := 6, constantValue := 0 }, { name := "twoToTheDoubleScaleUp", type := .double, accessFlags := 8, slot := 7, constantValue := 0 }, { name := "twoToTheDoubleScaleDown", type := .double, accessFlags := 8, slot := 8, constantValue := 0 }, { name := "$assertionsDisabled", type := .boolean, accessFlags := 4120, slot := 9, constantValue := 0 }]
  methods := #[k2m0, k2m1, k2m2]
  instanceTypes := #[]
  staticTypes := #[.double, .double, .double, .double, .double, .long, .long, .double, .double, .boolean]
  resolved := Array.replicate 460 none
  statics := none }

def pool3 : Array CpInfo := pool [(1, .methodref 2 3), (0, .class_ 4), (0, .nameAndType 5 6), (0, u "java/lang/Object"), (0, u "<init>"), (0, u "()V"), (0, .fieldref 8 9), (0, .class_ 10), (0, .nameAndType 11 12), (0, u "com/example/sluice/sluice/WaitRecorder"), (0, u "intervalMillis"), (0, u "J"), (0, .methodref 14 15), (0, .class_ 16), (0, .nameAndType 17 18), (0, u "java/lang/Math"), (0, u "floorDiv"), (0, u "(JJ)J"), (0, .fieldref 8 20), (0, .nameAndType 21 12), (0, u "intervalIndex"), (0, .class_ 23), (0, u "com/example/sluice/sluice/WaitRecorder$Tally"), (0, .methodref 22 25), (0, .nameAndType 5 26), (0, u "(J)V"), (0, .fieldref 8 28), (0, .nameAndType 29 30), (0, u "interval"), (0, u "Lcom/example/sluice/sluice/WaitRecorder$Tally;"), (0, .fieldref 8 32), (0, .nameAndType 33 30), (0, u "sinceReset"), (3, .methodref 8 38), (0, .nameAndType 39 40), (0, u "currentInterval"), (0, u "(J)Lcom/example/sluice/sluice/WaitRecorder$Tally;"), (3, .fieldref 22 45), (0, .nameAndType 46 12), (0, u "startedAtOnce"), (10, .methodref 22 58), (0, .nameAndType 59 60), (0, u "snapshot"), (0, u "()Lcom/example/sluice/sluice/WaitStatistics;"), (7, u "(JJ)V"), (3, u "startedAtOnceEarlier"), (1, u "intervalSnapshot"), (0, u "(J)Lcom/example/sluice/sluice/WaitStatistics;"), (0, u "sinceResetSnapshot"), (0, u "reset")] 8

def k3c0 : Code := { maxStack := 7, maxLocals := 5, code := prog_38_method_1_code, exceptionTable := #[], attributes := #[] }
def k3m0 : Method := { name := "<init>", desc := "(JJ)V", sig := { parameters := [.long, .long], returnType := none }, accessFlags := 0, code := some k3c0 }
def k3c1 : Code := { maxStack := 5, maxLocals := 3, code := prog_38_method_3_code, exceptionTable := #[], attributes := #[] }
def k3m1 : Method := { name := "startedAtOnce", desc := "(J)V", sig := { parameters := [.long], returnType := none }, accessFlags := 0, code := some k3c1 }
def k3c2 : Code := { maxStack := 5, maxLocals := 3, code := prog_38_method_4_code, exceptionTable := #[], attributes := #[] }
def k3m2 : Method := { name := "startedAtOnceEarlier", desc := "(J)V", sig := { parameters := [.long], returnType := none }, accessFlags := 0, code := some k3c2 }
def k3c3 : Code := { maxStack := 3, maxLocals := 3, code := prog_38_method_6_code, exceptionTable := #[], attributes := #[] }
def k3m3 : Method := { name := "intervalSnapshot", desc := "(J)Lcom/example/sluice/sluice/WaitStatistics;", sig := { parameters := [.long], returnType := some (.object "com/example/sluice/sluice/WaitStatistics") }, accessFlags := 0, code := some k3c3 }
def k3c4 : Code := { maxStack := 1, maxLocals := 1, code := prog_38_method_7_code, exceptionTable := #[], attributes := #[] }
def k3m4 : Method := { name := "sinceResetSnapshot", desc := "()Lcom/example/sluice/sluice/WaitStatistics;", sig := { parameters := [], returnType := some (.object "com/example/sluice/sluice/WaitStatistics") }, accessFlags := 0, code := some k3c4 }
def k3c5 : Code := { maxStack := 5, maxLocals := 3, code := prog_38_method_8_code, exceptionTable := #[], attributes := #[] }
def k3m5 : Method := { name := "reset", desc := "(J)V", sig := { parameters := [.long], returnType := none }, accessFlags := 0, code := some k3c5 }
def k3c6 : Code := { maxStack := 7, maxLocals := 5, code := prog_38_method_10_code, exceptionTable := #[], attributes := #[] }
def k3m6 : Method := { name := "currentInterval", desc := "(J)Lcom/example/sluice/sluice/WaitRecorder$Tally;", sig := { parameters := [.long], returnType := some (.object "com/example/sluice/sluice/WaitRecorder$Tally") }, accessFlags := 2, code := some k3c6 }
/-- com/example/sluice/sluice/WaitRecorder -/
def k3 : Class := { plain "com/example/sluice/sluice/WaitRecorder" (some 0) with
  accessFlags := 48
  interfaces := #[]
  cf := some (fileOf pool3 8 #[.nestMembers #[22]] #[{ accessFlags := 0, nameIndex := 5, descriptorIndex := 68, attributes := #[] }, { accessFlags := 0, nameIndex := 46, descriptorIndex := 26, attributes := #[] }, { accessFlags := 0, nameIndex := 72, descriptorIndex := 26, attributes := #[] }, { accessFlags := 0, nameIndex := 74, descriptorIndex := 75, attributes := #[] }, { accessFlags := 0, nameIndex := 76, descriptorIndex := 60, attributes := #[] }, { accessFlags := 0, nameIndex := 77, descriptorIndex := 26, attributes := #[] }, { accessFlags := 2, nameIndex := 39, descriptorIndex := 40, attributes := #[] }] 48 2 #[] #[{ accessFlags := 18, nameIndex := 11, descriptorIndex := 12, attributes := #[] }, { accessFlags := 2, nameIndex := 21, descriptorIndex := 12, attributes := #[] }, { accessFlags := 2, nameIndex := 29, descriptorIndex := 30, attributes := #[] }, { accessFlags := 2, nameIndex := 33, descriptorIndex := 30, attributes := #[] }])
  fields := #[{ name := "intervalMillis", type := .long, accessFlags := 18, slot := 0, constantValue := 0 }, { name := "intervalIndex", type := .long, accessFlags := 2, slot := 1, constantValue := 0 }, { name := "interval", type := (.object "com/example/sluice/sluice/WaitRecorder$Tally"), accessFlags := 2, slot := 2, constantValue := 0 }, { name := "sinceReset", type := (.object "com/example/sluice/sluice/WaitRecorder$Tally"), accessFlags := 2, slot := 3, constantValue := 0 }]
  methods := #[k3m0, k3m1, k3m2, k3m3, k3m4, k3m5, k3m6]
  instanceTypes := #[.long, .long, (.object "com/example/sluice/sluice/WaitRecorder$Tally"), (.object "com/example/sluice/sluice/WaitRecorder$Tally")]
  staticTypes := #[]
  resolved := Array.replicate 86 none
  statics := none }

def pool4 : Array CpInfo := pool [(1, .methodref 2 3), (0, .class_ 4), (0, .nameAndType 5 6), (0, u "java/lang/Object"), (0, u "<init>"), (0, u "()V"), (2, .long 9223372036854775807), (1, .fieldref 12 13), (0, .class_ 14), (0, .nameAndType 15 16), (0, u "com/example/sluice/sluice/WaitRecorder$Tally"), (0, u "minimumWaitMillis"), (0, u "J"), (0, .long 9223372036854775808), (1, .fieldref 12 20), (0, .nameAndType 21 16), (0, u "maximumWaitMillis"), (0, .methodref 23 24), (0, .class_ 25), (0, .nameAndType 26 27), (0, u "com/example/sluice/sluice/RefusalReason"), (0, u "values"), (0, u "()[Lcom/example/sluice/sluice/RefusalReason;"), (0, .fieldref 12 29), (0, .nameAndType 30 31), (0, u "refused"), (0, u "[J"), (0, .fieldref 12 33), (0, .nameAndType 34 16), (0, u "fromMillis"), (0, .fieldref 12 36), (0, .nameAndType 37 16), (0, u "startedAfterWaiting"), (0, .fieldref 12 39), (0, .nameAndType 40 16), (0, u "totalWaitMillis"), (9, .class_ 51), (0, u "com/example/sluice/sluice/WaitStatistics"), (0, .fieldref 12 53), (0, .nameAndType 54 16), (0, u "startedAtOnce"), (0, .methodref 50 56), (0, .nameAndType 5 57), (0, u "(JJJJJJ[J)V"), (0, u "(J)V"), (3, u "snapshot"), (0, u "()Lcom/example/sluice/sluice/WaitStatistics;"), (3, .class_ 68), (0, u "com/example/sluice/sluice/WaitRecorder")] 2

def k4c0 : Code := { maxStack := 3, maxLocals := 3, code := prog_39_method_1_code, exceptionTable := #[], attributes := #[] }
def k4m0 : Method := { name := "<init>", desc := "(J)V", sig := { parameters := [.long], returnType := none }, accessFlags := 0, code := some k4c0 }
def k4c1 : Code := { maxStack := 15, maxLocals := 1, code := prog_39_method_3_code, exceptionTable := #[], attributes := #[] }
def k4m1 : Method := { name := "snapshot", desc := "()Lcom/example/sluice/sluice/WaitStatistics;", sig := { parameters := [], returnType := some (.object "com/example/sluice/sluice/WaitStatistics") }, accessFlags := 0, code := some k4c1 }
/-- com/example/sluice/sluice/WaitRecorder$Tally -/
def k4 : Class := { plain "com/example/sluice/sluice/WaitRecorder$Tally" (some 0) with
  accessFlags := 48
  interfaces := #[]
  cf := some (fileOf pool4 12 #[.nestHost 67] #[{ accessFlags := 0, nameIndex := 5, descriptorIndex := 58, attributes := #[] }, { accessFlags := 0, nameIndex := 62, descriptorIndex := 63, attributes := #[] }] 48 2 #[] #[{ accessFlags := 16, nameIndex := 34, descriptorIndex := 16, attributes := #[] }, { accessFlags := 0, nameIndex := 37, descriptorIndex := 16, attributes := #[] }, { accessFlags := 0, nameIndex := 40, descriptorIndex := 16, attributes := #[] }, { accessFlags := 0, nameIndex := 15, descriptorIndex := 16, attributes := #[] }, { accessFlags := 0, nameIndex := 21, descriptorIndex := 16, attributes := #[] }, { accessFlags := 0, nameIndex := 54, descriptorIndex := 16, attributes := #[] }, { accessFlags := 16, nameIndex := 30, descriptorIndex := 31, attributes := #[] }])
  fields := #[{ name := "fromMillis", type := .long, accessFlags := 16, slot := 0, constantValue := 0 }, { name := "startedAfterWaiting", type := .long, accessFlags := 0, slot := 1, constantValue := 0 }, { name := "totalWaitMillis", type := .long, accessFlags := 0, slot := 2, constantValue := 0 }, { name := "minimumWaitMillis", type := .long, accessFlags := 0, slot := 3, constantValue := 0 }, { name := "maximumWaitMillis", type := .long, accessFlags := 0, slot := 4, constantValue := 0 }, { name := "startedAtOnce", type := .long, accessFlags := 0, slot := 5, constantValue := 0 }, { name := "refused", type := (.array .long), accessFlags := 16, slot := 6, constantValue := 0 }]
  methods := #[k4m0, k4m1]
  instanceTypes := #[.long, .long, .long, .long, .long, .long, (.array .long)]
  staticTypes := #[]
  resolved := Array.replicate 71 none
  statics := none }

def pool5 : Array CpInfo := pool [(1, .class_ 2), (0, u "java/lang/constant/Constable"), (0, .class_ 4), (0, u "java/lang/Object")] 6

/-- java/lang/constant/Constable -/
def k5 : Class := { plain "java/lang/constant/Constable" (some 0) with
  accessFlags := 1537
  interfaces := #[]
  cf := some (fileOf pool5 1 #[] #[] 1537 3 #[] #[])
  fields := #[]
  methods := #[]
  instanceTypes := #[]
  staticTypes := #[]
  resolved := Array.replicate 11 none
  statics := none }

def pool6 : Array CpInfo := pool [(1, .class_ 2), (0, u "java/lang/Comparable"), (0, .class_ 4), (0, u "java/lang/Object")] 7

/-- java/lang/Comparable -/
def k6 : Class := { plain "java/lang/Comparable" (some 0) with
  accessFlags := 1537
  interfaces := #[]
  cf := some (fileOf pool6 1 #[] #[] 1537 3 #[] #[])
  fields := #[]
  methods := #[]
  instanceTypes := #[]
  staticTypes := #[]
  resolved := Array.replicate 12 none
  statics := none }

def pool7 : Array CpInfo := pool [(1, .class_ 2), (0, u "java/io/Serializable"), (0, .class_ 4), (0, u "java/lang/Object")] 2

/-- java/io/Serializable -/
def k7 : Class := { plain "java/io/Serializable" (some 0) with
  accessFlags := 1537
  interfaces := #[]
  cf := some (fileOf pool7 1 #[] #[] 1537 3 #[] #[])
  fields := #[]
  methods := #[]
  instanceTypes := #[]
  staticTypes := #[]
  resolved := Array.replicate 7 none
  statics := none }

def pool8 : Array CpInfo := pool [(2, .class_ 4), (1, u "java/lang/Enum"), (0, u "name"), (0, u "Ljava/lang/String;"), (2, u "ordinal"), (0, u "I"), (1, .class_ 14), (1, u "java/lang/Object"), (4, u "hash"), (86, .class_ 108), (1, u "java/lang/Enum$EnumDesc"), (2, .class_ 112), (0, u "java/lang/constant/Constable"), (0, .class_ 114), (0, u "java/lang/Comparable"), (0, .class_ 116), (0, u "java/io/Serializable")] 87

/-- java/lang/Enum -/
def k8 : Class := { plain "java/lang/Enum" (some 0) with
  accessFlags := 1057
  interfaces := #[5, 6, 7]
  cf := some (fileOf pool8 2 #[.nestMembers #[106]] #[] 1057 12 #[111, 113, 115] #[{ accessFlags := 18, nameIndex := 5, descriptorIndex := 6, attributes := #[] }, { accessFlags := 18, nameIndex := 9, descriptorIndex := 10, attributes := #[] }, { accessFlags := 2, nameIndex := 19, descriptorIndex := 10, attributes := #[] }])
  fields := #[{ name := "name", type := (.object "java/lang/String"), accessFlags := 18, slot := 0, constantValue := 0 }, { name := "ordinal", type := .int, accessFlags := 18, slot := 1, constantValue := 0 }, { name := "hash", type := .int, accessFlags := 2, slot := 2, constantValue := 0 }]
  methods := #[]
  instanceTypes := #[(.object "java/lang/String"), .int, .int]
  staticTypes := #[]
  resolved := Array.replicate 204 none
  statics := none }

def pool9 : Array CpInfo := pool [(1, .class_ 2), (0, u "com/example/sluice/sluice/RefusalReason"), (2, u "QUEUE_FULL"), (0, u "Lcom/example/sluice/sluice/RefusalReason;"), (2, u "EVICTED"), (2, u "EXPIRED"), (2, u "DISCARDED"), (2, u "CLOSED"), (2, u "DUPLICATE"), (2, u "STALE"), (0, .fieldref 1 26), (0, .nameAndType 27 28), (0, u "$VALUES"), (0, u "[Lcom/example/sluice/sluice/RefusalReason;"), (0, .methodref 30 31), (0, .class_ 28), (0, .nameAndType 32 33), (0, u "clone"), (0, u "()Ljava/lang/Object;"), (1, .class_ 37), (1, u "java/lang/Enum"), (17, u "()[Lcom/example/sluice/sluice/RefusalReason;"), (0, u "values")] 10

def k9c0 : Code := { maxStack := 1, maxLocals := 0, code := prog_15_method_1_code, exceptionTable := #[], attributes := #[] }
def k9m0 : Method := { name := "values", desc := "()[Lcom/example/sluice/sluice/RefusalReason;", sig := { parameters := [], returnType := some (.array (.object "com/example/sluice/sluice/RefusalReason")) }, accessFlags := 9, code := some k9c0 }
/-- com/example/sluice/sluice/RefusalReason -/
def k9 : Class := { plain "com/example/sluice/sluice/RefusalReason" (some 8) with
  accessFlags := 16433
  interfaces := #[]
  cf := some (fileOf pool9 1 #[] #[{ accessFlags := 9, nameIndex := 56, descriptorIndex := 55, attributes := #[] }] 16433 35 #[] #[{ accessFlags := 16409, nameIndex := 5, descriptorIndex := 6, attributes := #[] }, { accessFlags := 16409, nameIndex := 9, descriptorIndex := 6, attributes := #[] }, { accessFlags := 16409, nameIndex := 12, descriptorIndex := 6, attributes := #[] }, { accessFlags := 16409, nameIndex := 15, descriptorIndex := 6, attributes := #[] }, { accessFlags := 16409, nameIndex := 18, descriptorIndex := 6, attributes := #[] }, { accessFlags := 16409, nameIndex := 21, descriptorIndex := 6, attributes := #[] }, { accessFlags := 16409, nameIndex := 24, descriptorIndex := 6, attributes := #[] }, { accessFlags := 4122, nameIndex := 27, descriptorIndex := 28, attributes := #[] }])
  fields := #[{ name := "QUEUE_FULL", type := (.object "com/example/sluice/sluice/RefusalReason"), accessFlags := 16409, slot := 0, constantValue := 0 }, { name := "EVICTED", type := (.object "com/example/sluice/sluice/RefusalReason"), accessFlags := 16409, slot := 1, constantValue := 0 }, { name := "EXPIRED", type := (.object "com/example/sluice/sluice/RefusalReason"), accessFlags := 16409, slot := 2, constantValue := 0 }, { name := "DISCARDED", type := (.object "com/example/sluice/sluice/RefusalReason"), accessFlags := 16409, slot := 3, constantValue := 0 }, { name := "CLOSED", type := (.object "com/example/sluice/sluice/RefusalReason"), accessFlags := 16409, slot := 4, constantValue := 0 }, { name := "DUPLICATE", type := (.object "com/example/sluice/sluice/RefusalReason"), accessFlags := 16409, slot := 5, constantValue := 0 }, { name := "STALE", type := (.object "com/example/sluice/sluice/RefusalReason"), accessFlags := 16409, slot := 6, constantValue := 0 }, { name := "$VALUES", type := (.array (.object "com/example/sluice/sluice/RefusalReason")), accessFlags := 4122, slot := 7, constantValue := 0 }]
  methods := #[k9m0]
  instanceTypes := #[(.object "java/lang/String"), .int, .int]
  staticTypes := #[(.object "com/example/sluice/sluice/RefusalReason"), (.object "com/example/sluice/sluice/RefusalReason"), (.object "com/example/sluice/sluice/RefusalReason"), (.object "com/example/sluice/sluice/RefusalReason"), (.object "com/example/sluice/sluice/RefusalReason"), (.object "com/example/sluice/sluice/RefusalReason"), (.object "com/example/sluice/sluice/RefusalReason"), (.array (.object "com/example/sluice/sluice/RefusalReason"))]
  resolved := Array.replicate 67 none
  statics := some 0 }

def pool10 : Array CpInfo := pool [(1, .class_ 2), (0, u "java/lang/Cloneable"), (0, .class_ 4), (0, u "java/lang/Object")] 2

/-- java/lang/Cloneable -/
def k10 : Class := { plain "java/lang/Cloneable" (some 0) with
  accessFlags := 1537
  interfaces := #[]
  cf := some (fileOf pool10 1 #[] #[] 1537 3 #[] #[])
  fields := #[]
  methods := #[]
  instanceTypes := #[]
  staticTypes := #[]
  resolved := Array.replicate 7 none
  statics := none }

def pool11 : Array CpInfo := pool [(1, .methodref 2 3), (0, .class_ 4), (0, .nameAndType 5 6), (0, u "java/lang/Object"), (0, u "<init>"), (0, u "()V"), (0, .fieldref 8 9), (0, .class_ 10), (0, .nameAndType 11 12), (0, u "com/example/sluice/sluice/WaitStatistics"), (0, u "fromMillis"), (0, u "J"), (0, .fieldref 8 14), (0, .nameAndType 15 12), (0, u "startedAfterWaiting"), (0, .fieldref 8 17), (0, .nameAndType 18 12), (0, u "totalWaitMillis"), (0, .fieldref 8 20), (0, .nameAndType 21 12), (0, u "minimumWaitMillis"), (0, .fieldref 8 23), (0, .nameAndType 24 12), (0, u "maximumWaitMillis"), (0, .fieldref 8 26), (0, .nameAndType 27 12), (0, u "startedAtOnce"), (0, .methodref 29 30), (0, .class_ 31), (0, .nameAndType 32 33), (0, u "[J"), (0, u "clone"), (0, u "()Ljava/lang/Object;"), (0, .fieldref 8 35), (0, .nameAndType 36 31), (0, u "refused"), (84, u "(JJJJJJ[J)V"), (2, u "()J")] 6

def k11c0 : Code := { maxStack := 3, maxLocals := 14, code := prog_41_method_1_code, exceptionTable := #[], attributes := #[] }
def k11m0 : Method := { name := "<init>", desc := "(JJJJJJ[J)V", sig := { parameters := [.long, .long, .long, .long, .long, .long, (.array .long)], returnType := none }, accessFlags := 0, code := some k11c0 }
def k11c1 : Code := { maxStack := 2, maxLocals := 1, code := prog_41_method_7_code, exceptionTable := #[], attributes := #[] }
def k11m1 : Method := { name := "startedAtOnce", desc := "()J", sig := { parameters := [], returnType := some .long }, accessFlags := 1, code := some k11c1 }
/-- com/example/sluice/sluice/WaitStatistics -/
def k11 : Class := { plain "com/example/sluice/sluice/WaitStatistics" (some 0) with
  accessFlags := 49
  interfaces := #[]
  cf := some (fileOf pool11 8 #[] #[{ accessFlags := 0, nameIndex := 5, descriptorIndex := 121, attributes := #[] }, { accessFlags := 1, nameIndex := 27, descriptorIndex := 124, attributes := #[] }] 49 2 #[] #[{ accessFlags := 18, nameIndex := 11, descriptorIndex := 12, attributes := #[] }, { accessFlags := 18, nameIndex := 15, descriptorIndex := 12, attributes := #[] }, { accessFlags := 18, nameIndex := 18, descriptorIndex := 12, attributes := #[] }, { accessFlags := 18, nameIndex := 21, descriptorIndex := 12, attributes := #[] }, { accessFlags := 18, nameIndex := 24, descriptorIndex := 12, attributes := #[] }, { accessFlags := 18, nameIndex := 27, descriptorIndex := 12, attributes := #[] }, { accessFlags := 18, nameIndex := 36, descriptorIndex := 31, attributes := #[] }])
  fields := #[{ name := "fromMillis", type := .long, accessFlags := 18, slot := 0, constantValue := 0 }, { name := "startedAfterWaiting", type := .long, accessFlags := 18, slot := 1, constantValue := 0 }, { name := "totalWaitMillis", type := .long, accessFlags := 18, slot := 2, constantValue := 0 }, { name := "minimumWaitMillis", type := .long, accessFlags := 18, slot := 3, constantValue := 0 }, { name := "maximumWaitMillis", type := .long, accessFlags := 18, slot := 4, constantValue := 0 }, { name := "startedAtOnce", type := .long, accessFlags := 18, slot := 5, constantValue := 0 }, { name := "refused", type := (.array .long), accessFlags := 18, slot := 6, constantValue := 0 }]
  methods := #[k11m0, k11m1]
  instanceTypes := #[.long, .long, .long, .long, .long, .long, (.array .long)]
  staticTypes := #[]
  resolved := Array.replicate 131 none
  statics := none }

/-- the primitive byte -/
def k12 : Class := { plain "byte" none with kind := .primitive 'B', accessFlags := 0x411 }
/-- [B -/
def k13 : Class := { plain "[B" (some 0) with kind := .array 12 .byte, interfaces := #[10, 7], accessFlags := 1041 }

/-- the primitive int -/
def k14 : Class := { plain "int" none with kind := .primitive 'I', accessFlags := 0x411 }
/-- [I -/
def k15 : Class := { plain "[I" (some 0) with kind := .array 14 .int, interfaces := #[10, 7], accessFlags := 1041 }

/-- the primitive long -/
def k16 : Class := { plain "long" none with kind := .primitive 'J', accessFlags := 0x411 }
/-- [J -/
def k17 : Class := { plain "[J" (some 0) with kind := .array 16 .long, interfaces := #[10, 7], accessFlags := 1041 }

/-- [Lcom/example/sluice/sluice/RefusalReason; -/
def k18 : Class := { plain "[Lcom/example/sluice/sluice/RefusalReason;" (some 0) with kind := .array 9 (.object "com/example/sluice/sluice/RefusalReason"), interfaces := #[10, 7], accessFlags := 1041 }

def heap : Heap := #[{ cls := 9, slots := #[.ref 2, .ref 3, .ref 4, .ref 5, .ref 6, .ref 7, .ref 8, .ref 1], vm := .statics 9 },
  { cls := 18, slots := #[.ref 2, .ref 3, .ref 4, .ref 5, .ref 6, .ref 7, .ref 8], vm := .none },
  { cls := 9, slots := #[.null, .int 0, .int 0], vm := .none },
  { cls := 9, slots := #[.null, .int 0, .int 0], vm := .none },
  { cls := 9, slots := #[.null, .int 0, .int 0], vm := .none },
  { cls := 9, slots := #[.null, .int 0, .int 0], vm := .none },
  { cls := 9, slots := #[.null, .int 0, .int 0], vm := .none },
  { cls := 9, slots := #[.null, .int 0, .int 0], vm := .none },
  { cls := 9, slots := #[.null, .int 0, .int 0], vm := .none }]
def classes : Array Class := #[k0, k1, k2, k3, k4, k5, k6, k7, k8, k9, k10, k11, k12, k13, k14, k15, k16, k17, k18]
def interned : List (Array UInt16 × Addr) := []
def slotsUsed : Nat := 36
def theMethod : MethodId := ⟨1, 1⟩
def args0 : Array Value := #[.long 7, .long 7, .long 7, .long 7, .int 5]
def aboutOver (below : List Frame) : State where
  vm := { classes := classes, interned := interned.toArray }
  heap := heap
  slotsUsed := slotsUsed
  threads := #[{ frames := .invoking theMethod args0 :: below }]
def below0 : List Frame := [.native { method := ⟨0, 0⟩, args := #[] }]
def about1 : State := aboutOver below0
def p0 : Program := .bare "" "" ""
def e0 : Env := launch0.env 0 0 0
theorem w_frames : about1.frames = Frame.invoking theMethod args0 :: below0 := rfl
set_option maxRecDepth 65536 in
theorem w_args : argsFit about1.vm theMethod args0 = true := by decide +kernel
set_option maxRecDepth 65536 in
theorem w_heap : heapFits about1 = true := by decide +kernel
set_option maxRecDepth 65536 in
theorem w_runnable : about1.curStatus? = some .runnable := by decide +kernel
set_option maxRecDepth 65536 in
theorem w_alone : about1.alone = true := by decide +kernel
set_option maxRecDepth 65536 in
theorem w_named : about1.methodNamed? x = some theMethod := by decide +kernel
set_option maxRecDepth 65536 in
theorem w_hears : about1.hears theMethod below0 = true := by decide +kernel
set_option maxRecDepth 65536 in
theorem w_ripe : about1.ripe theMethod args0 below0 = true := by decide +kernel
theorem w_running : about1.status = .running := rfl
set_option maxRecDepth 65536 in
theorem w_room : about1.hasRoom e0.platform room_1 = true :=
  launch0.hasRoom_least _ room_1 (by decide +kernel) (by decide +kernel) (by decide +kernel) (by decide +kernel) (by decide +kernel) (by decide +kernel)
theorem allAtoms_all (ts : List Jvm.Cond) (a : Array Jvm.Value) (st : Jvm.State) : (allAtoms ts).before a st = ts.all (fun c => c.before a st) := by
  induction ts with
  | nil => rfl
  | cons c t ih =>
    show (Jvm.Cond.and c (allAtoms t)).before a st = _
    rw [Jvm.Cond.before_and, ih, List.all_cons]
def words1 : List Jvm.Cond := Jvm.Cond.code x code maxLocals ret :: tables_1
/-- a 'code' word, met by the world's own term for the bytes: nothing is compared byte by byte -/
theorem code_word {y : MethodName} {bytes : ByteArray} {mx : Nat} {rt : Option FieldType} {a : Array Value} {s : State} {m : MethodId} {meth : Method} {c : Code} (h1 : s.methodNamed? y = some m) (h2 : s.vm.method? m = some meth) (h3 : meth.code = some c) (h4 : c.code = bytes)
    (h5 : (c.maxLocals == mx && c.exceptionTable.isEmpty && decide (c.maxStack ≤ mostOperands) && decide (meth.sig.returnType = rt) && !meth.locks && decide (parseMethodDescriptor y.desc = some meth.sig)) = true) : (Jvm.Cond.code y bytes mx rt).before a s = true := by
  simp only [Bool.and_eq_true, beq_iff_eq, Bool.not_eq_true', decide_eq_true_eq] at h5
  obtain ⟨⟨⟨⟨⟨g1, g2⟩, g3⟩, g4⟩, g5⟩, g6⟩ := h5
  simp [Cond.before, Cond.holds, Cond.value, h1, h2, h3, h4, g1, g2, g3, g4, g5, g6]
def isCode : Jvm.Cond → Bool
  | .code _ _ _ _ => true
  | _ => false
theorem all_split {L : List Jvm.Cond} {P : Jvm.Cond → Bool} (h1 : L.all (fun c => isCode c || P c) = true) (h2 : ∀ c ∈ L.filter isCode, P c = true) : L.all P = true := by
  refine List.all_eq_true.mpr fun c hc => ?_
  have h := List.all_eq_true.mp h1 c hc
  rcases Bool.eq_false_or_eq_true (isCode c) with hi | hi
  · exact h2 c (List.mem_filter.mpr ⟨hc, hi⟩)
  · simpa [hi] using h
set_option maxRecDepth 65536 in
theorem w_c0 : (Jvm.Cond.code x code maxLocals ret).before args0 about1 = true := code_word (m := ⟨1, 1⟩) (meth := k1m1) (c := k1c1) (by decide +kernel) rfl rfl rfl (by decide +kernel)
set_option maxRecDepth 65536 in
theorem w_c1 : (Jvm.Cond.code ({ cls := "java/lang/Math", name := "max", desc := "(JJ)J" } : Jvm.MethodName) jdk_29_method_66_code (4 : Nat) (Option.some Jvm.ClassFile.FieldType.long)).before args0 about1 = true := code_word (m := ⟨2, 2⟩) (meth := k2m2) (c := k2c2) (by decide +kernel) rfl rfl rfl (by decide +kernel)
set_option maxRecDepth 65536 in
theorem w_c2 : (Jvm.Cond.code ({ cls := "com/example/sluice/sluice/WaitRecorder", name := "<init>", desc := "(JJ)V" } : Jvm.MethodName) prog_38_method_1_code (5 : Nat) (Option.none : Option Jvm.ClassFile.FieldType)).before args0 about1 = true := code_word (m := ⟨3, 0⟩) (meth := k3m0) (c := k3c0) (by decide +kernel) rfl rfl rfl (by decide +kernel)
set_option maxRecDepth 65536 in
theorem w_c3 : (Jvm.Cond.code ({ cls := "java/lang/Object", name := "<init>", desc := "()V" } : Jvm.MethodName) object_method_1_code (1 : Nat) (Option.none : Option Jvm.ClassFile.FieldType)).before args0 about1 = true := code_word (m := ⟨0, 0⟩) (meth := k0m0) (c := k0c0) (by decide +kernel) rfl rfl rfl (by decide +kernel)
set_option maxRecDepth 65536 in
theorem w_c4 : (Jvm.Cond.code ({ cls := "java/lang/Math", name := "floorDiv", desc := "(JJ)J" } : Jvm.MethodName) jdk_29_method_49_code (6 : Nat) (Option.some Jvm.ClassFile.FieldType.long)).before args0 about1 = true := code_word (m := ⟨2, 1⟩) (meth := k2m1) (c := k2c1) (by decide +kernel) rfl rfl rfl (by decide +kernel)
set_option maxRecDepth 65536 in
theorem w_c5 : (Jvm.Cond.code ({ cls := "com/example/sluice/sluice/WaitRecorder$Tally", name := "<init>", desc := "(J)V" } : Jvm.MethodName) prog_39_method_1_code (3 : Nat) (Option.none : Option Jvm.ClassFile.FieldType)).before args0 about1 = true := code_word (m := ⟨4, 0⟩) (meth := k4m0) (c := k4c0) (by decide +kernel) rfl rfl rfl (by decide +kernel)
set_option maxRecDepth 65536 in
theorem w_c6 : (Jvm.Cond.code ({ cls := "com/example/sluice/sluice/RefusalReason", name := "values", desc := "()[Lcom/example/sluice/sluice/RefusalReason;" } : Jvm.MethodName) prog_15_method_1_code (0 : Nat) (Option.some (Jvm.ClassFile.FieldType.array (Jvm.ClassFile.FieldType.object "com/example/sluice/sluice/RefusalReason")))).before args0 about1 = true := code_word (m := ⟨9, 0⟩) (meth := k9m0) (c := k9c0) (by decide +kernel) rfl rfl rfl (by decide +kernel)
set_option maxRecDepth 65536 in
theorem w_c7 : (Jvm.Cond.code ({ cls := "com/example/sluice/sluice/WaitRecorder", name := "startedAtOnce", desc := "(J)V" } : Jvm.MethodName) prog_38_method_3_code (3 : Nat) (Option.none : Option Jvm.ClassFile.FieldType)).before args0 about1 = true := code_word (m := ⟨3, 1⟩) (meth := k3m1) (c := k3c1) (by decide +kernel) rfl rfl rfl (by decide +kernel)
set_option maxRecDepth 65536 in
theorem w_c8 : (Jvm.Cond.code ({ cls := "com/example/sluice/sluice/WaitRecorder", name := "currentInterval", desc := "(J)Lcom/example/sluice/sluice/WaitRecorder$Tally;" } : Jvm.MethodName) prog_38_method_10_code (5 : Nat) (Option.some (Jvm.ClassFile.FieldType.object "com/example/sluice/sluice/WaitRecorder$Tally"))).before args0 about1 = true := code_word (m := ⟨3, 6⟩) (meth := k3m6) (c := k3c6) (by decide +kernel) rfl rfl rfl (by decide +kernel)
set_option maxRecDepth 65536 in
theorem w_c9 : (Jvm.Cond.code ({ cls := "com/example/sluice/sluice/WaitRecorder", name := "reset", desc := "(J)V" } : Jvm.MethodName) prog_38_method_8_code (3 : Nat) (Option.none : Option Jvm.ClassFile.FieldType)).before args0 about1 = true := code_word (m := ⟨3, 5⟩) (meth := k3m5) (c := k3c5) (by decide +kernel) rfl rfl rfl (by decide +kernel)
set_option maxRecDepth 65536 in
theorem w_c10 : (Jvm.Cond.code ({ cls := "com/example/sluice/sluice/WaitRecorder", name := "intervalSnapshot", desc := "(J)Lcom/example/sluice/sluice/WaitStatistics;" } : Jvm.MethodName) prog_38_method_6_code (3 : Nat) (Option.some (Jvm.ClassFile.FieldType.object "com/example/sluice/sluice/WaitStatistics"))).before args0 about1 = true := code_word (m := ⟨3, 3⟩) (meth := k3m3) (c := k3c3) (by decide +kernel) rfl rfl rfl (by decide +kernel)
set_option maxRecDepth 65536 in
theorem w_c11 : (Jvm.Cond.code ({ cls := "com/example/sluice/sluice/WaitRecorder$Tally", name := "snapshot", desc := "()Lcom/example/sluice/sluice/WaitStatistics;" } : Jvm.MethodName) prog_39_method_3_code (1 : Nat) (Option.some (Jvm.ClassFile.FieldType.object "com/example/sluice/sluice/WaitStatistics"))).before args0 about1 = true := code_word (m := ⟨4, 1⟩) (meth := k4m1) (c := k4c1) (by decide +kernel) rfl rfl rfl (by decide +kernel)
set_option maxRecDepth 65536 in
theorem w_c12 : (Jvm.Cond.code ({ cls := "com/example/sluice/sluice/WaitStatistics", name := "<init>", desc := "(JJJJJJ[J)V" } : Jvm.MethodName) prog_41_method_1_code (14 : Nat) (Option.none : Option Jvm.ClassFile.FieldType)).before args0 about1 = true := code_word (m := ⟨11, 0⟩) (meth := k11m0) (c := k11c0) (by decide +kernel) rfl rfl rfl (by decide +kernel)
set_option maxRecDepth 65536 in
theorem w_c13 : (Jvm.Cond.code ({ cls := "com/example/sluice/sluice/WaitStatistics", name := "startedAtOnce", desc := "()J" } : Jvm.MethodName) prog_41_method_7_code (1 : Nat) (Option.some Jvm.ClassFile.FieldType.long)).before args0 about1 = true := code_word (m := ⟨11, 1⟩) (meth := k11m1) (c := k11c1) (by decide +kernel) rfl rfl rfl (by decide +kernel)
set_option maxRecDepth 65536 in
theorem w_c14 : (Jvm.Cond.code ({ cls := "com/example/sluice/sluice/WaitRecorder", name := "startedAtOnceEarlier", desc := "(J)V" } : Jvm.MethodName) prog_38_method_4_code (3 : Nat) (Option.none : Option Jvm.ClassFile.FieldType)).before args0 about1 = true := code_word (m := ⟨3, 2⟩) (meth := k3m2) (c := k3c2) (by decide +kernel) rfl rfl rfl (by decide +kernel)
set_option maxRecDepth 65536 in
theorem w_c15 : (Jvm.Cond.code ({ cls := "com/example/sluice/sluice/WaitRecorder", name := "sinceResetSnapshot", desc := "()Lcom/example/sluice/sluice/WaitStatistics;" } : Jvm.MethodName) prog_38_method_7_code (1 : Nat) (Option.some (Jvm.ClassFile.FieldType.object "com/example/sluice/sluice/WaitStatistics"))).before args0 about1 = true := code_word (m := ⟨3, 4⟩) (meth := k3m4) (c := k3c4) (by decide +kernel) rfl rfl rfl (by decide +kernel)
def codes1 : List Jvm.Cond := [Jvm.Cond.code x code maxLocals ret, Jvm.Cond.code ({ cls := "java/lang/Math", name := "max", desc := "(JJ)J" } : Jvm.MethodName) jdk_29_method_66_code (4 : Nat) (Option.some Jvm.ClassFile.FieldType.long), Jvm.Cond.code ({ cls := "com/example/sluice/sluice/WaitRecorder", name := "<init>", desc := "(JJ)V" } : Jvm.MethodName) prog_38_method_1_code (5 : Nat) (Option.none : Option Jvm.ClassFile.FieldType), Jvm.Cond.code ({ cls := "java/lang/Object", name := "<init>", desc := "()V" } : Jvm.MethodName) object_method_1_code (1 : Nat) (Option.none : Option Jvm.ClassFile.FieldType), Jvm.Cond.code ({ cls := "java/lang/Math", name := "floorDiv", desc := "(JJ)J" } : Jvm.MethodName) jdk_29_method_49_code (6 : Nat) (Option.some Jvm.ClassFile.FieldType.long), Jvm.Cond.code ({ cls := "com/example/sluice/sluice/WaitRecorder$Tally", name := "<init>", desc := "(J)V" } : Jvm.MethodName) prog_39_method_1_code (3 : Nat) (Option.none : Option Jvm.ClassFile.FieldType), Jvm.Cond.code ({ cls := "com/example/sluice/sluice/RefusalReason", name := "values", desc := "()[Lcom/example/sluice/sluice/RefusalReason;" } : Jvm.MethodName) prog_15_method_1_code (0 : Nat) (Option.some (Jvm.ClassFile.FieldType.array (Jvm.ClassFile.FieldType.object "com/example/sluice/sluice/RefusalReason"))), Jvm.Cond.code ({ cls := "com/example/sluice/sluice/WaitRecorder", name := "startedAtOnce", desc := "(J)V" } : Jvm.MethodName) prog_38_method_3_code (3 : Nat) (Option.none : Option Jvm.ClassFile.FieldType), Jvm.Cond.code ({ cls := "com/example/sluice/sluice/WaitRecorder", name := "currentInterval", desc := "(J)Lcom/example/sluice/sluice/WaitRecorder$Tally;" } : Jvm.MethodName) prog_38_method_10_code (5 : Nat) (Option.some (Jvm.ClassFile.FieldType.object "com/example/sluice/sluice/WaitRecorder$Tally")), Jvm.Cond.code ({ cls := "com/example/sluice/sluice/WaitRecorder", name := "reset", desc := "(J)V" } : Jvm.MethodName) prog_38_method_8_code (3 : Nat) (Option.none : Option Jvm.ClassFile.FieldType), Jvm.Cond.code ({ cls := "com/example/sluice/sluice/WaitRecorder", name := "intervalSnapshot", desc := "(J)Lcom/example/sluice/sluice/WaitStatistics;" } : Jvm.MethodName) prog_38_method_6_code (3 : Nat) (Option.some (Jvm.ClassFile.FieldType.object "com/example/sluice/sluice/WaitStatistics")), Jvm.Cond.code ({ cls := "com/example/sluice/sluice/WaitRecorder$Tally", name := "snapshot", desc := "()Lcom/example/sluice/sluice/WaitStatistics;" } : Jvm.MethodName) prog_39_method_3_code (1 : Nat) (Option.some (Jvm.ClassFile.FieldType.object "com/example/sluice/sluice/WaitStatistics")), Jvm.Cond.code ({ cls := "com/example/sluice/sluice/WaitStatistics", name := "<init>", desc := "(JJJJJJ[J)V" } : Jvm.MethodName) prog_41_method_1_code (14 : Nat) (Option.none : Option Jvm.ClassFile.FieldType), Jvm.Cond.code ({ cls := "com/example/sluice/sluice/WaitStatistics", name := "startedAtOnce", desc := "()J" } : Jvm.MethodName) prog_41_method_7_code (1 : Nat) (Option.some Jvm.ClassFile.FieldType.long), Jvm.Cond.code ({ cls := "com/example/sluice/sluice/WaitRecorder", name := "startedAtOnceEarlier", desc := "(J)V" } : Jvm.MethodName) prog_38_method_4_code (3 : Nat) (Option.none : Option Jvm.ClassFile.FieldType), Jvm.Cond.code ({ cls := "com/example/sluice/sluice/WaitRecorder", name := "sinceResetSnapshot", desc := "()Lcom/example/sluice/sluice/WaitStatistics;" } : Jvm.MethodName) prog_38_method_7_code (1 : Nat) (Option.some (Jvm.ClassFile.FieldType.object "com/example/sluice/sluice/WaitStatistics"))]
set_option maxRecDepth 65536 in
theorem codes_eq : words1.filter isCode = codes1 := rfl
theorem w_codes : ∀ c ∈ words1.filter isCode, c.before args0 about1 = true := by
  rw [codes_eq]
  intro c hc
  simp only [codes1, List.mem_cons, List.not_mem_nil, or_false] at hc
  rcases hc with rfl | rfl | rfl | rfl | rfl | rfl | rfl | rfl | rfl | rfl | rfl | rfl | rfl | rfl | rfl | rfl
  · exact w_c0
  · exact w_c1
  · exact w_c2
  · exact w_c3
  · exact w_c4
  · exact w_c5
  · exact w_c6
  · exact w_c7
  · exact w_c8
  · exact w_c9
  · exact w_c10
  · exact w_c11
  · exact w_c12
  · exact w_c13
  · exact w_c14
  · exact w_c15
set_option maxRecDepth 65536 in
theorem w_t1 : (words1.take 24).all (fun c => isCode c || c.before args0 about1) = true := by decide +kernel
set_option maxRecDepth 65536 in
theorem w_t2 : ((words1.drop 24).take 24).all (fun c => isCode c || c.before args0 about1) = true := by decide +kernel
set_option maxRecDepth 65536 in
theorem w_t3 : (((words1.drop 24).drop 24).take 24).all (fun c => isCode c || c.before args0 about1) = true := by decide +kernel
set_option maxRecDepth 65536 in
theorem w_t4 : ((((words1.drop 24).drop 24).drop 24).take 24).all (fun c => isCode c || c.before args0 about1) = true := by decide +kernel
set_option maxRecDepth 65536 in
theorem w_t5 : (((((words1.drop 24).drop 24).drop 24).drop 24).take 24).all (fun c => isCode c || c.before args0 about1) = true := by decide +kernel
set_option maxRecDepth 65536 in
theorem w_t6 : (((((words1.drop 24).drop 24).drop 24).drop 24).drop 24).all (fun c => isCode c || c.before args0 about1) = true := by decide +kernel
theorem w_tables : (allAtoms (Jvm.Cond.code x code maxLocals ret :: tables_1)).before args0 about1 = true := by
  rw [allAtoms_all]
  show words1.all (fun c => c.before args0 about1) = true
  refine all_split ?_ w_codes
  rw [← List.take_append_drop 24 words1, List.all_append, w_t1, ← List.take_append_drop 24 (words1.drop 24), List.all_append, w_t2, ← List.take_append_drop 24 ((words1.drop 24).drop 24), List.all_append, w_t3, ← List.take_append_drop 24 (((words1.drop 24).drop 24).drop 24), List.all_append, w_t4, ← List.take_append_drop 24 ((((words1.drop 24).drop 24).drop 24).drop 24), List.all_append, w_t5, w_t6]
  rfl
set_option maxRecDepth 65536 in
theorem w_case : (Jvm.Cond.and given_1 narrow_1).before args0 about1 = true := by decide +kernel
theorem w_applies : (headSpec (Jvm.Cond.code x code maxLocals ret :: tables_1) room_1).applies x e0.platform about1 = true :=
  (Spec.applies_iff w_frames).mpr ⟨w_running, w_runnable, w_alone, w_named, w_hears, w_ripe, w_room, w_tables⟩
theorem atStart : AtStart classFile x code maxLocals ret World_1 tables_1 room_1 Calls_1 rest_1 Pre_1 launch0 p0 e0 about1 theMethod args0 below0 :=
  ⟨lists_1, trivial, launch0.admits_env _ _ _, launch0.least_env, fairChoices_fair.cas, fairChoices_fair.clock, w_frames, w_args, w_heap, w_applies, trivial, trivial, w_case⟩
end start1
theorem witness_1 : WitnessClaimed_1 := ⟨start1.p0, start1.e0, start1.about1, start1.theMethod, start1.args0, start1.below0, start1.atStart⟩
end Jvm.Pilot.@@N@@
