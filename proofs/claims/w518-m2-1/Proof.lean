import JvmDerived
import JvmDerived.Pilot.@@N@@Statement
import JvmDerived.Pilot.@@N@@Code
set_option linter.unusedVariables false
set_option linter.unusedSimpArgs false
namespace Jvm.Pilot.@@N@@
open Jvm Jvm.ClassFile Sem Op Lib Jvm.Free Jvm.Stand Jvm.LawKit Jvm.RoadKit Bundle Jvm.Pilot.@@N@@.Jvm.D
theorem own_b1 {v A K : Int32} (h : v < A) (d : ¬ (K < A)) : v < K := by rw [Int32.lt_iff_toInt_lt] at *; omega
theorem own_b2 {v A K : Int32} (h : v < A) (d : A.toInt ≤ K.toInt + 1) : ¬ (K < v) := by rw [Int32.lt_iff_toInt_lt] at *; omega
theorem own_b3 {v A K : Int32} (h : ¬ (v < A)) (d : ¬ (A < K)) : ¬ (v < K) := by rw [Int32.lt_iff_toInt_lt] at *; omega
theorem own_b4 {v A K : Int32} (h : ¬ (v < A)) (d : K < A) : K < v := by rw [Int32.lt_iff_toInt_lt] at *; omega
theorem own_b5 {v A K : Int32} (h : A < v) (d : K.toInt ≤ A.toInt + 1) : ¬ (v < K) := by rw [Int32.lt_iff_toInt_lt] at *; omega
theorem own_b6 {v A K : Int32} (h : A < v) (d : ¬ (A < K)) : K < v := by rw [Int32.lt_iff_toInt_lt] at *; omega
theorem own_b7 {v A K : Int32} (h : ¬ (A < v)) (d : A < K) : v < K := by rw [Int32.lt_iff_toInt_lt] at *; omega
theorem own_b8 {v A K : Int32} (h : ¬ (A < v)) (d : ¬ (K < A)) : ¬ (K < v) := by rw [Int32.lt_iff_toInt_lt] at *; omega
theorem own_w {Z : State} {a0 : Array Value} (hw : ∀ d ∈ tables_1, d.before a0 Z = true) (i : Nat) {d : Jvm.Cond} (h : tables_1[i]? = some d) : d.before a0 Z = true := hw d (List.mem_of_getElem? h)
theorem own_fldI {args : Array Value} {s : State} {t : Term} {x : Addr} {C n d : String} {k : Int32} (ht : t.eval args s none [] s = some (.ref x)) (h : (Jvm.Cond.eq (.field t C n d) (.int k)).value args s none s [] = some true) : s.fieldOf? x C n d = some (.int k) := by
  obtain ⟨u, v, e1, e2, -, -⟩ := cmp_v (Or.inl h)
  have e3 : (Term.field t C n d).eval args s none [] s = s.fieldOf? x C n d := fld_at ht
  cases (show some (Value.int k) = some v from e2)
  rw [e3] at e1
  cases u <;> simp [Jvm.Cond.value, Term.eval, ht, e1] at h
  rw [e1, h]
theorem own_fldR {args : Array Value} {s : State} {t u : Term} {x y : Addr} {C n d : String} (ht : t.eval args s none [] s = some (.ref x)) (hu : u.eval args s none [] s = some (.ref y)) (h : (Jvm.Cond.eq (.field t C n d) u).value args s none s [] = some true) : s.fieldOf? x C n d = some (.ref y) := by
  obtain ⟨v, w, e1, e2, -, -⟩ := cmp_v (Or.inl h)
  have e3 : (Term.field t C n d).eval args s none [] s = s.fieldOf? x C n d := fld_at ht
  rw [e3] at e1
  cases v <;> simp [Jvm.Cond.value, Term.eval, ht, hu, e1] at h
  rw [e1, h]
theorem d0_0 : decode prog_14_method_8_code 0 = .ok (.aload_n 0, 1) := by decide +kernel
theorem d0_1 : decode prog_14_method_8_code 1 = .ok (.getfield 222, 3) := by decide +kernel
theorem d0_4 : decode prog_14_method_8_code 4 = .ok (.getstatic 298, 3) := by decide +kernel
theorem d0_7 : decode prog_14_method_8_code 7 = .ok (.if_acmp .eq 7, 3) := by decide +kernel
theorem d0_14 : decode prog_14_method_8_code 14 = .ok (.iconst 0, 1) := by decide +kernel
theorem d0_15 : decode prog_14_method_8_code 15 = .ok (.ireturn, 1) := by decide +kernel
theorem d0_10 : decode prog_14_method_8_code 10 = .ok (.iconst 1, 1) := by decide +kernel
theorem d0_11 : decode prog_14_method_8_code 11 = .ok (.goto 4, 3) := by decide +kernel
theorem pn_0 : plainName "com/example/ogmios/ogmios/codec/MethodType" = true := by first | (simp [plainName, overriddenIn]; done) | decide +kernel
theorem ef_rm_isr (m : MethodId) (x0 : Addr) : entryFrame m #[(.ref x0)] 1 = mkF m 0 #[.val (.ref x0)] [] := by first | (simp [entryFrame, mkF, argsToLocals, Value.category]; done) | rfl
def Q_rm_isr (Z : State) (a' : Addr) (r : Addr) (pC : Addr) (h0 : Heap) (n0 : Nat) (v : Option Value) (h : Heap) (L : List Loc) : Prop := ((r = pC) ∧ (v = some (.int (0 : Int32))) ∧ (Fr n0 L) ∧ (h = h0)) ∨ ((¬ (r = pC)) ∧ (v = some (.int (1 : Int32))) ∧ (Fr n0 L) ∧ (h = h0))
set_option maxRecDepth 65536 in
set_option maxHeartbeats 40000000 in
theorem rm_isr (l : Launch) (Z : State) (a0 : Array Value) (hw : ∀ d ∈ tables_1, d.before a0 Z = true) (ws : List Jvm.Cond) (a' : Addr) (r : Addr) (pC : Addr) (h0 : Heap) (n0 : Nat) (O0 : Old Z n0 h0) (Fr_a : Fld Z Z.heap a' "com/example/ogmios/ogmios/codec/MethodType" "receiver" "Lcom/example/ogmios/ogmios/codec/MethodType$Peer;" (.ref r)) (S_CLIENT : Sta Z Z.heap "com/example/ogmios/ogmios/codec/MethodType$Peer" "CLIENT" "Lcom/example/ogmios/ogmios/codec/MethodType$Peer;" (.ref pC)) :
    MetFree l (⟨"com/example/ogmios/ogmios/codec/MethodType", "isReceivedByServer", "()Z"⟩ : MethodName) (head1 (Jvm.Cond.code (⟨"com/example/ogmios/ogmios/codec/MethodType", "isReceivedByServer", "()Z"⟩ : MethodName) prog_14_method_8_code 1 (some .boolean) :: ws) ({ frames := 0, cells := 0, slots := 0, locals := 0 } : Room)) (fun a U => a = #[(.ref a')] ∧ Z.Warmed39 U.vm ∧ U.heap = h0) (fun _ _ _ _ _ => True) (fun _ U o U' => ∃ v L, o = .returned v ∧ Q_rm_isr Z a' r pC h0 n0 v U'.heap L ∧ FrameEnd U o U' L ({ frames := 0, cells := 0, slots := 0, locals := 0 } : Room).cells ({ frames := 0, cells := 0, slots := 0, locals := 0 } : Room).slots) := by
  refine MetFree.of_bodySF (plainFor_of_name pn_0) hisR ?_
  intro p e s m args below meth c s₁ Bd hml0 hP hK
  obtain ⟨rfl, hZ, hh⟩ := hP
  have hx := Bd.exec
  have hby := Bd.bytes
  have hml : c.maxLocals = 1 := hml0
  have hown : s.vm.findClass "com/example/ogmios/ogmios/codec/MethodType" = some m.cls := findClass_of_methodNamed Bd.named
  have hnm := (name_of_methodNamed Bd.named Bd.method).1
  have X0 : Stand p l e ({ frames := 0, cells := 0, slots := 0, locals := 0 } : Room) s m #[(.ref a')] below meth c s₁ [] 0 0 := Stand.of_body Bd
  have e0 : s₁.heap = h0 := by rw [← hh, Bd.state]; rfl
  have N0 := Fr.nil n0
  have pre0 : ∀ t, Steps p.tables e below (s₁.setTop (mkF m 0 #[.val (.ref a')] [])) t → Steps p.tables e below (s₁.setTop (entryFrame m #[(.ref a')] 1)) t := fun t k => castTop (ef_rm_isr m a') k
  obtain ⟨T1, X1, e1, st1⟩ := getF X0 hx hZ hown (host := "") (Or.inl (own_w hw 9 rfl)) Via.refl e0 (Fr_a.ext O0.2) (g := (mkF m 1 #[.val (.ref a')] [(.ref a')])) rfl rfl (hb hby d0_1)
  obtain ⟨T2, X2, e2, st2⟩ := getS2 X1 hx hZ hown (host := "") (Or.inl (own_w hw 13 rfl)) Via.refl e1 (S_CLIENT.ext O0.2) (g := (mkF m 4 #[.val (.ref a')] [(.ref r)])) rfl (hb hby d0_4)
  have S3 : ∀ t, Steps p.tables e below (T2.setTop (mkF m 7 #[.val (.ref a')] [(.ref pC), (.ref r)])) t → Steps p.tables e below (s₁.setTop (mkF m 0 #[.val (.ref a')] [])) t := by
    intro t kt
    refine XS.aloadN X0.here hx rfl (hb hby d0_0) rfl rfl ?_
    show Steps p.tables e below (s₁.setTop (mkF m 1 #[.val (.ref a')] [(.ref a')])) _
    refine st1 _ ?_
    show Steps p.tables e below (T1.setTop (mkF m 4 #[.val (.ref a')] [(.ref r)])) _
    refine st2 _ ?_
    exact kt
  rcases Decidable.em (r = pC) with c4 | c4
  · have S5 : ∀ t, Steps p.tables e below (T2.setTop (mkF m 15 #[.val (.ref a')] [(.int (0 : Int32))])) t → Steps p.tables e below (s₁.setTop (mkF m 0 #[.val (.ref a')] [])) t := by
      intro t kt
      refine S3 t ?_
      refine Jvm.RoadKit.acmp (g := (mkF m 7 #[.val (.ref a')] [(.ref pC), (.ref r)])) X2 hx rfl rfl rfl (pc0 := 7) (pc' := 14) (same := true) rfl (hb hby d0_7) rfl (decide_eq_true (congrArg Value.ref c4)) (by decide) (by decide) ?_
      refine XS.iconst X2.here hx rfl (hb hby d0_14) ?_
      exact kt
    obtain ⟨fs, hr, hrun, hended, hW, hsame⟩ := X2.leave (v := some (.int (0 : Int32))) (fun h => by rw [Bd.returns] at h; cases h)
    refine ⟨_, _, pre0 _ (S5 _ ?_), hrun, hended, _, _, rfl, ?_, ⟨_, rfl⟩, hW, hsame.mono (by decide) (by decide)⟩
    · exact retN X2 hx (t := .boolean) Bd.returns (by simp) (hb hby d0_15) hr
    · show Q_rm_isr Z a' r pC h0 n0 _ T2.heap _
      rw [e2]
      exact Or.inl ⟨c4, rfl, N0, rfl⟩
  · have S6 : ∀ t, Steps p.tables e below (T2.setTop (mkF m 15 #[.val (.ref a')] [(.int (1 : Int32))])) t → Steps p.tables e below (s₁.setTop (mkF m 0 #[.val (.ref a')] [])) t := by
      intro t kt
      refine S3 t ?_
      refine Jvm.RoadKit.acmp (g := (mkF m 7 #[.val (.ref a')] [(.ref pC), (.ref r)])) X2 hx rfl rfl rfl (pc0 := 7) (pc' := 10) (same := false) rfl (hb hby d0_7) rfl (decide_eq_false fun q => c4 (Value.ref.inj q)) (by decide) (by decide) ?_
      refine XS.iconst X2.here hx rfl (hb hby d0_10) ?_
      refine XS.goto X2.here hx rfl (pc0 := 11) (pc' := 15) rfl (hb hby d0_11) (by decide) (by decide) ?_
      exact kt
    obtain ⟨fs, hr, hrun, hended, hW, hsame⟩ := X2.leave (v := some (.int (1 : Int32))) (fun h => by rw [Bd.returns] at h; cases h)
    refine ⟨_, _, pre0 _ (S6 _ ?_), hrun, hended, _, _, rfl, ?_, ⟨_, rfl⟩, hW, hsame.mono (by decide) (by decide)⟩
    · exact retN X2 hx (t := .boolean) Bd.returns (by simp) (hb hby d0_15) hr
    · show Q_rm_isr Z a' r pC h0 n0 _ T2.heap _
      rw [e2]
      exact Or.inr (⟨c4, rfl, N0, rfl⟩)
theorem d1_0 : decode prog_14_method_9_code 0 = .ok (.aload_n 0, 1) := by decide +kernel
theorem d1_1 : decode prog_14_method_9_code 1 = .ok (.getfield 222, 3) := by decide +kernel
theorem d1_4 : decode prog_14_method_9_code 4 = .ok (.areturn, 1) := by decide +kernel
theorem ef_rm_rec (m : MethodId) (x0 : Addr) : entryFrame m #[(.ref x0)] 1 = mkF m 0 #[.val (.ref x0)] [] := by first | (simp [entryFrame, mkF, argsToLocals, Value.category]; done) | rfl
def Q_rm_rec (Z : State) (a' : Addr) (r : Addr) (h0 : Heap) (n0 : Nat) (v : Option Value) (h : Heap) (L : List Loc) : Prop := ((v = some (.ref r)) ∧ (Fr n0 L) ∧ (h = h0))
set_option maxRecDepth 65536 in
set_option maxHeartbeats 40000000 in
theorem rm_rec (l : Launch) (Z : State) (a0 : Array Value) (hw : ∀ d ∈ tables_1, d.before a0 Z = true) (ws : List Jvm.Cond) (a' : Addr) (r : Addr) (h0 : Heap) (n0 : Nat) (O0 : Old Z n0 h0) (Fr_a : Fld Z Z.heap a' "com/example/ogmios/ogmios/codec/MethodType" "receiver" "Lcom/example/ogmios/ogmios/codec/MethodType$Peer;" (.ref r)) :
    MetFree l (⟨"com/example/ogmios/ogmios/codec/MethodType", "receiver", "()Lcom/example/ogmios/ogmios/codec/MethodType$Peer;"⟩ : MethodName) (head1 (Jvm.Cond.code (⟨"com/example/ogmios/ogmios/codec/MethodType", "receiver", "()Lcom/example/ogmios/ogmios/codec/MethodType$Peer;"⟩ : MethodName) prog_14_method_9_code 1 (some (.object "com/example/ogmios/ogmios/codec/MethodType$Peer")) :: ws) ({ frames := 0, cells := 0, slots := 0, locals := 0 } : Room)) (fun a U => a = #[(.ref a')] ∧ Z.Warmed39 U.vm ∧ U.heap = h0) (fun _ _ _ _ _ => True) (fun _ U o U' => ∃ v L, o = .returned v ∧ Q_rm_rec Z a' r h0 n0 v U'.heap L ∧ FrameEnd U o U' L ({ frames := 0, cells := 0, slots := 0, locals := 0 } : Room).cells ({ frames := 0, cells := 0, slots := 0, locals := 0 } : Room).slots) := by
  refine MetFree.of_bodySF (plainFor_of_name pn_0) hisR ?_
  intro p e s m args below meth c s₁ Bd hml0 hP hK
  obtain ⟨rfl, hZ, hh⟩ := hP
  have hx := Bd.exec
  have hby := Bd.bytes
  have hml : c.maxLocals = 1 := hml0
  have hown : s.vm.findClass "com/example/ogmios/ogmios/codec/MethodType" = some m.cls := findClass_of_methodNamed Bd.named
  have hnm := (name_of_methodNamed Bd.named Bd.method).1
  have X0 : Stand p l e ({ frames := 0, cells := 0, slots := 0, locals := 0 } : Room) s m #[(.ref a')] below meth c s₁ [] 0 0 := Stand.of_body Bd
  have e0 : s₁.heap = h0 := by rw [← hh, Bd.state]; rfl
  have N0 := Fr.nil n0
  have pre0 : ∀ t, Steps p.tables e below (s₁.setTop (mkF m 0 #[.val (.ref a')] [])) t → Steps p.tables e below (s₁.setTop (entryFrame m #[(.ref a')] 1)) t := fun t k => castTop (ef_rm_rec m a') k
  obtain ⟨T1, X1, e1, st1⟩ := getF X0 hx hZ hown (host := "") (Or.inl (own_w hw 9 rfl)) Via.refl e0 (Fr_a.ext O0.2) (g := (mkF m 1 #[.val (.ref a')] [(.ref a')])) rfl rfl (hb hby d1_1)
  have S2 : ∀ t, Steps p.tables e below (T1.setTop (mkF m 4 #[.val (.ref a')] [(.ref r)])) t → Steps p.tables e below (s₁.setTop (mkF m 0 #[.val (.ref a')] [])) t := by
    intro t kt
    refine XS.aloadN X0.here hx rfl (hb hby d1_0) rfl rfl ?_
    show Steps p.tables e below (s₁.setTop (mkF m 1 #[.val (.ref a')] [(.ref a')])) _
    refine st1 _ ?_
    exact kt
  obtain ⟨fs, hr, hrun, hended, hW, hsame⟩ := X1.leave (v := some (.ref r)) (fun h => by rw [Bd.returns] at h; cases h)
  refine ⟨_, _, pre0 _ (S2 _ ?_), hrun, hended, _, _, rfl, ?_, ⟨_, rfl⟩, hW, hsame.mono (by decide) (by decide)⟩
  · exact retOut X1 hx Bd.returns rfl (Or.inr (Or.inr (Or.inr (Or.inr ⟨rfl, rfl, rfl⟩)))) (hb hby d1_4) hr
  · show Q_rm_rec Z a' r h0 n0 _ T1.heap _
    rw [e1]
    exact ⟨rfl, N0, rfl⟩
theorem pd_0 : parseMethodDescriptor "()Z" = some ⟨[], some .boolean⟩ := by decide +kernel
theorem pd_1 : parseMethodDescriptor "()Lcom/example/ogmios/ogmios/codec/MethodType$Peer;" = some ⟨[], some (.object "com/example/ogmios/ogmios/codec/MethodType$Peer")⟩ := by decide +kernel
theorem pn_1 : plainName "com/example/ogmios/ogmios/codec/MethodTypeIsReceivedByServerPinLaw" = true := by first | (simp [plainName, overriddenIn]; done) | decide +kernel
theorem ef_rm_law (m : MethodId) (x0 : Int32) : entryFrame m #[(.int x0)] maxLocals = mkF m 0 #[.val (.int x0), .unset, .unset, .unset, .unset, .unset, .unset] [] := by first | (simp [entryFrame, mkF, argsToLocals, Value.category, maxLocals]; done) | rfl
def Q_rm_law (Z : State) (p1 : Int32) (m0 : Addr) (m1 : Addr) (m2 : Addr) (m3 : Addr) (m4 : Addr) (m5 : Addr) (pC : Addr) (pS : Addr) (pB : Addr) (h0 : Heap) (n0 : Nat) (v : Option Value) (h : Heap) (L : List Loc) : Prop := ((v = some (.int (1 : Int32))) ∧ (Fr n0 L))
set_option maxRecDepth 65536 in
set_option maxHeartbeats 40000000 in
theorem rm_law (l : Launch) (Z : State) (a0 : Array Value) (hw : ∀ d ∈ tables_1, d.before a0 Z = true) (ws : List Jvm.Cond) (p1 : Int32) (m0 : Addr) (m1 : Addr) (m2 : Addr) (m3 : Addr) (m4 : Addr) (m5 : Addr) (pC : Addr) (pS : Addr) (pB : Addr) (h0 : Heap) (n0 : Nat) (O0 : Old Z n0 h0) (S_CONNECTION_START : Sta Z Z.heap "com/example/ogmios/ogmios/codec/MethodType" "CONNECTION_START" "Lcom/example/ogmios/ogmios/codec/MethodType;" (.ref m0)) (S_CONNECTION_START_OK : Sta Z Z.heap "com/example/ogmios/ogmios/codec/MethodType" "CONNECTION_START_OK" "Lcom/example/ogmios/ogmios/codec/MethodType;" (.ref m1)) (S_CONNECTION_CLOSE : Sta Z Z.heap "com/example/ogmios/ogmios/codec/MethodType" "CONNECTION_CLOSE" "Lcom/example/ogmios/ogmios/codec/MethodType;" (.ref m2)) (S_BASIC_DELIVER : Sta Z Z.heap "com/example/ogmios/ogmios/codec/MethodType" "BASIC_DELIVER" "Lcom/example/ogmios/ogmios/codec/MethodType;" (.ref m3)) (S_BASIC_PUBLISH : Sta Z Z.heap "com/example/ogmios/ogmios/codec/MethodType" "BASIC_PUBLISH" "Lcom/example/ogmios/ogmios/codec/MethodType;" (.ref m4)) (S_BASIC_ACK : Sta Z Z.heap "com/example/ogmios/ogmios/codec/MethodType" "BASIC_ACK" "Lcom/example/ogmios/ogmios/codec/MethodType;" (.ref m5)) (S_CLIENT : Sta Z Z.heap "com/example/ogmios/ogmios/codec/MethodType$Peer" "CLIENT" "Lcom/example/ogmios/ogmios/codec/MethodType$Peer;" (.ref pC)) (S_SERVER : Sta Z Z.heap "com/example/ogmios/ogmios/codec/MethodType$Peer" "SERVER" "Lcom/example/ogmios/ogmios/codec/MethodType$Peer;" (.ref pS)) (S_BOTH : Sta Z Z.heap "com/example/ogmios/ogmios/codec/MethodType$Peer" "BOTH" "Lcom/example/ogmios/ogmios/codec/MethodType$Peer;" (.ref pB)) (E_m0 : Exa Z Z.heap m0 "com/example/ogmios/ogmios/codec/MethodType") (E_m1 : Exa Z Z.heap m1 "com/example/ogmios/ogmios/codec/MethodType") (E_m2 : Exa Z Z.heap m2 "com/example/ogmios/ogmios/codec/MethodType") (E_m3 : Exa Z Z.heap m3 "com/example/ogmios/ogmios/codec/MethodType") (E_m4 : Exa Z Z.heap m4 "com/example/ogmios/ogmios/codec/MethodType") (E_m5 : Exa Z Z.heap m5 "com/example/ogmios/ogmios/codec/MethodType") (F_m0 : Fld Z Z.heap m0 "com/example/ogmios/ogmios/codec/MethodType" "receiver" "Lcom/example/ogmios/ogmios/codec/MethodType$Peer;" (.ref pC)) (F_m1 : Fld Z Z.heap m1 "com/example/ogmios/ogmios/codec/MethodType" "receiver" "Lcom/example/ogmios/ogmios/codec/MethodType$Peer;" (.ref pS)) (F_m2 : Fld Z Z.heap m2 "com/example/ogmios/ogmios/codec/MethodType" "receiver" "Lcom/example/ogmios/ogmios/codec/MethodType$Peer;" (.ref pB)) (F_m3 : Fld Z Z.heap m3 "com/example/ogmios/ogmios/codec/MethodType" "receiver" "Lcom/example/ogmios/ogmios/codec/MethodType$Peer;" (.ref pC)) (F_m4 : Fld Z Z.heap m4 "com/example/ogmios/ogmios/codec/MethodType" "receiver" "Lcom/example/ogmios/ogmios/codec/MethodType$Peer;" (.ref pS)) (F_m5 : Fld Z Z.heap m5 "com/example/ogmios/ogmios/codec/MethodType" "receiver" "Lcom/example/ogmios/ogmios/codec/MethodType$Peer;" (.ref pB)) (neSC : pS ≠ pC) (neBC : pB ≠ pC) (neBS : pB ≠ pS) :
    MetFree l x (head1 (Jvm.Cond.code x code maxLocals ret :: ws) room_1) (fun a U => a = #[(.int p1)] ∧ Z.Warmed39 U.vm ∧ U.heap = h0) (fun _ _ _ _ _ => True) (fun _ U o U' => ∃ v L, o = .returned v ∧ Q_rm_law Z p1 m0 m1 m2 m3 m4 m5 pC pS pB h0 n0 v U'.heap L ∧ FrameEnd U o U' L room_1.cells room_1.slots) := by
  refine MetFree.of_bodySF (plainFor_of_name pn_1) hisR ?_
  intro p e s m args below meth c s₁ Bd hml0 hP hK
  obtain ⟨rfl, hZ, hh⟩ := hP
  have hx := Bd.exec
  have hby := Bd.bytes
  have hml : c.maxLocals = 7 := hml0
  have hown : s.vm.findClass "com/example/ogmios/ogmios/codec/MethodTypeIsReceivedByServerPinLaw" = some m.cls := findClass_of_methodNamed Bd.named
  have hnm := (name_of_methodNamed Bd.named Bd.method).1
  have X0 : Stand p l e room_1 s m #[(.int p1)] below meth c s₁ [] 0 0 := Stand.of_body Bd
  have e0 : s₁.heap = h0 := by rw [← hh, Bd.state]; rfl
  have N0 := Fr.nil n0
  have pre0 : ∀ t, Steps p.tables e below (s₁.setTop (mkF m 0 #[.val (.int p1), .unset, .unset, .unset, .unset, .unset, .unset] [])) t → Steps p.tables e below (s₁.setTop (entryFrame m #[(.int p1)] maxLocals)) t := fun t k => castTop (ef_rm_law m p1) k
  have S1 : ∀ t, Steps p.tables e below (s₁.setTop (mkF m 9 #[.val (.int p1), .val (.int ((p1 &&& (2147483647 : Int32)) % (6 : Int32))), .unset, .unset, .unset, .unset, .unset] [(.int ((p1 &&& (2147483647 : Int32)) % (6 : Int32)))])) t → Steps p.tables e below (s₁.setTop (mkF m 0 #[.val (.int p1), .unset, .unset, .unset, .unset, .unset, .unset] [])) t := by
    intro t kt
    refine XS.iloadN X0.here hx rfl (hb hby at_0) rfl ?_
    show Steps p.tables e below (s₁.setTop (mkF m 1 #[.val (.int p1), .unset, .unset, .unset, .unset, .unset, .unset] [(.int p1)])) _
    refine Jvm.Stand.ldcI (g := (mkF m 1 #[.val (.int p1), .unset, .unset, .unset, .unset, .unset, .unset] [(.int p1)])) X0 hx hown (mvT hZ (own_w hw 0 rfl)) rfl (hb hby at_1) ?_
    refine XS.iand X0.here hx rfl (hb hby at_3) rfl ?_
    refine XS.bipush X0.here hx rfl (hb hby at_4) ?_
    show Steps p.tables e below (s₁.setTop (mkF m 6 #[.val (.int p1), .unset, .unset, .unset, .unset, .unset, .unset] [(.int (6 : Int32)), (.int (p1 &&& (2147483647 : Int32)))])) _
    refine Jvm.RoadKit.iremM (g := (mkF m 6 #[.val (.int p1), .unset, .unset, .unset, .unset, .unset, .unset] [(.int (6 : Int32)), (.int (p1 &&& (2147483647 : Int32)))])) X0 hx rfl (hb hby at_6) rfl (by decide) ?_
    refine XS.istoreN X0.here hx rfl (hb hby at_7) rfl (l' := #[.val (.int p1), .val (.int ((p1 &&& (2147483647 : Int32)) % (6 : Int32))), .unset, .unset, .unset, .unset, .unset]) rfl ?_
    refine XS.iloadN X0.here hx rfl (hb hby at_8) rfl ?_
    exact kt
  rcases Decidable.em (((p1 &&& (2147483647 : Int32)) % (6 : Int32)) = (0 : Int32)) with c2 | c2
  · obtain ⟨T3, X3, e3, st3⟩ := getS2 X0 hx hZ hown (host := "") (Or.inl (own_w hw 1 rfl)) Via.refl e0 (S_CONNECTION_START.ext O0.2) (g := (mkF m 12 #[.val (.int p1), .val (.int ((p1 &&& (2147483647 : Int32)) % (6 : Int32))), .unset, .unset, .unset, .unset, .unset] [])) rfl (hb hby at_12)
    obtain ⟨cq4, kq4, q4a, q4b, q4c⟩ := isOf hZ e3 (E_m0.ext O0.2)
    obtain ⟨_, _, ⟨T4, L4, k4, n4⟩, -, X4, ⟨Lc4, hQ4, l4, y4, z4⟩, st4⟩ := X3.virtualBack hx (y := (⟨"com/example/ogmios/ogmios/codec/MethodType", "isReceivedByServer", "()Z"⟩ : MethodName)) (z := (⟨"com/example/ogmios/ogmios/codec/MethodType", "isReceivedByServer", "()Z"⟩ : MethodName)) hown (mvT hZ (own_w hw 4 rfl)) (mvT hZ (own_w hw 5 rfl)) (notFace_of_selects (args := #[]) (mvT hZ (own_w hw 7 rfl))) (mvT hZ (own_w hw 7 rfl)) (mvT hZ (own_w hw 6 rfl)) (by decide) (backOf (W := 0) (rm_isr l Z a0 hw [] m0 pC pC h0 n0 O0 F_m0 S_CLIENT) hZ (own_w hw 8 rfl) (own_w hw 2 rfl) (by decide) (by decide)) q4a q4c (g := (mkF m 84 #[.val (.int p1), .val (.int ((p1 &&& (2147483647 : Int32)) % (6 : Int32))), .val (.ref m0), .val (.int (0 : Int32)), .unset, .unset, .unset] [(.ref m0)])) rfl (by rw [hml]; rfl) (Steps.refl _) (argsL := []) (rest := []) (lenOf pd_0 rfl) rfl (by show 2 * 0 + _ ≤ _; exact Nat.le_of_eq rfl) (hb hby at_84) (fun _ _ => ⟨rfl, e3, (by decide : 0 + 0 ≤ _), (by decide : 0 + 0 ≤ _)⟩)
    dsimp only [Pt.U, Pt.locs, Pt.cells, Pt.slots] at X4 l4 y4 z4 st4 hQ4
    subst l4 y4 z4
    rcases hQ4 with ⟨c5, rfl, N6, k7⟩ | ⟨c8, rfl, N9, k10⟩
    · have N11 := Fr.app N0 N6
      obtain ⟨cq12, kq12, q12a, q12b, q12c⟩ := isOf hZ k7 (E_m0.ext O0.2)
      obtain ⟨_, _, ⟨T12, L12, k12, n12⟩, -, X12, ⟨Lc12, hQ12, l12, y12, z12⟩, st12⟩ := X4.virtualBack hx (y := (⟨"com/example/ogmios/ogmios/codec/MethodType", "receiver", "()Lcom/example/ogmios/ogmios/codec/MethodType$Peer;"⟩ : MethodName)) (z := (⟨"com/example/ogmios/ogmios/codec/MethodType", "receiver", "()Lcom/example/ogmios/ogmios/codec/MethodType$Peer;"⟩ : MethodName)) hown (mvT hZ (own_w hw 14 rfl)) (mvT hZ (own_w hw 15 rfl)) (notFace_of_selects (args := #[]) (mvT hZ (own_w hw 17 rfl))) (mvT hZ (own_w hw 17 rfl)) (mvT hZ (own_w hw 16 rfl)) (by decide) (backOf (W := 0) (rm_rec l Z a0 hw [] m0 pC h0 n0 O0 F_m0) hZ (own_w hw 18 rfl) (own_w hw 2 rfl) (by decide) (by decide)) q12a q12c (g := (mkF m 90 #[.val (.int p1), .val (.int ((p1 &&& (2147483647 : Int32)) % (6 : Int32))), .val (.ref m0), .val (.int (0 : Int32)), .val (.int (0 : Int32)), .unset, .unset] [(.ref m0)])) rfl (by rw [hml]; rfl) (Steps.refl _) (argsL := []) (rest := []) (lenOf pd_1 rfl) rfl (by show 2 * 0 + _ ≤ _; exact Nat.le_of_eq rfl) (hb hby at_90) (fun _ _ => ⟨rfl, k7, (by decide : 0 + 0 ≤ _), (by decide : 0 + 0 ≤ _)⟩)
      dsimp only [Pt.U, Pt.locs, Pt.cells, Pt.slots] at X12 l12 y12 z12 st12 hQ12
      subst l12 y12 z12
      obtain ⟨rfl, N13, k14⟩ := hQ12
      have N15 := Fr.app N11 N13
      obtain ⟨T16, X16, e16, st16⟩ := getS2 X12 hx hZ hown (host := "") (Or.inl (own_w hw 19 rfl)) Via.refl k14 (S_SERVER.ext O0.2) (g := (mkF m 97 #[.val (.int p1), .val (.int ((p1 &&& (2147483647 : Int32)) % (6 : Int32))), .val (.ref m0), .val (.int (0 : Int32)), .val (.int (0 : Int32)), .val (.ref pC), .unset] [(.ref pC)])) rfl (hb hby at_97)
      obtain ⟨T17, X17, e17, st17⟩ := getS2 X16 hx hZ hown (host := "") (Or.inl (own_w hw 21 rfl)) Via.refl e16 (S_BOTH.ext O0.2) (g := (mkF m 105 #[.val (.int p1), .val (.int ((p1 &&& (2147483647 : Int32)) % (6 : Int32))), .val (.ref m0), .val (.int (0 : Int32)), .val (.int (0 : Int32)), .val (.ref pC), .unset] [(.ref pC)])) rfl (hb hby at_105)
      have S18 : ∀ t, Steps p.tables e below (T17.setTop (mkF m 136 #[.val (.int p1), .val (.int ((p1 &&& (2147483647 : Int32)) % (6 : Int32))), .val (.ref m0), .val (.int (0 : Int32)), .val (.int (0 : Int32)), .val (.ref pC), .val (.int (0 : Int32))] [(.int (1 : Int32))])) t → Steps p.tables e below (s₁.setTop (mkF m 0 #[.val (.int p1), .unset, .unset, .unset, .unset, .unset, .unset] [])) t := by
        intro t kt
        refine S1 t ?_
        refine XS.ifNo X0.here hx rfl (hb hby at_9) rfl ((if0 _ _).trans (teq (c2 : ((p1 &&& (2147483647 : Int32)) % (6 : Int32)) = (0 : Int32))).2) ?_
        show Steps p.tables e below (s₁.setTop (mkF m 12 #[.val (.int p1), .val (.int ((p1 &&& (2147483647 : Int32)) % (6 : Int32))), .unset, .unset, .unset, .unset, .unset] [])) _
        refine st3 _ ?_
        refine XS.astoreN X3.here hx rfl (hb hby at_15) rfl rfl (l' := #[.val (.int p1), .val (.int ((p1 &&& (2147483647 : Int32)) % (6 : Int32))), .val (.ref m0), .unset, .unset, .unset, .unset]) rfl ?_
        refine XS.iconst X3.here hx rfl (hb hby at_16) ?_
        refine XS.istoreN X3.here hx rfl (hb hby at_17) rfl (l' := #[.val (.int p1), .val (.int ((p1 &&& (2147483647 : Int32)) % (6 : Int32))), .val (.ref m0), .val (.int (0 : Int32)), .unset, .unset, .unset]) rfl ?_
        refine XS.goto X3.here hx rfl (pc0 := 18) (pc' := 83) rfl (hb hby at_18) (by decide) (by decide) ?_
        refine XS.aloadN X3.here hx rfl (hb hby at_83) rfl rfl ?_
        show Steps p.tables e below (T3.setTop (mkF m 84 #[.val (.int p1), .val (.int ((p1 &&& (2147483647 : Int32)) % (6 : Int32))), .val (.ref m0), .val (.int (0 : Int32)), .unset, .unset, .unset] [(.ref m0)])) _
        refine st4.trans ?_
        refine XS.istore X4.here hx rfl (hb hby at_87) rfl (l' := #[.val (.int p1), .val (.int ((p1 &&& (2147483647 : Int32)) % (6 : Int32))), .val (.ref m0), .val (.int (0 : Int32)), .val (.int (0 : Int32)), .unset, .unset]) rfl ?_
        refine XS.aloadN X4.here hx rfl (hb hby at_89) rfl rfl ?_
        show Steps p.tables e below (T4.setTop (mkF m 90 #[.val (.int p1), .val (.int ((p1 &&& (2147483647 : Int32)) % (6 : Int32))), .val (.ref m0), .val (.int (0 : Int32)), .val (.int (0 : Int32)), .unset, .unset] [(.ref m0)])) _
        refine st12.trans ?_
        refine XS.astore X12.here hx rfl (hb hby at_93) rfl rfl (l' := #[.val (.int p1), .val (.int ((p1 &&& (2147483647 : Int32)) % (6 : Int32))), .val (.ref m0), .val (.int (0 : Int32)), .val (.int (0 : Int32)), .val (.ref pC), .unset]) rfl ?_
        refine XS.aload X12.here hx rfl (hb hby at_95) rfl rfl ?_
        show Steps p.tables e below (T12.setTop (mkF m 97 #[.val (.int p1), .val (.int ((p1 &&& (2147483647 : Int32)) % (6 : Int32))), .val (.ref m0), .val (.int (0 : Int32)), .val (.int (0 : Int32)), .val (.ref pC), .unset] [(.ref pC)])) _
        refine st16 _ ?_
        show Steps p.tables e below (T16.setTop (mkF m 100 #[.val (.int p1), .val (.int ((p1 &&& (2147483647 : Int32)) % (6 : Int32))), .val (.ref m0), .val (.int (0 : Int32)), .val (.int (0 : Int32)), .val (.ref pC), .unset] [(.ref pS), (.ref pC)])) _
        refine Jvm.RoadKit.acmp (g := (mkF m 100 #[.val (.int p1), .val (.int ((p1 &&& (2147483647 : Int32)) % (6 : Int32))), .val (.ref m0), .val (.int (0 : Int32)), .val (.int (0 : Int32)), .val (.ref pC), .unset] [(.ref pS), (.ref pC)])) X16 hx rfl rfl rfl (pc0 := 100) (pc' := 103) (same := false) rfl (hb hby at_100) rfl (decide_eq_false fun q => (Ne.symm neSC) (Value.ref.inj q)) (by decide) (by decide) ?_
        refine XS.aload X16.here hx rfl (hb hby at_103) rfl rfl ?_
        show Steps p.tables e below (T16.setTop (mkF m 105 #[.val (.int p1), .val (.int ((p1 &&& (2147483647 : Int32)) % (6 : Int32))), .val (.ref m0), .val (.int (0 : Int32)), .val (.int (0 : Int32)), .val (.ref pC), .unset] [(.ref pC)])) _
        refine st17 _ ?_
        show Steps p.tables e below (T17.setTop (mkF m 108 #[.val (.int p1), .val (.int ((p1 &&& (2147483647 : Int32)) % (6 : Int32))), .val (.ref m0), .val (.int (0 : Int32)), .val (.int (0 : Int32)), .val (.ref pC), .unset] [(.ref pB), (.ref pC)])) _
        refine Jvm.RoadKit.acmp (g := (mkF m 108 #[.val (.int p1), .val (.int ((p1 &&& (2147483647 : Int32)) % (6 : Int32))), .val (.ref m0), .val (.int (0 : Int32)), .val (.int (0 : Int32)), .val (.ref pC), .unset] [(.ref pB), (.ref pC)])) X17 hx rfl rfl rfl (pc0 := 108) (pc' := 115) (same := false) rfl (hb hby at_108) rfl (decide_eq_false fun q => (Ne.symm neBC) (Value.ref.inj q)) (by decide) (by decide) ?_
        refine XS.iconst X17.here hx rfl (hb hby at_115) ?_
        refine XS.istore X17.here hx rfl (hb hby at_116) rfl (l' := #[.val (.int p1), .val (.int ((p1 &&& (2147483647 : Int32)) % (6 : Int32))), .val (.ref m0), .val (.int (0 : Int32)), .val (.int (0 : Int32)), .val (.ref pC), .val (.int (0 : Int32))]) rfl ?_
        refine XS.iload X17.here hx rfl (hb hby at_118) rfl ?_
        refine XS.iloadN X17.here hx rfl (hb hby at_120) rfl ?_
        refine XS.icmpNo X17.here hx rfl (hb hby at_121) rfl (teq ((by decide) : (0 : Int32) = (0 : Int32))).2 ?_
        show Steps p.tables e below (T17.setTop (mkF m 124 #[.val (.int p1), .val (.int ((p1 &&& (2147483647 : Int32)) % (6 : Int32))), .val (.ref m0), .val (.int (0 : Int32)), .val (.int (0 : Int32)), .val (.ref pC), .val (.int (0 : Int32))] [])) _
        refine XS.iload X17.here hx rfl (hb hby at_124) rfl ?_
        refine XS.iload X17.here hx rfl (hb hby at_126) rfl ?_
        refine XS.icmpNo X17.here hx rfl (hb hby at_128) rfl (teq ((by decide) : (0 : Int32) = (0 : Int32))).2 ?_
        refine XS.iconst X17.here hx rfl (hb hby at_131) ?_
        refine XS.goto X17.here hx rfl (pc0 := 132) (pc' := 136) rfl (hb hby at_132) (by decide) (by decide) ?_
        exact kt
      obtain ⟨fs, hr, hrun, hended, hW, hsame⟩ := X17.leave (v := some (.int (1 : Int32))) (fun h => by rw [Bd.returns] at h; cases h)
      refine ⟨_, _, pre0 _ (S18 _ ?_), hrun, hended, _, _, rfl, ?_, ⟨_, rfl⟩, hW, hsame.mono (by decide) (by decide)⟩
      · exact retN X17 hx (t := .boolean) Bd.returns (by simp) (hb hby at_136) hr
      · show Q_rm_law Z p1 m0 m1 m2 m3 m4 m5 pC pS pB h0 n0 _ T17.heap _
        rw [e17]
        exact ⟨rfl, N15⟩
    · exact absurd (rfl : pC = pC) c8
  · have S19 : ∀ t, Steps p.tables e below (s₁.setTop (mkF m 23 #[.val (.int p1), .val (.int ((p1 &&& (2147483647 : Int32)) % (6 : Int32))), .unset, .unset, .unset, .unset, .unset] [(.int (1 : Int32)), (.int ((p1 &&& (2147483647 : Int32)) % (6 : Int32)))])) t → Steps p.tables e below (s₁.setTop (mkF m 0 #[.val (.int p1), .unset, .unset, .unset, .unset, .unset, .unset] [])) t := by
      intro t kt
      refine S1 t ?_
      refine XS.ifYes X0.here hx rfl (pc0 := 9) (pc' := 21) rfl (hb hby at_9) rfl ((if0 _ _).trans (feq (c2 : ¬ (((p1 &&& (2147483647 : Int32)) % (6 : Int32)) = (0 : Int32)))).2) (by decide) (by decide) ?_
      refine XS.iloadN X0.here hx rfl (hb hby at_21) rfl ?_
      refine XS.iconst X0.here hx rfl (hb hby at_22) ?_
      exact kt
    rcases Decidable.em (((p1 &&& (2147483647 : Int32)) % (6 : Int32)) = (1 : Int32)) with c20 | c20
    · obtain ⟨T21, X21, e21, st21⟩ := getS2 X0 hx hZ hown (host := "") (Or.inl (own_w hw 27 rfl)) Via.refl e0 (S_CONNECTION_START_OK.ext O0.2) (g := (mkF m 26 #[.val (.int p1), .val (.int ((p1 &&& (2147483647 : Int32)) % (6 : Int32))), .unset, .unset, .unset, .unset, .unset] [])) rfl (hb hby at_26)
      obtain ⟨cq22, kq22, q22a, q22b, q22c⟩ := isOf hZ e21 (E_m1.ext O0.2)
      obtain ⟨_, _, ⟨T22, L22, k22, n22⟩, -, X22, ⟨Lc22, hQ22, l22, y22, z22⟩, st22⟩ := X21.virtualBack hx (y := (⟨"com/example/ogmios/ogmios/codec/MethodType", "isReceivedByServer", "()Z"⟩ : MethodName)) (z := (⟨"com/example/ogmios/ogmios/codec/MethodType", "isReceivedByServer", "()Z"⟩ : MethodName)) hown (mvT hZ (own_w hw 4 rfl)) (mvT hZ (own_w hw 5 rfl)) (notFace_of_selects (args := #[]) (mvT hZ (own_w hw 7 rfl))) (mvT hZ (own_w hw 7 rfl)) (mvT hZ (own_w hw 6 rfl)) (by decide) (backOf (W := 0) (rm_isr l Z a0 hw [] m1 pS pC h0 n0 O0 F_m1 S_CLIENT) hZ (own_w hw 8 rfl) (own_w hw 2 rfl) (by decide) (by decide)) q22a q22c (g := (mkF m 84 #[.val (.int p1), .val (.int ((p1 &&& (2147483647 : Int32)) % (6 : Int32))), .val (.ref m1), .val (.int (1 : Int32)), .unset, .unset, .unset] [(.ref m1)])) rfl (by rw [hml]; rfl) (Steps.refl _) (argsL := []) (rest := []) (lenOf pd_0 rfl) rfl (by show 2 * 0 + _ ≤ _; exact Nat.le_of_eq rfl) (hb hby at_84) (fun _ _ => ⟨rfl, e21, (by decide : 0 + 0 ≤ _), (by decide : 0 + 0 ≤ _)⟩)
      dsimp only [Pt.U, Pt.locs, Pt.cells, Pt.slots] at X22 l22 y22 z22 st22 hQ22
      subst l22 y22 z22
      rcases hQ22 with ⟨c23, rfl, N24, k25⟩ | ⟨c26, rfl, N27, k28⟩
      · exact absurd c23 (neSC : ¬ (pS = pC))
      · have N29 := Fr.app N0 N27
        obtain ⟨cq30, kq30, q30a, q30b, q30c⟩ := isOf hZ k28 (E_m1.ext O0.2)
        obtain ⟨_, _, ⟨T30, L30, k30, n30⟩, -, X30, ⟨Lc30, hQ30, l30, y30, z30⟩, st30⟩ := X22.virtualBack hx (y := (⟨"com/example/ogmios/ogmios/codec/MethodType", "receiver", "()Lcom/example/ogmios/ogmios/codec/MethodType$Peer;"⟩ : MethodName)) (z := (⟨"com/example/ogmios/ogmios/codec/MethodType", "receiver", "()Lcom/example/ogmios/ogmios/codec/MethodType$Peer;"⟩ : MethodName)) hown (mvT hZ (own_w hw 14 rfl)) (mvT hZ (own_w hw 15 rfl)) (notFace_of_selects (args := #[]) (mvT hZ (own_w hw 17 rfl))) (mvT hZ (own_w hw 17 rfl)) (mvT hZ (own_w hw 16 rfl)) (by decide) (backOf (W := 0) (rm_rec l Z a0 hw [] m1 pS h0 n0 O0 F_m1) hZ (own_w hw 18 rfl) (own_w hw 2 rfl) (by decide) (by decide)) q30a q30c (g := (mkF m 90 #[.val (.int p1), .val (.int ((p1 &&& (2147483647 : Int32)) % (6 : Int32))), .val (.ref m1), .val (.int (1 : Int32)), .val (.int (1 : Int32)), .unset, .unset] [(.ref m1)])) rfl (by rw [hml]; rfl) (Steps.refl _) (argsL := []) (rest := []) (lenOf pd_1 rfl) rfl (by show 2 * 0 + _ ≤ _; exact Nat.le_of_eq rfl) (hb hby at_90) (fun _ _ => ⟨rfl, k28, (by decide : 0 + 0 ≤ _), (by decide : 0 + 0 ≤ _)⟩)
        dsimp only [Pt.U, Pt.locs, Pt.cells, Pt.slots] at X30 l30 y30 z30 st30 hQ30
        subst l30 y30 z30
        obtain ⟨rfl, N31, k32⟩ := hQ30
        have N33 := Fr.app N29 N31
        obtain ⟨T34, X34, e34, st34⟩ := getS2 X30 hx hZ hown (host := "") (Or.inl (own_w hw 19 rfl)) Via.refl k32 (S_SERVER.ext O0.2) (g := (mkF m 97 #[.val (.int p1), .val (.int ((p1 &&& (2147483647 : Int32)) % (6 : Int32))), .val (.ref m1), .val (.int (1 : Int32)), .val (.int (1 : Int32)), .val (.ref pS), .unset] [(.ref pS)])) rfl (hb hby at_97)
        have S35 : ∀ t, Steps p.tables e below (T34.setTop (mkF m 136 #[.val (.int p1), .val (.int ((p1 &&& (2147483647 : Int32)) % (6 : Int32))), .val (.ref m1), .val (.int (1 : Int32)), .val (.int (1 : Int32)), .val (.ref pS), .val (.int (1 : Int32))] [(.int (1 : Int32))])) t → Steps p.tables e below (s₁.setTop (mkF m 0 #[.val (.int p1), .unset, .unset, .unset, .unset, .unset, .unset] [])) t := by
          intro t kt
          refine S19 t ?_
          refine XS.icmpNo X0.here hx rfl (hb hby at_23) rfl (teq (c20 : ((p1 &&& (2147483647 : Int32)) % (6 : Int32)) = (1 : Int32))).2 ?_
          show Steps p.tables e below (s₁.setTop (mkF m 26 #[.val (.int p1), .val (.int ((p1 &&& (2147483647 : Int32)) % (6 : Int32))), .unset, .unset, .unset, .unset, .unset] [])) _
          refine st21 _ ?_
          refine XS.astoreN X21.here hx rfl (hb hby at_29) rfl rfl (l' := #[.val (.int p1), .val (.int ((p1 &&& (2147483647 : Int32)) % (6 : Int32))), .val (.ref m1), .unset, .unset, .unset, .unset]) rfl ?_
          refine XS.iconst X21.here hx rfl (hb hby at_30) ?_
          refine XS.istoreN X21.here hx rfl (hb hby at_31) rfl (l' := #[.val (.int p1), .val (.int ((p1 &&& (2147483647 : Int32)) % (6 : Int32))), .val (.ref m1), .val (.int (1 : Int32)), .unset, .unset, .unset]) rfl ?_
          refine XS.goto X21.here hx rfl (pc0 := 32) (pc' := 83) rfl (hb hby at_32) (by decide) (by decide) ?_
          refine XS.aloadN X21.here hx rfl (hb hby at_83) rfl rfl ?_
          show Steps p.tables e below (T21.setTop (mkF m 84 #[.val (.int p1), .val (.int ((p1 &&& (2147483647 : Int32)) % (6 : Int32))), .val (.ref m1), .val (.int (1 : Int32)), .unset, .unset, .unset] [(.ref m1)])) _
          refine st22.trans ?_
          refine XS.istore X22.here hx rfl (hb hby at_87) rfl (l' := #[.val (.int p1), .val (.int ((p1 &&& (2147483647 : Int32)) % (6 : Int32))), .val (.ref m1), .val (.int (1 : Int32)), .val (.int (1 : Int32)), .unset, .unset]) rfl ?_
          refine XS.aloadN X22.here hx rfl (hb hby at_89) rfl rfl ?_
          show Steps p.tables e below (T22.setTop (mkF m 90 #[.val (.int p1), .val (.int ((p1 &&& (2147483647 : Int32)) % (6 : Int32))), .val (.ref m1), .val (.int (1 : Int32)), .val (.int (1 : Int32)), .unset, .unset] [(.ref m1)])) _
          refine st30.trans ?_
          refine XS.astore X30.here hx rfl (hb hby at_93) rfl rfl (l' := #[.val (.int p1), .val (.int ((p1 &&& (2147483647 : Int32)) % (6 : Int32))), .val (.ref m1), .val (.int (1 : Int32)), .val (.int (1 : Int32)), .val (.ref pS), .unset]) rfl ?_
          refine XS.aload X30.here hx rfl (hb hby at_95) rfl rfl ?_
          show Steps p.tables e below (T30.setTop (mkF m 97 #[.val (.int p1), .val (.int ((p1 &&& (2147483647 : Int32)) % (6 : Int32))), .val (.ref m1), .val (.int (1 : Int32)), .val (.int (1 : Int32)), .val (.ref pS), .unset] [(.ref pS)])) _
          refine st34 _ ?_
          show Steps p.tables e below (T34.setTop (mkF m 100 #[.val (.int p1), .val (.int ((p1 &&& (2147483647 : Int32)) % (6 : Int32))), .val (.ref m1), .val (.int (1 : Int32)), .val (.int (1 : Int32)), .val (.ref pS), .unset] [(.ref pS), (.ref pS)])) _
          refine Jvm.RoadKit.acmp (g := (mkF m 100 #[.val (.int p1), .val (.int ((p1 &&& (2147483647 : Int32)) % (6 : Int32))), .val (.ref m1), .val (.int (1 : Int32)), .val (.int (1 : Int32)), .val (.ref pS), .unset] [(.ref pS), (.ref pS)])) X34 hx rfl rfl rfl (pc0 := 100) (pc' := 111) (same := true) rfl (hb hby at_100) rfl (decide_eq_true rfl) (by decide) (by decide) ?_
          refine XS.iconst X34.here hx rfl (hb hby at_111) ?_
          refine XS.goto X34.here hx rfl (pc0 := 112) (pc' := 116) rfl (hb hby at_112) (by decide) (by decide) ?_
          refine XS.istore X34.here hx rfl (hb hby at_116) rfl (l' := #[.val (.int p1), .val (.int ((p1 &&& (2147483647 : Int32)) % (6 : Int32))), .val (.ref m1), .val (.int (1 : Int32)), .val (.int (1 : Int32)), .val (.ref pS), .val (.int (1 : Int32))]) rfl ?_
          refine XS.iload X34.here hx rfl (hb hby at_118) rfl ?_
          refine XS.iloadN X34.here hx rfl (hb hby at_120) rfl ?_
          show Steps p.tables e below (T34.setTop (mkF m 121 #[.val (.int p1), .val (.int ((p1 &&& (2147483647 : Int32)) % (6 : Int32))), .val (.ref m1), .val (.int (1 : Int32)), .val (.int (1 : Int32)), .val (.ref pS), .val (.int (1 : Int32))] [(.int (1 : Int32)), (.int (1 : Int32))])) _
          refine XS.icmpNo X34.here hx rfl (hb hby at_121) rfl (teq ((by decide) : (1 : Int32) = (1 : Int32))).2 ?_
          refine XS.iload X34.here hx rfl (hb hby at_124) rfl ?_
          refine XS.iload X34.here hx rfl (hb hby at_126) rfl ?_
          refine XS.icmpNo X34.here hx rfl (hb hby at_128) rfl (teq ((by decide) : (1 : Int32) = (1 : Int32))).2 ?_
          refine XS.iconst X34.here hx rfl (hb hby at_131) ?_
          refine XS.goto X34.here hx rfl (pc0 := 132) (pc' := 136) rfl (hb hby at_132) (by decide) (by decide) ?_
          exact kt
        obtain ⟨fs, hr, hrun, hended, hW, hsame⟩ := X34.leave (v := some (.int (1 : Int32))) (fun h => by rw [Bd.returns] at h; cases h)
        refine ⟨_, _, pre0 _ (S35 _ ?_), hrun, hended, _, _, rfl, ?_, ⟨_, rfl⟩, hW, hsame.mono (by decide) (by decide)⟩
        · exact retN X34 hx (t := .boolean) Bd.returns (by simp) (hb hby at_136) hr
        · show Q_rm_law Z p1 m0 m1 m2 m3 m4 m5 pC pS pB h0 n0 _ T34.heap _
          rw [e34]
          exact ⟨rfl, N33⟩
    · have S36 : ∀ t, Steps p.tables e below (s₁.setTop (mkF m 37 #[.val (.int p1), .val (.int ((p1 &&& (2147483647 : Int32)) % (6 : Int32))), .unset, .unset, .unset, .unset, .unset] [(.int (2 : Int32)), (.int ((p1 &&& (2147483647 : Int32)) % (6 : Int32)))])) t → Steps p.tables e below (s₁.setTop (mkF m 0 #[.val (.int p1), .unset, .unset, .unset, .unset, .unset, .unset] [])) t := by
        intro t kt
        refine S19 t ?_
        refine XS.icmpYes X0.here hx rfl (pc0 := 23) (pc' := 35) rfl (hb hby at_23) rfl (feq (c20 : ¬ (((p1 &&& (2147483647 : Int32)) % (6 : Int32)) = (1 : Int32)))).2 (by decide) (by decide) ?_
        refine XS.iloadN X0.here hx rfl (hb hby at_35) rfl ?_
        refine XS.iconst X0.here hx rfl (hb hby at_36) ?_
        exact kt
      rcases Decidable.em (((p1 &&& (2147483647 : Int32)) % (6 : Int32)) = (2 : Int32)) with c37 | c37
      · obtain ⟨T38, X38, e38, st38⟩ := getS2 X0 hx hZ hown (host := "") (Or.inl (own_w hw 25 rfl)) Via.refl e0 (S_CONNECTION_CLOSE.ext O0.2) (g := (mkF m 40 #[.val (.int p1), .val (.int ((p1 &&& (2147483647 : Int32)) % (6 : Int32))), .unset, .unset, .unset, .unset, .unset] [])) rfl (hb hby at_40)
        obtain ⟨cq39, kq39, q39a, q39b, q39c⟩ := isOf hZ e38 (E_m2.ext O0.2)
        obtain ⟨_, _, ⟨T39, L39, k39, n39⟩, -, X39, ⟨Lc39, hQ39, l39, y39, z39⟩, st39⟩ := X38.virtualBack hx (y := (⟨"com/example/ogmios/ogmios/codec/MethodType", "isReceivedByServer", "()Z"⟩ : MethodName)) (z := (⟨"com/example/ogmios/ogmios/codec/MethodType", "isReceivedByServer", "()Z"⟩ : MethodName)) hown (mvT hZ (own_w hw 4 rfl)) (mvT hZ (own_w hw 5 rfl)) (notFace_of_selects (args := #[]) (mvT hZ (own_w hw 7 rfl))) (mvT hZ (own_w hw 7 rfl)) (mvT hZ (own_w hw 6 rfl)) (by decide) (backOf (W := 0) (rm_isr l Z a0 hw [] m2 pB pC h0 n0 O0 F_m2 S_CLIENT) hZ (own_w hw 8 rfl) (own_w hw 2 rfl) (by decide) (by decide)) q39a q39c (g := (mkF m 84 #[.val (.int p1), .val (.int ((p1 &&& (2147483647 : Int32)) % (6 : Int32))), .val (.ref m2), .val (.int (1 : Int32)), .unset, .unset, .unset] [(.ref m2)])) rfl (by rw [hml]; rfl) (Steps.refl _) (argsL := []) (rest := []) (lenOf pd_0 rfl) rfl (by show 2 * 0 + _ ≤ _; exact Nat.le_of_eq rfl) (hb hby at_84) (fun _ _ => ⟨rfl, e38, (by decide : 0 + 0 ≤ _), (by decide : 0 + 0 ≤ _)⟩)
        dsimp only [Pt.U, Pt.locs, Pt.cells, Pt.slots] at X39 l39 y39 z39 st39 hQ39
        subst l39 y39 z39
        rcases hQ39 with ⟨c40, rfl, N41, k42⟩ | ⟨c43, rfl, N44, k45⟩
        · exact absurd c40 (neBC : ¬ (pB = pC))
        · have N46 := Fr.app N0 N44
          obtain ⟨cq47, kq47, q47a, q47b, q47c⟩ := isOf hZ k45 (E_m2.ext O0.2)
          obtain ⟨_, _, ⟨T47, L47, k47, n47⟩, -, X47, ⟨Lc47, hQ47, l47, y47, z47⟩, st47⟩ := X39.virtualBack hx (y := (⟨"com/example/ogmios/ogmios/codec/MethodType", "receiver", "()Lcom/example/ogmios/ogmios/codec/MethodType$Peer;"⟩ : MethodName)) (z := (⟨"com/example/ogmios/ogmios/codec/MethodType", "receiver", "()Lcom/example/ogmios/ogmios/codec/MethodType$Peer;"⟩ : MethodName)) hown (mvT hZ (own_w hw 14 rfl)) (mvT hZ (own_w hw 15 rfl)) (notFace_of_selects (args := #[]) (mvT hZ (own_w hw 17 rfl))) (mvT hZ (own_w hw 17 rfl)) (mvT hZ (own_w hw 16 rfl)) (by decide) (backOf (W := 0) (rm_rec l Z a0 hw [] m2 pB h0 n0 O0 F_m2) hZ (own_w hw 18 rfl) (own_w hw 2 rfl) (by decide) (by decide)) q47a q47c (g := (mkF m 90 #[.val (.int p1), .val (.int ((p1 &&& (2147483647 : Int32)) % (6 : Int32))), .val (.ref m2), .val (.int (1 : Int32)), .val (.int (1 : Int32)), .unset, .unset] [(.ref m2)])) rfl (by rw [hml]; rfl) (Steps.refl _) (argsL := []) (rest := []) (lenOf pd_1 rfl) rfl (by show 2 * 0 + _ ≤ _; exact Nat.le_of_eq rfl) (hb hby at_90) (fun _ _ => ⟨rfl, k45, (by decide : 0 + 0 ≤ _), (by decide : 0 + 0 ≤ _)⟩)
          dsimp only [Pt.U, Pt.locs, Pt.cells, Pt.slots] at X47 l47 y47 z47 st47 hQ47
          subst l47 y47 z47
          obtain ⟨rfl, N48, k49⟩ := hQ47
          have N50 := Fr.app N46 N48
          obtain ⟨T51, X51, e51, st51⟩ := getS2 X47 hx hZ hown (host := "") (Or.inl (own_w hw 19 rfl)) Via.refl k49 (S_SERVER.ext O0.2) (g := (mkF m 97 #[.val (.int p1), .val (.int ((p1 &&& (2147483647 : Int32)) % (6 : Int32))), .val (.ref m2), .val (.int (1 : Int32)), .val (.int (1 : Int32)), .val (.ref pB), .unset] [(.ref pB)])) rfl (hb hby at_97)
          obtain ⟨T52, X52, e52, st52⟩ := getS2 X51 hx hZ hown (host := "") (Or.inl (own_w hw 21 rfl)) Via.refl e51 (S_BOTH.ext O0.2) (g := (mkF m 105 #[.val (.int p1), .val (.int ((p1 &&& (2147483647 : Int32)) % (6 : Int32))), .val (.ref m2), .val (.int (1 : Int32)), .val (.int (1 : Int32)), .val (.ref pB), .unset] [(.ref pB)])) rfl (hb hby at_105)
          have S53 : ∀ t, Steps p.tables e below (T52.setTop (mkF m 136 #[.val (.int p1), .val (.int ((p1 &&& (2147483647 : Int32)) % (6 : Int32))), .val (.ref m2), .val (.int (1 : Int32)), .val (.int (1 : Int32)), .val (.ref pB), .val (.int (1 : Int32))] [(.int (1 : Int32))])) t → Steps p.tables e below (s₁.setTop (mkF m 0 #[.val (.int p1), .unset, .unset, .unset, .unset, .unset, .unset] [])) t := by
            intro t kt
            refine S36 t ?_
            refine XS.icmpNo X0.here hx rfl (hb hby at_37) rfl (teq (c37 : ((p1 &&& (2147483647 : Int32)) % (6 : Int32)) = (2 : Int32))).2 ?_
            show Steps p.tables e below (s₁.setTop (mkF m 40 #[.val (.int p1), .val (.int ((p1 &&& (2147483647 : Int32)) % (6 : Int32))), .unset, .unset, .unset, .unset, .unset] [])) _
            refine st38 _ ?_
            refine XS.astoreN X38.here hx rfl (hb hby at_43) rfl rfl (l' := #[.val (.int p1), .val (.int ((p1 &&& (2147483647 : Int32)) % (6 : Int32))), .val (.ref m2), .unset, .unset, .unset, .unset]) rfl ?_
            refine XS.iconst X38.here hx rfl (hb hby at_44) ?_
            refine XS.istoreN X38.here hx rfl (hb hby at_45) rfl (l' := #[.val (.int p1), .val (.int ((p1 &&& (2147483647 : Int32)) % (6 : Int32))), .val (.ref m2), .val (.int (1 : Int32)), .unset, .unset, .unset]) rfl ?_
            refine XS.goto X38.here hx rfl (pc0 := 46) (pc' := 83) rfl (hb hby at_46) (by decide) (by decide) ?_
            refine XS.aloadN X38.here hx rfl (hb hby at_83) rfl rfl ?_
            show Steps p.tables e below (T38.setTop (mkF m 84 #[.val (.int p1), .val (.int ((p1 &&& (2147483647 : Int32)) % (6 : Int32))), .val (.ref m2), .val (.int (1 : Int32)), .unset, .unset, .unset] [(.ref m2)])) _
            refine st39.trans ?_
            refine XS.istore X39.here hx rfl (hb hby at_87) rfl (l' := #[.val (.int p1), .val (.int ((p1 &&& (2147483647 : Int32)) % (6 : Int32))), .val (.ref m2), .val (.int (1 : Int32)), .val (.int (1 : Int32)), .unset, .unset]) rfl ?_
            refine XS.aloadN X39.here hx rfl (hb hby at_89) rfl rfl ?_
            show Steps p.tables e below (T39.setTop (mkF m 90 #[.val (.int p1), .val (.int ((p1 &&& (2147483647 : Int32)) % (6 : Int32))), .val (.ref m2), .val (.int (1 : Int32)), .val (.int (1 : Int32)), .unset, .unset] [(.ref m2)])) _
            refine st47.trans ?_
            refine XS.astore X47.here hx rfl (hb hby at_93) rfl rfl (l' := #[.val (.int p1), .val (.int ((p1 &&& (2147483647 : Int32)) % (6 : Int32))), .val (.ref m2), .val (.int (1 : Int32)), .val (.int (1 : Int32)), .val (.ref pB), .unset]) rfl ?_
            refine XS.aload X47.here hx rfl (hb hby at_95) rfl rfl ?_
            show Steps p.tables e below (T47.setTop (mkF m 97 #[.val (.int p1), .val (.int ((p1 &&& (2147483647 : Int32)) % (6 : Int32))), .val (.ref m2), .val (.int (1 : Int32)), .val (.int (1 : Int32)), .val (.ref pB), .unset] [(.ref pB)])) _
            refine st51 _ ?_
            show Steps p.tables e below (T51.setTop (mkF m 100 #[.val (.int p1), .val (.int ((p1 &&& (2147483647 : Int32)) % (6 : Int32))), .val (.ref m2), .val (.int (1 : Int32)), .val (.int (1 : Int32)), .val (.ref pB), .unset] [(.ref pS), (.ref pB)])) _
            refine Jvm.RoadKit.acmp (g := (mkF m 100 #[.val (.int p1), .val (.int ((p1 &&& (2147483647 : Int32)) % (6 : Int32))), .val (.ref m2), .val (.int (1 : Int32)), .val (.int (1 : Int32)), .val (.ref pB), .unset] [(.ref pS), (.ref pB)])) X51 hx rfl rfl rfl (pc0 := 100) (pc' := 103) (same := false) rfl (hb hby at_100) rfl (decide_eq_false fun q => neBS (Value.ref.inj q)) (by decide) (by decide) ?_
            refine XS.aload X51.here hx rfl (hb hby at_103) rfl rfl ?_
            show Steps p.tables e below (T51.setTop (mkF m 105 #[.val (.int p1), .val (.int ((p1 &&& (2147483647 : Int32)) % (6 : Int32))), .val (.ref m2), .val (.int (1 : Int32)), .val (.int (1 : Int32)), .val (.ref pB), .unset] [(.ref pB)])) _
            refine st52 _ ?_
            show Steps p.tables e below (T52.setTop (mkF m 108 #[.val (.int p1), .val (.int ((p1 &&& (2147483647 : Int32)) % (6 : Int32))), .val (.ref m2), .val (.int (1 : Int32)), .val (.int (1 : Int32)), .val (.ref pB), .unset] [(.ref pB), (.ref pB)])) _
            refine Jvm.RoadKit.acmp (g := (mkF m 108 #[.val (.int p1), .val (.int ((p1 &&& (2147483647 : Int32)) % (6 : Int32))), .val (.ref m2), .val (.int (1 : Int32)), .val (.int (1 : Int32)), .val (.ref pB), .unset] [(.ref pB), (.ref pB)])) X52 hx rfl rfl rfl (pc0 := 108) (pc' := 111) (same := true) rfl (hb hby at_108) rfl (decide_eq_true rfl) (by decide) (by decide) ?_
            refine XS.iconst X52.here hx rfl (hb hby at_111) ?_
            refine XS.goto X52.here hx rfl (pc0 := 112) (pc' := 116) rfl (hb hby at_112) (by decide) (by decide) ?_
            refine XS.istore X52.here hx rfl (hb hby at_116) rfl (l' := #[.val (.int p1), .val (.int ((p1 &&& (2147483647 : Int32)) % (6 : Int32))), .val (.ref m2), .val (.int (1 : Int32)), .val (.int (1 : Int32)), .val (.ref pB), .val (.int (1 : Int32))]) rfl ?_
            refine XS.iload X52.here hx rfl (hb hby at_118) rfl ?_
            refine XS.iloadN X52.here hx rfl (hb hby at_120) rfl ?_
            show Steps p.tables e below (T52.setTop (mkF m 121 #[.val (.int p1), .val (.int ((p1 &&& (2147483647 : Int32)) % (6 : Int32))), .val (.ref m2), .val (.int (1 : Int32)), .val (.int (1 : Int32)), .val (.ref pB), .val (.int (1 : Int32))] [(.int (1 : Int32)), (.int (1 : Int32))])) _
            refine XS.icmpNo X52.here hx rfl (hb hby at_121) rfl (teq ((by decide) : (1 : Int32) = (1 : Int32))).2 ?_
            refine XS.iload X52.here hx rfl (hb hby at_124) rfl ?_
            refine XS.iload X52.here hx rfl (hb hby at_126) rfl ?_
            refine XS.icmpNo X52.here hx rfl (hb hby at_128) rfl (teq ((by decide) : (1 : Int32) = (1 : Int32))).2 ?_
            refine XS.iconst X52.here hx rfl (hb hby at_131) ?_
            refine XS.goto X52.here hx rfl (pc0 := 132) (pc' := 136) rfl (hb hby at_132) (by decide) (by decide) ?_
            exact kt
          obtain ⟨fs, hr, hrun, hended, hW, hsame⟩ := X52.leave (v := some (.int (1 : Int32))) (fun h => by rw [Bd.returns] at h; cases h)
          refine ⟨_, _, pre0 _ (S53 _ ?_), hrun, hended, _, _, rfl, ?_, ⟨_, rfl⟩, hW, hsame.mono (by decide) (by decide)⟩
          · exact retN X52 hx (t := .boolean) Bd.returns (by simp) (hb hby at_136) hr
          · show Q_rm_law Z p1 m0 m1 m2 m3 m4 m5 pC pS pB h0 n0 _ T52.heap _
            rw [e52]
            exact ⟨rfl, N50⟩
      · have S54 : ∀ t, Steps p.tables e below (s₁.setTop (mkF m 51 #[.val (.int p1), .val (.int ((p1 &&& (2147483647 : Int32)) % (6 : Int32))), .unset, .unset, .unset, .unset, .unset] [(.int (3 : Int32)), (.int ((p1 &&& (2147483647 : Int32)) % (6 : Int32)))])) t → Steps p.tables e below (s₁.setTop (mkF m 0 #[.val (.int p1), .unset, .unset, .unset, .unset, .unset, .unset] [])) t := by
          intro t kt
          refine S36 t ?_
          refine XS.icmpYes X0.here hx rfl (pc0 := 37) (pc' := 49) rfl (hb hby at_37) rfl (feq (c37 : ¬ (((p1 &&& (2147483647 : Int32)) % (6 : Int32)) = (2 : Int32)))).2 (by decide) (by decide) ?_
          refine XS.iloadN X0.here hx rfl (hb hby at_49) rfl ?_
          refine XS.iconst X0.here hx rfl (hb hby at_50) ?_
          exact kt
        rcases Decidable.em (((p1 &&& (2147483647 : Int32)) % (6 : Int32)) = (3 : Int32)) with c55 | c55
        · obtain ⟨T56, X56, e56, st56⟩ := getS2 X0 hx hZ hown (host := "") (Or.inl (own_w hw 23 rfl)) Via.refl e0 (S_BASIC_DELIVER.ext O0.2) (g := (mkF m 54 #[.val (.int p1), .val (.int ((p1 &&& (2147483647 : Int32)) % (6 : Int32))), .unset, .unset, .unset, .unset, .unset] [])) rfl (hb hby at_54)
          obtain ⟨cq57, kq57, q57a, q57b, q57c⟩ := isOf hZ e56 (E_m3.ext O0.2)
          obtain ⟨_, _, ⟨T57, L57, k57, n57⟩, -, X57, ⟨Lc57, hQ57, l57, y57, z57⟩, st57⟩ := X56.virtualBack hx (y := (⟨"com/example/ogmios/ogmios/codec/MethodType", "isReceivedByServer", "()Z"⟩ : MethodName)) (z := (⟨"com/example/ogmios/ogmios/codec/MethodType", "isReceivedByServer", "()Z"⟩ : MethodName)) hown (mvT hZ (own_w hw 4 rfl)) (mvT hZ (own_w hw 5 rfl)) (notFace_of_selects (args := #[]) (mvT hZ (own_w hw 7 rfl))) (mvT hZ (own_w hw 7 rfl)) (mvT hZ (own_w hw 6 rfl)) (by decide) (backOf (W := 0) (rm_isr l Z a0 hw [] m3 pC pC h0 n0 O0 F_m3 S_CLIENT) hZ (own_w hw 8 rfl) (own_w hw 2 rfl) (by decide) (by decide)) q57a q57c (g := (mkF m 84 #[.val (.int p1), .val (.int ((p1 &&& (2147483647 : Int32)) % (6 : Int32))), .val (.ref m3), .val (.int (0 : Int32)), .unset, .unset, .unset] [(.ref m3)])) rfl (by rw [hml]; rfl) (Steps.refl _) (argsL := []) (rest := []) (lenOf pd_0 rfl) rfl (by show 2 * 0 + _ ≤ _; exact Nat.le_of_eq rfl) (hb hby at_84) (fun _ _ => ⟨rfl, e56, (by decide : 0 + 0 ≤ _), (by decide : 0 + 0 ≤ _)⟩)
          dsimp only [Pt.U, Pt.locs, Pt.cells, Pt.slots] at X57 l57 y57 z57 st57 hQ57
          subst l57 y57 z57
          rcases hQ57 with ⟨c58, rfl, N59, k60⟩ | ⟨c61, rfl, N62, k63⟩
          · have N64 := Fr.app N0 N59
            obtain ⟨cq65, kq65, q65a, q65b, q65c⟩ := isOf hZ k60 (E_m3.ext O0.2)
            obtain ⟨_, _, ⟨T65, L65, k65, n65⟩, -, X65, ⟨Lc65, hQ65, l65, y65, z65⟩, st65⟩ := X57.virtualBack hx (y := (⟨"com/example/ogmios/ogmios/codec/MethodType", "receiver", "()Lcom/example/ogmios/ogmios/codec/MethodType$Peer;"⟩ : MethodName)) (z := (⟨"com/example/ogmios/ogmios/codec/MethodType", "receiver", "()Lcom/example/ogmios/ogmios/codec/MethodType$Peer;"⟩ : MethodName)) hown (mvT hZ (own_w hw 14 rfl)) (mvT hZ (own_w hw 15 rfl)) (notFace_of_selects (args := #[]) (mvT hZ (own_w hw 17 rfl))) (mvT hZ (own_w hw 17 rfl)) (mvT hZ (own_w hw 16 rfl)) (by decide) (backOf (W := 0) (rm_rec l Z a0 hw [] m3 pC h0 n0 O0 F_m3) hZ (own_w hw 18 rfl) (own_w hw 2 rfl) (by decide) (by decide)) q65a q65c (g := (mkF m 90 #[.val (.int p1), .val (.int ((p1 &&& (2147483647 : Int32)) % (6 : Int32))), .val (.ref m3), .val (.int (0 : Int32)), .val (.int (0 : Int32)), .unset, .unset] [(.ref m3)])) rfl (by rw [hml]; rfl) (Steps.refl _) (argsL := []) (rest := []) (lenOf pd_1 rfl) rfl (by show 2 * 0 + _ ≤ _; exact Nat.le_of_eq rfl) (hb hby at_90) (fun _ _ => ⟨rfl, k60, (by decide : 0 + 0 ≤ _), (by decide : 0 + 0 ≤ _)⟩)
            dsimp only [Pt.U, Pt.locs, Pt.cells, Pt.slots] at X65 l65 y65 z65 st65 hQ65
            subst l65 y65 z65
            obtain ⟨rfl, N66, k67⟩ := hQ65
            have N68 := Fr.app N64 N66
            obtain ⟨T69, X69, e69, st69⟩ := getS2 X65 hx hZ hown (host := "") (Or.inl (own_w hw 19 rfl)) Via.refl k67 (S_SERVER.ext O0.2) (g := (mkF m 97 #[.val (.int p1), .val (.int ((p1 &&& (2147483647 : Int32)) % (6 : Int32))), .val (.ref m3), .val (.int (0 : Int32)), .val (.int (0 : Int32)), .val (.ref pC), .unset] [(.ref pC)])) rfl (hb hby at_97)
            obtain ⟨T70, X70, e70, st70⟩ := getS2 X69 hx hZ hown (host := "") (Or.inl (own_w hw 21 rfl)) Via.refl e69 (S_BOTH.ext O0.2) (g := (mkF m 105 #[.val (.int p1), .val (.int ((p1 &&& (2147483647 : Int32)) % (6 : Int32))), .val (.ref m3), .val (.int (0 : Int32)), .val (.int (0 : Int32)), .val (.ref pC), .unset] [(.ref pC)])) rfl (hb hby at_105)
            have S71 : ∀ t, Steps p.tables e below (T70.setTop (mkF m 136 #[.val (.int p1), .val (.int ((p1 &&& (2147483647 : Int32)) % (6 : Int32))), .val (.ref m3), .val (.int (0 : Int32)), .val (.int (0 : Int32)), .val (.ref pC), .val (.int (0 : Int32))] [(.int (1 : Int32))])) t → Steps p.tables e below (s₁.setTop (mkF m 0 #[.val (.int p1), .unset, .unset, .unset, .unset, .unset, .unset] [])) t := by
              intro t kt
              refine S54 t ?_
              refine XS.icmpNo X0.here hx rfl (hb hby at_51) rfl (teq (c55 : ((p1 &&& (2147483647 : Int32)) % (6 : Int32)) = (3 : Int32))).2 ?_
              show Steps p.tables e below (s₁.setTop (mkF m 54 #[.val (.int p1), .val (.int ((p1 &&& (2147483647 : Int32)) % (6 : Int32))), .unset, .unset, .unset, .unset, .unset] [])) _
              refine st56 _ ?_
              refine XS.astoreN X56.here hx rfl (hb hby at_57) rfl rfl (l' := #[.val (.int p1), .val (.int ((p1 &&& (2147483647 : Int32)) % (6 : Int32))), .val (.ref m3), .unset, .unset, .unset, .unset]) rfl ?_
              refine XS.iconst X56.here hx rfl (hb hby at_58) ?_
              refine XS.istoreN X56.here hx rfl (hb hby at_59) rfl (l' := #[.val (.int p1), .val (.int ((p1 &&& (2147483647 : Int32)) % (6 : Int32))), .val (.ref m3), .val (.int (0 : Int32)), .unset, .unset, .unset]) rfl ?_
              refine XS.goto X56.here hx rfl (pc0 := 60) (pc' := 83) rfl (hb hby at_60) (by decide) (by decide) ?_
              refine XS.aloadN X56.here hx rfl (hb hby at_83) rfl rfl ?_
              show Steps p.tables e below (T56.setTop (mkF m 84 #[.val (.int p1), .val (.int ((p1 &&& (2147483647 : Int32)) % (6 : Int32))), .val (.ref m3), .val (.int (0 : Int32)), .unset, .unset, .unset] [(.ref m3)])) _
              refine st57.trans ?_
              refine XS.istore X57.here hx rfl (hb hby at_87) rfl (l' := #[.val (.int p1), .val (.int ((p1 &&& (2147483647 : Int32)) % (6 : Int32))), .val (.ref m3), .val (.int (0 : Int32)), .val (.int (0 : Int32)), .unset, .unset]) rfl ?_
              refine XS.aloadN X57.here hx rfl (hb hby at_89) rfl rfl ?_
              show Steps p.tables e below (T57.setTop (mkF m 90 #[.val (.int p1), .val (.int ((p1 &&& (2147483647 : Int32)) % (6 : Int32))), .val (.ref m3), .val (.int (0 : Int32)), .val (.int (0 : Int32)), .unset, .unset] [(.ref m3)])) _
              refine st65.trans ?_
              refine XS.astore X65.here hx rfl (hb hby at_93) rfl rfl (l' := #[.val (.int p1), .val (.int ((p1 &&& (2147483647 : Int32)) % (6 : Int32))), .val (.ref m3), .val (.int (0 : Int32)), .val (.int (0 : Int32)), .val (.ref pC), .unset]) rfl ?_
              refine XS.aload X65.here hx rfl (hb hby at_95) rfl rfl ?_
              show Steps p.tables e below (T65.setTop (mkF m 97 #[.val (.int p1), .val (.int ((p1 &&& (2147483647 : Int32)) % (6 : Int32))), .val (.ref m3), .val (.int (0 : Int32)), .val (.int (0 : Int32)), .val (.ref pC), .unset] [(.ref pC)])) _
              refine st69 _ ?_
              show Steps p.tables e below (T69.setTop (mkF m 100 #[.val (.int p1), .val (.int ((p1 &&& (2147483647 : Int32)) % (6 : Int32))), .val (.ref m3), .val (.int (0 : Int32)), .val (.int (0 : Int32)), .val (.ref pC), .unset] [(.ref pS), (.ref pC)])) _
              refine Jvm.RoadKit.acmp (g := (mkF m 100 #[.val (.int p1), .val (.int ((p1 &&& (2147483647 : Int32)) % (6 : Int32))), .val (.ref m3), .val (.int (0 : Int32)), .val (.int (0 : Int32)), .val (.ref pC), .unset] [(.ref pS), (.ref pC)])) X69 hx rfl rfl rfl (pc0 := 100) (pc' := 103) (same := false) rfl (hb hby at_100) rfl (decide_eq_false fun q => (Ne.symm neSC) (Value.ref.inj q)) (by decide) (by decide) ?_
              refine XS.aload X69.here hx rfl (hb hby at_103) rfl rfl ?_
              show Steps p.tables e below (T69.setTop (mkF m 105 #[.val (.int p1), .val (.int ((p1 &&& (2147483647 : Int32)) % (6 : Int32))), .val (.ref m3), .val (.int (0 : Int32)), .val (.int (0 : Int32)), .val (.ref pC), .unset] [(.ref pC)])) _
              refine st70 _ ?_
              show Steps p.tables e below (T70.setTop (mkF m 108 #[.val (.int p1), .val (.int ((p1 &&& (2147483647 : Int32)) % (6 : Int32))), .val (.ref m3), .val (.int (0 : Int32)), .val (.int (0 : Int32)), .val (.ref pC), .unset] [(.ref pB), (.ref pC)])) _
              refine Jvm.RoadKit.acmp (g := (mkF m 108 #[.val (.int p1), .val (.int ((p1 &&& (2147483647 : Int32)) % (6 : Int32))), .val (.ref m3), .val (.int (0 : Int32)), .val (.int (0 : Int32)), .val (.ref pC), .unset] [(.ref pB), (.ref pC)])) X70 hx rfl rfl rfl (pc0 := 108) (pc' := 115) (same := false) rfl (hb hby at_108) rfl (decide_eq_false fun q => (Ne.symm neBC) (Value.ref.inj q)) (by decide) (by decide) ?_
              refine XS.iconst X70.here hx rfl (hb hby at_115) ?_
              refine XS.istore X70.here hx rfl (hb hby at_116) rfl (l' := #[.val (.int p1), .val (.int ((p1 &&& (2147483647 : Int32)) % (6 : Int32))), .val (.ref m3), .val (.int (0 : Int32)), .val (.int (0 : Int32)), .val (.ref pC), .val (.int (0 : Int32))]) rfl ?_
              refine XS.iload X70.here hx rfl (hb hby at_118) rfl ?_
              refine XS.iloadN X70.here hx rfl (hb hby at_120) rfl ?_
              refine XS.icmpNo X70.here hx rfl (hb hby at_121) rfl (teq ((by decide) : (0 : Int32) = (0 : Int32))).2 ?_
              show Steps p.tables e below (T70.setTop (mkF m 124 #[.val (.int p1), .val (.int ((p1 &&& (2147483647 : Int32)) % (6 : Int32))), .val (.ref m3), .val (.int (0 : Int32)), .val (.int (0 : Int32)), .val (.ref pC), .val (.int (0 : Int32))] [])) _
              refine XS.iload X70.here hx rfl (hb hby at_124) rfl ?_
              refine XS.iload X70.here hx rfl (hb hby at_126) rfl ?_
              refine XS.icmpNo X70.here hx rfl (hb hby at_128) rfl (teq ((by decide) : (0 : Int32) = (0 : Int32))).2 ?_
              refine XS.iconst X70.here hx rfl (hb hby at_131) ?_
              refine XS.goto X70.here hx rfl (pc0 := 132) (pc' := 136) rfl (hb hby at_132) (by decide) (by decide) ?_
              exact kt
            obtain ⟨fs, hr, hrun, hended, hW, hsame⟩ := X70.leave (v := some (.int (1 : Int32))) (fun h => by rw [Bd.returns] at h; cases h)
            refine ⟨_, _, pre0 _ (S71 _ ?_), hrun, hended, _, _, rfl, ?_, ⟨_, rfl⟩, hW, hsame.mono (by decide) (by decide)⟩
            · exact retN X70 hx (t := .boolean) Bd.returns (by simp) (hb hby at_136) hr
            · show Q_rm_law Z p1 m0 m1 m2 m3 m4 m5 pC pS pB h0 n0 _ T70.heap _
              rw [e70]
              exact ⟨rfl, N68⟩
          · exact absurd (rfl : pC = pC) c61
        · have S72 : ∀ t, Steps p.tables e below (s₁.setTop (mkF m 65 #[.val (.int p1), .val (.int ((p1 &&& (2147483647 : Int32)) % (6 : Int32))), .unset, .unset, .unset, .unset, .unset] [(.int (4 : Int32)), (.int ((p1 &&& (2147483647 : Int32)) % (6 : Int32)))])) t → Steps p.tables e below (s₁.setTop (mkF m 0 #[.val (.int p1), .unset, .unset, .unset, .unset, .unset, .unset] [])) t := by
            intro t kt
            refine S54 t ?_
            refine XS.icmpYes X0.here hx rfl (pc0 := 51) (pc' := 63) rfl (hb hby at_51) rfl (feq (c55 : ¬ (((p1 &&& (2147483647 : Int32)) % (6 : Int32)) = (3 : Int32)))).2 (by decide) (by decide) ?_
            refine XS.iloadN X0.here hx rfl (hb hby at_63) rfl ?_
            refine XS.iconst X0.here hx rfl (hb hby at_64) ?_
            exact kt
          rcases Decidable.em (((p1 &&& (2147483647 : Int32)) % (6 : Int32)) = (4 : Int32)) with c73 | c73
          · obtain ⟨T74, X74, e74, st74⟩ := getS2 X0 hx hZ hown (host := "") (Or.inl (own_w hw 31 rfl)) Via.refl e0 (S_BASIC_PUBLISH.ext O0.2) (g := (mkF m 68 #[.val (.int p1), .val (.int ((p1 &&& (2147483647 : Int32)) % (6 : Int32))), .unset, .unset, .unset, .unset, .unset] [])) rfl (hb hby at_68)
            obtain ⟨cq75, kq75, q75a, q75b, q75c⟩ := isOf hZ e74 (E_m4.ext O0.2)
            obtain ⟨_, _, ⟨T75, L75, k75, n75⟩, -, X75, ⟨Lc75, hQ75, l75, y75, z75⟩, st75⟩ := X74.virtualBack hx (y := (⟨"com/example/ogmios/ogmios/codec/MethodType", "isReceivedByServer", "()Z"⟩ : MethodName)) (z := (⟨"com/example/ogmios/ogmios/codec/MethodType", "isReceivedByServer", "()Z"⟩ : MethodName)) hown (mvT hZ (own_w hw 4 rfl)) (mvT hZ (own_w hw 5 rfl)) (notFace_of_selects (args := #[]) (mvT hZ (own_w hw 7 rfl))) (mvT hZ (own_w hw 7 rfl)) (mvT hZ (own_w hw 6 rfl)) (by decide) (backOf (W := 0) (rm_isr l Z a0 hw [] m4 pS pC h0 n0 O0 F_m4 S_CLIENT) hZ (own_w hw 8 rfl) (own_w hw 2 rfl) (by decide) (by decide)) q75a q75c (g := (mkF m 84 #[.val (.int p1), .val (.int ((p1 &&& (2147483647 : Int32)) % (6 : Int32))), .val (.ref m4), .val (.int (1 : Int32)), .unset, .unset, .unset] [(.ref m4)])) rfl (by rw [hml]; rfl) (Steps.refl _) (argsL := []) (rest := []) (lenOf pd_0 rfl) rfl (by show 2 * 0 + _ ≤ _; exact Nat.le_of_eq rfl) (hb hby at_84) (fun _ _ => ⟨rfl, e74, (by decide : 0 + 0 ≤ _), (by decide : 0 + 0 ≤ _)⟩)
            dsimp only [Pt.U, Pt.locs, Pt.cells, Pt.slots] at X75 l75 y75 z75 st75 hQ75
            subst l75 y75 z75
            rcases hQ75 with ⟨c76, rfl, N77, k78⟩ | ⟨c79, rfl, N80, k81⟩
            · exact absurd c76 (neSC : ¬ (pS = pC))
            · have N82 := Fr.app N0 N80
              obtain ⟨cq83, kq83, q83a, q83b, q83c⟩ := isOf hZ k81 (E_m4.ext O0.2)
              obtain ⟨_, _, ⟨T83, L83, k83, n83⟩, -, X83, ⟨Lc83, hQ83, l83, y83, z83⟩, st83⟩ := X75.virtualBack hx (y := (⟨"com/example/ogmios/ogmios/codec/MethodType", "receiver", "()Lcom/example/ogmios/ogmios/codec/MethodType$Peer;"⟩ : MethodName)) (z := (⟨"com/example/ogmios/ogmios/codec/MethodType", "receiver", "()Lcom/example/ogmios/ogmios/codec/MethodType$Peer;"⟩ : MethodName)) hown (mvT hZ (own_w hw 14 rfl)) (mvT hZ (own_w hw 15 rfl)) (notFace_of_selects (args := #[]) (mvT hZ (own_w hw 17 rfl))) (mvT hZ (own_w hw 17 rfl)) (mvT hZ (own_w hw 16 rfl)) (by decide) (backOf (W := 0) (rm_rec l Z a0 hw [] m4 pS h0 n0 O0 F_m4) hZ (own_w hw 18 rfl) (own_w hw 2 rfl) (by decide) (by decide)) q83a q83c (g := (mkF m 90 #[.val (.int p1), .val (.int ((p1 &&& (2147483647 : Int32)) % (6 : Int32))), .val (.ref m4), .val (.int (1 : Int32)), .val (.int (1 : Int32)), .unset, .unset] [(.ref m4)])) rfl (by rw [hml]; rfl) (Steps.refl _) (argsL := []) (rest := []) (lenOf pd_1 rfl) rfl (by show 2 * 0 + _ ≤ _; exact Nat.le_of_eq rfl) (hb hby at_90) (fun _ _ => ⟨rfl, k81, (by decide : 0 + 0 ≤ _), (by decide : 0 + 0 ≤ _)⟩)
              dsimp only [Pt.U, Pt.locs, Pt.cells, Pt.slots] at X83 l83 y83 z83 st83 hQ83
              subst l83 y83 z83
              obtain ⟨rfl, N84, k85⟩ := hQ83
              have N86 := Fr.app N82 N84
              obtain ⟨T87, X87, e87, st87⟩ := getS2 X83 hx hZ hown (host := "") (Or.inl (own_w hw 19 rfl)) Via.refl k85 (S_SERVER.ext O0.2) (g := (mkF m 97 #[.val (.int p1), .val (.int ((p1 &&& (2147483647 : Int32)) % (6 : Int32))), .val (.ref m4), .val (.int (1 : Int32)), .val (.int (1 : Int32)), .val (.ref pS), .unset] [(.ref pS)])) rfl (hb hby at_97)
              have S88 : ∀ t, Steps p.tables e below (T87.setTop (mkF m 136 #[.val (.int p1), .val (.int ((p1 &&& (2147483647 : Int32)) % (6 : Int32))), .val (.ref m4), .val (.int (1 : Int32)), .val (.int (1 : Int32)), .val (.ref pS), .val (.int (1 : Int32))] [(.int (1 : Int32))])) t → Steps p.tables e below (s₁.setTop (mkF m 0 #[.val (.int p1), .unset, .unset, .unset, .unset, .unset, .unset] [])) t := by
                intro t kt
                refine S72 t ?_
                refine XS.icmpNo X0.here hx rfl (hb hby at_65) rfl (teq (c73 : ((p1 &&& (2147483647 : Int32)) % (6 : Int32)) = (4 : Int32))).2 ?_
                show Steps p.tables e below (s₁.setTop (mkF m 68 #[.val (.int p1), .val (.int ((p1 &&& (2147483647 : Int32)) % (6 : Int32))), .unset, .unset, .unset, .unset, .unset] [])) _
                refine st74 _ ?_
                refine XS.astoreN X74.here hx rfl (hb hby at_71) rfl rfl (l' := #[.val (.int p1), .val (.int ((p1 &&& (2147483647 : Int32)) % (6 : Int32))), .val (.ref m4), .unset, .unset, .unset, .unset]) rfl ?_
                refine XS.iconst X74.here hx rfl (hb hby at_72) ?_
                refine XS.istoreN X74.here hx rfl (hb hby at_73) rfl (l' := #[.val (.int p1), .val (.int ((p1 &&& (2147483647 : Int32)) % (6 : Int32))), .val (.ref m4), .val (.int (1 : Int32)), .unset, .unset, .unset]) rfl ?_
                refine XS.goto X74.here hx rfl (pc0 := 74) (pc' := 83) rfl (hb hby at_74) (by decide) (by decide) ?_
                refine XS.aloadN X74.here hx rfl (hb hby at_83) rfl rfl ?_
                show Steps p.tables e below (T74.setTop (mkF m 84 #[.val (.int p1), .val (.int ((p1 &&& (2147483647 : Int32)) % (6 : Int32))), .val (.ref m4), .val (.int (1 : Int32)), .unset, .unset, .unset] [(.ref m4)])) _
                refine st75.trans ?_
                refine XS.istore X75.here hx rfl (hb hby at_87) rfl (l' := #[.val (.int p1), .val (.int ((p1 &&& (2147483647 : Int32)) % (6 : Int32))), .val (.ref m4), .val (.int (1 : Int32)), .val (.int (1 : Int32)), .unset, .unset]) rfl ?_
                refine XS.aloadN X75.here hx rfl (hb hby at_89) rfl rfl ?_
                show Steps p.tables e below (T75.setTop (mkF m 90 #[.val (.int p1), .val (.int ((p1 &&& (2147483647 : Int32)) % (6 : Int32))), .val (.ref m4), .val (.int (1 : Int32)), .val (.int (1 : Int32)), .unset, .unset] [(.ref m4)])) _
                refine st83.trans ?_
                refine XS.astore X83.here hx rfl (hb hby at_93) rfl rfl (l' := #[.val (.int p1), .val (.int ((p1 &&& (2147483647 : Int32)) % (6 : Int32))), .val (.ref m4), .val (.int (1 : Int32)), .val (.int (1 : Int32)), .val (.ref pS), .unset]) rfl ?_
                refine XS.aload X83.here hx rfl (hb hby at_95) rfl rfl ?_
                show Steps p.tables e below (T83.setTop (mkF m 97 #[.val (.int p1), .val (.int ((p1 &&& (2147483647 : Int32)) % (6 : Int32))), .val (.ref m4), .val (.int (1 : Int32)), .val (.int (1 : Int32)), .val (.ref pS), .unset] [(.ref pS)])) _
                refine st87 _ ?_
                show Steps p.tables e below (T87.setTop (mkF m 100 #[.val (.int p1), .val (.int ((p1 &&& (2147483647 : Int32)) % (6 : Int32))), .val (.ref m4), .val (.int (1 : Int32)), .val (.int (1 : Int32)), .val (.ref pS), .unset] [(.ref pS), (.ref pS)])) _
                refine Jvm.RoadKit.acmp (g := (mkF m 100 #[.val (.int p1), .val (.int ((p1 &&& (2147483647 : Int32)) % (6 : Int32))), .val (.ref m4), .val (.int (1 : Int32)), .val (.int (1 : Int32)), .val (.ref pS), .unset] [(.ref pS), (.ref pS)])) X87 hx rfl rfl rfl (pc0 := 100) (pc' := 111) (same := true) rfl (hb hby at_100) rfl (decide_eq_true rfl) (by decide) (by decide) ?_
                refine XS.iconst X87.here hx rfl (hb hby at_111) ?_
                refine XS.goto X87.here hx rfl (pc0 := 112) (pc' := 116) rfl (hb hby at_112) (by decide) (by decide) ?_
                refine XS.istore X87.here hx rfl (hb hby at_116) rfl (l' := #[.val (.int p1), .val (.int ((p1 &&& (2147483647 : Int32)) % (6 : Int32))), .val (.ref m4), .val (.int (1 : Int32)), .val (.int (1 : Int32)), .val (.ref pS), .val (.int (1 : Int32))]) rfl ?_
                refine XS.iload X87.here hx rfl (hb hby at_118) rfl ?_
                refine XS.iloadN X87.here hx rfl (hb hby at_120) rfl ?_
                show Steps p.tables e below (T87.setTop (mkF m 121 #[.val (.int p1), .val (.int ((p1 &&& (2147483647 : Int32)) % (6 : Int32))), .val (.ref m4), .val (.int (1 : Int32)), .val (.int (1 : Int32)), .val (.ref pS), .val (.int (1 : Int32))] [(.int (1 : Int32)), (.int (1 : Int32))])) _
                refine XS.icmpNo X87.here hx rfl (hb hby at_121) rfl (teq ((by decide) : (1 : Int32) = (1 : Int32))).2 ?_
                refine XS.iload X87.here hx rfl (hb hby at_124) rfl ?_
                refine XS.iload X87.here hx rfl (hb hby at_126) rfl ?_
                refine XS.icmpNo X87.here hx rfl (hb hby at_128) rfl (teq ((by decide) : (1 : Int32) = (1 : Int32))).2 ?_
                refine XS.iconst X87.here hx rfl (hb hby at_131) ?_
                refine XS.goto X87.here hx rfl (pc0 := 132) (pc' := 136) rfl (hb hby at_132) (by decide) (by decide) ?_
                exact kt
              obtain ⟨fs, hr, hrun, hended, hW, hsame⟩ := X87.leave (v := some (.int (1 : Int32))) (fun h => by rw [Bd.returns] at h; cases h)
              refine ⟨_, _, pre0 _ (S88 _ ?_), hrun, hended, _, _, rfl, ?_, ⟨_, rfl⟩, hW, hsame.mono (by decide) (by decide)⟩
              · exact retN X87 hx (t := .boolean) Bd.returns (by simp) (hb hby at_136) hr
              · show Q_rm_law Z p1 m0 m1 m2 m3 m4 m5 pC pS pB h0 n0 _ T87.heap _
                rw [e87]
                exact ⟨rfl, N86⟩
          · obtain ⟨T89, X89, e89, st89⟩ := getS2 X0 hx hZ hown (host := "") (Or.inl (own_w hw 29 rfl)) Via.refl e0 (S_BASIC_ACK.ext O0.2) (g := (mkF m 77 #[.val (.int p1), .val (.int ((p1 &&& (2147483647 : Int32)) % (6 : Int32))), .unset, .unset, .unset, .unset, .unset] [])) rfl (hb hby at_77)
            obtain ⟨cq90, kq90, q90a, q90b, q90c⟩ := isOf hZ e89 (E_m5.ext O0.2)
            obtain ⟨_, _, ⟨T90, L90, k90, n90⟩, -, X90, ⟨Lc90, hQ90, l90, y90, z90⟩, st90⟩ := X89.virtualBack hx (y := (⟨"com/example/ogmios/ogmios/codec/MethodType", "isReceivedByServer", "()Z"⟩ : MethodName)) (z := (⟨"com/example/ogmios/ogmios/codec/MethodType", "isReceivedByServer", "()Z"⟩ : MethodName)) hown (mvT hZ (own_w hw 4 rfl)) (mvT hZ (own_w hw 5 rfl)) (notFace_of_selects (args := #[]) (mvT hZ (own_w hw 7 rfl))) (mvT hZ (own_w hw 7 rfl)) (mvT hZ (own_w hw 6 rfl)) (by decide) (backOf (W := 0) (rm_isr l Z a0 hw [] m5 pB pC h0 n0 O0 F_m5 S_CLIENT) hZ (own_w hw 8 rfl) (own_w hw 2 rfl) (by decide) (by decide)) q90a q90c (g := (mkF m 84 #[.val (.int p1), .val (.int ((p1 &&& (2147483647 : Int32)) % (6 : Int32))), .val (.ref m5), .val (.int (1 : Int32)), .unset, .unset, .unset] [(.ref m5)])) rfl (by rw [hml]; rfl) (Steps.refl _) (argsL := []) (rest := []) (lenOf pd_0 rfl) rfl (by show 2 * 0 + _ ≤ _; exact Nat.le_of_eq rfl) (hb hby at_84) (fun _ _ => ⟨rfl, e89, (by decide : 0 + 0 ≤ _), (by decide : 0 + 0 ≤ _)⟩)
            dsimp only [Pt.U, Pt.locs, Pt.cells, Pt.slots] at X90 l90 y90 z90 st90 hQ90
            subst l90 y90 z90
            rcases hQ90 with ⟨c91, rfl, N92, k93⟩ | ⟨c94, rfl, N95, k96⟩
            · exact absurd c91 (neBC : ¬ (pB = pC))
            · have N97 := Fr.app N0 N95
              obtain ⟨cq98, kq98, q98a, q98b, q98c⟩ := isOf hZ k96 (E_m5.ext O0.2)
              obtain ⟨_, _, ⟨T98, L98, k98, n98⟩, -, X98, ⟨Lc98, hQ98, l98, y98, z98⟩, st98⟩ := X90.virtualBack hx (y := (⟨"com/example/ogmios/ogmios/codec/MethodType", "receiver", "()Lcom/example/ogmios/ogmios/codec/MethodType$Peer;"⟩ : MethodName)) (z := (⟨"com/example/ogmios/ogmios/codec/MethodType", "receiver", "()Lcom/example/ogmios/ogmios/codec/MethodType$Peer;"⟩ : MethodName)) hown (mvT hZ (own_w hw 14 rfl)) (mvT hZ (own_w hw 15 rfl)) (notFace_of_selects (args := #[]) (mvT hZ (own_w hw 17 rfl))) (mvT hZ (own_w hw 17 rfl)) (mvT hZ (own_w hw 16 rfl)) (by decide) (backOf (W := 0) (rm_rec l Z a0 hw [] m5 pB h0 n0 O0 F_m5) hZ (own_w hw 18 rfl) (own_w hw 2 rfl) (by decide) (by decide)) q98a q98c (g := (mkF m 90 #[.val (.int p1), .val (.int ((p1 &&& (2147483647 : Int32)) % (6 : Int32))), .val (.ref m5), .val (.int (1 : Int32)), .val (.int (1 : Int32)), .unset, .unset] [(.ref m5)])) rfl (by rw [hml]; rfl) (Steps.refl _) (argsL := []) (rest := []) (lenOf pd_1 rfl) rfl (by show 2 * 0 + _ ≤ _; exact Nat.le_of_eq rfl) (hb hby at_90) (fun _ _ => ⟨rfl, k96, (by decide : 0 + 0 ≤ _), (by decide : 0 + 0 ≤ _)⟩)
              dsimp only [Pt.U, Pt.locs, Pt.cells, Pt.slots] at X98 l98 y98 z98 st98 hQ98
              subst l98 y98 z98
              obtain ⟨rfl, N99, k100⟩ := hQ98
              have N101 := Fr.app N97 N99
              obtain ⟨T102, X102, e102, st102⟩ := getS2 X98 hx hZ hown (host := "") (Or.inl (own_w hw 19 rfl)) Via.refl k100 (S_SERVER.ext O0.2) (g := (mkF m 97 #[.val (.int p1), .val (.int ((p1 &&& (2147483647 : Int32)) % (6 : Int32))), .val (.ref m5), .val (.int (1 : Int32)), .val (.int (1 : Int32)), .val (.ref pB), .unset] [(.ref pB)])) rfl (hb hby at_97)
              obtain ⟨T103, X103, e103, st103⟩ := getS2 X102 hx hZ hown (host := "") (Or.inl (own_w hw 21 rfl)) Via.refl e102 (S_BOTH.ext O0.2) (g := (mkF m 105 #[.val (.int p1), .val (.int ((p1 &&& (2147483647 : Int32)) % (6 : Int32))), .val (.ref m5), .val (.int (1 : Int32)), .val (.int (1 : Int32)), .val (.ref pB), .unset] [(.ref pB)])) rfl (hb hby at_105)
              have S104 : ∀ t, Steps p.tables e below (T103.setTop (mkF m 136 #[.val (.int p1), .val (.int ((p1 &&& (2147483647 : Int32)) % (6 : Int32))), .val (.ref m5), .val (.int (1 : Int32)), .val (.int (1 : Int32)), .val (.ref pB), .val (.int (1 : Int32))] [(.int (1 : Int32))])) t → Steps p.tables e below (s₁.setTop (mkF m 0 #[.val (.int p1), .unset, .unset, .unset, .unset, .unset, .unset] [])) t := by
                intro t kt
                refine S72 t ?_
                refine XS.icmpYes X0.here hx rfl (pc0 := 65) (pc' := 77) rfl (hb hby at_65) rfl (feq (c73 : ¬ (((p1 &&& (2147483647 : Int32)) % (6 : Int32)) = (4 : Int32)))).2 (by decide) (by decide) ?_
                show Steps p.tables e below (s₁.setTop (mkF m 77 #[.val (.int p1), .val (.int ((p1 &&& (2147483647 : Int32)) % (6 : Int32))), .unset, .unset, .unset, .unset, .unset] [])) _
                refine st89 _ ?_
                refine XS.astoreN X89.here hx rfl (hb hby at_80) rfl rfl (l' := #[.val (.int p1), .val (.int ((p1 &&& (2147483647 : Int32)) % (6 : Int32))), .val (.ref m5), .unset, .unset, .unset, .unset]) rfl ?_
                refine XS.iconst X89.here hx rfl (hb hby at_81) ?_
                refine XS.istoreN X89.here hx rfl (hb hby at_82) rfl (l' := #[.val (.int p1), .val (.int ((p1 &&& (2147483647 : Int32)) % (6 : Int32))), .val (.ref m5), .val (.int (1 : Int32)), .unset, .unset, .unset]) rfl ?_
                refine XS.aloadN X89.here hx rfl (hb hby at_83) rfl rfl ?_
                show Steps p.tables e below (T89.setTop (mkF m 84 #[.val (.int p1), .val (.int ((p1 &&& (2147483647 : Int32)) % (6 : Int32))), .val (.ref m5), .val (.int (1 : Int32)), .unset, .unset, .unset] [(.ref m5)])) _
                refine st90.trans ?_
                refine XS.istore X90.here hx rfl (hb hby at_87) rfl (l' := #[.val (.int p1), .val (.int ((p1 &&& (2147483647 : Int32)) % (6 : Int32))), .val (.ref m5), .val (.int (1 : Int32)), .val (.int (1 : Int32)), .unset, .unset]) rfl ?_
                refine XS.aloadN X90.here hx rfl (hb hby at_89) rfl rfl ?_
                show Steps p.tables e below (T90.setTop (mkF m 90 #[.val (.int p1), .val (.int ((p1 &&& (2147483647 : Int32)) % (6 : Int32))), .val (.ref m5), .val (.int (1 : Int32)), .val (.int (1 : Int32)), .unset, .unset] [(.ref m5)])) _
                refine st98.trans ?_
                refine XS.astore X98.here hx rfl (hb hby at_93) rfl rfl (l' := #[.val (.int p1), .val (.int ((p1 &&& (2147483647 : Int32)) % (6 : Int32))), .val (.ref m5), .val (.int (1 : Int32)), .val (.int (1 : Int32)), .val (.ref pB), .unset]) rfl ?_
                refine XS.aload X98.here hx rfl (hb hby at_95) rfl rfl ?_
                show Steps p.tables e below (T98.setTop (mkF m 97 #[.val (.int p1), .val (.int ((p1 &&& (2147483647 : Int32)) % (6 : Int32))), .val (.ref m5), .val (.int (1 : Int32)), .val (.int (1 : Int32)), .val (.ref pB), .unset] [(.ref pB)])) _
                refine st102 _ ?_
                show Steps p.tables e below (T102.setTop (mkF m 100 #[.val (.int p1), .val (.int ((p1 &&& (2147483647 : Int32)) % (6 : Int32))), .val (.ref m5), .val (.int (1 : Int32)), .val (.int (1 : Int32)), .val (.ref pB), .unset] [(.ref pS), (.ref pB)])) _
                refine Jvm.RoadKit.acmp (g := (mkF m 100 #[.val (.int p1), .val (.int ((p1 &&& (2147483647 : Int32)) % (6 : Int32))), .val (.ref m5), .val (.int (1 : Int32)), .val (.int (1 : Int32)), .val (.ref pB), .unset] [(.ref pS), (.ref pB)])) X102 hx rfl rfl rfl (pc0 := 100) (pc' := 103) (same := false) rfl (hb hby at_100) rfl (decide_eq_false fun q => neBS (Value.ref.inj q)) (by decide) (by decide) ?_
                refine XS.aload X102.here hx rfl (hb hby at_103) rfl rfl ?_
                show Steps p.tables e below (T102.setTop (mkF m 105 #[.val (.int p1), .val (.int ((p1 &&& (2147483647 : Int32)) % (6 : Int32))), .val (.ref m5), .val (.int (1 : Int32)), .val (.int (1 : Int32)), .val (.ref pB), .unset] [(.ref pB)])) _
                refine st103 _ ?_
                show Steps p.tables e below (T103.setTop (mkF m 108 #[.val (.int p1), .val (.int ((p1 &&& (2147483647 : Int32)) % (6 : Int32))), .val (.ref m5), .val (.int (1 : Int32)), .val (.int (1 : Int32)), .val (.ref pB), .unset] [(.ref pB), (.ref pB)])) _
                refine Jvm.RoadKit.acmp (g := (mkF m 108 #[.val (.int p1), .val (.int ((p1 &&& (2147483647 : Int32)) % (6 : Int32))), .val (.ref m5), .val (.int (1 : Int32)), .val (.int (1 : Int32)), .val (.ref pB), .unset] [(.ref pB), (.ref pB)])) X103 hx rfl rfl rfl (pc0 := 108) (pc' := 111) (same := true) rfl (hb hby at_108) rfl (decide_eq_true rfl) (by decide) (by decide) ?_
                refine XS.iconst X103.here hx rfl (hb hby at_111) ?_
                refine XS.goto X103.here hx rfl (pc0 := 112) (pc' := 116) rfl (hb hby at_112) (by decide) (by decide) ?_
                refine XS.istore X103.here hx rfl (hb hby at_116) rfl (l' := #[.val (.int p1), .val (.int ((p1 &&& (2147483647 : Int32)) % (6 : Int32))), .val (.ref m5), .val (.int (1 : Int32)), .val (.int (1 : Int32)), .val (.ref pB), .val (.int (1 : Int32))]) rfl ?_
                refine XS.iload X103.here hx rfl (hb hby at_118) rfl ?_
                refine XS.iloadN X103.here hx rfl (hb hby at_120) rfl ?_
                show Steps p.tables e below (T103.setTop (mkF m 121 #[.val (.int p1), .val (.int ((p1 &&& (2147483647 : Int32)) % (6 : Int32))), .val (.ref m5), .val (.int (1 : Int32)), .val (.int (1 : Int32)), .val (.ref pB), .val (.int (1 : Int32))] [(.int (1 : Int32)), (.int (1 : Int32))])) _
                refine XS.icmpNo X103.here hx rfl (hb hby at_121) rfl (teq ((by decide) : (1 : Int32) = (1 : Int32))).2 ?_
                refine XS.iload X103.here hx rfl (hb hby at_124) rfl ?_
                refine XS.iload X103.here hx rfl (hb hby at_126) rfl ?_
                refine XS.icmpNo X103.here hx rfl (hb hby at_128) rfl (teq ((by decide) : (1 : Int32) = (1 : Int32))).2 ?_
                refine XS.iconst X103.here hx rfl (hb hby at_131) ?_
                refine XS.goto X103.here hx rfl (pc0 := 132) (pc' := 136) rfl (hb hby at_132) (by decide) (by decide) ?_
                exact kt
              obtain ⟨fs, hr, hrun, hended, hW, hsame⟩ := X103.leave (v := some (.int (1 : Int32))) (fun h => by rw [Bd.returns] at h; cases h)
              refine ⟨_, _, pre0 _ (S104 _ ?_), hrun, hended, _, _, rfl, ?_, ⟨_, rfl⟩, hW, hsame.mono (by decide) (by decide)⟩
              · exact retN X103 hx (t := .boolean) Bd.returns (by simp) (hb hby at_136) hr
              · show Q_rm_law Z p1 m0 m1 m2 m3 m4 m5 pC pS pB h0 n0 _ T103.heap _
                rw [e103]
                exact ⟨rfl, N101⟩
set_option maxRecDepth 65536 in
set_option maxHeartbeats 40000000 in
theorem comes_1 {Post : Tables → Env → Array Value → State → Outcome → State → Prop} (hpost : ∀ tb e args s v u, (limb_1_1.after args s (.returned v) u = true ∧ limb_1_2.after args s (.returned v) u = true ∧ True) → FrameEnd s (.returned v) u (Jvm.fieldLocs frame_1_writes args s ++ Jvm.arrayLocs frame_1_arrays args s ++ Jvm.staticLocs frame_1_statics s) 0 0 → Post tb e args s (.returned v) u) :
    ArmFor flags0 classFile x code maxLocals ret World_1 tables_1 room_1 Calls_1 rest_1 Pre_1 Post := by
  intro l hfl _ _ p e ha hc hk s m args below hf hA hF happ hP
  obtain ⟨hcalls, hrest, hpre⟩ := hP
  obtain ⟨-, -, -, hnamed, -, -, -, hat⟩ := (Spec.applies_iff hf).mp happ
  obtain ⟨hg, hn⟩ := and_e (Cond.before_iff.mp (show (Jvm.Cond.and given_1 narrow_1).before args s = true from hpre))
  obtain ⟨g0, r0⟩ := and_e hg
  obtain ⟨w0, rfl⟩ : ∃ w0 : Value, args = #[w0] := by
    have hs : args.size = 1 := by simpa [Cond.value, given_1] using g0
    obtain ⟨L⟩ := args
    match L, hs with
    | [w0], _ => exact ⟨w0, rfl⟩
  have hw := fun d (hd : d ∈ tables_1) => atoms_spec (ws := Jvm.Cond.code x code maxLocals ret :: tables_1) hat d (List.mem_cons_of_mem _ hd)
  have hfit : Fit s := fun {y c} hc i hi => by
    obtain ⟨ha, rfl⟩ := Array.getElem?_eq_some_iff.mp hc
    have q := List.all_eq_true.mp ((Array.all_eq_true_iff_forall_mem.mp hF) _ (Array.getElem_mem ha)) i (List.mem_range.mpr hi)
    simpa [Array.getElem?_eq_getElem hi] using q
  obtain ⟨i0, e0⟩ := is_v r0
  obtain rfl : w0 = (.int i0) := Option.some.inj e0
  obtain ⟨n0, m0⟩ := and_e hn
  obtain ⟨n1, m1⟩ := and_e m0
  obtain ⟨n2, m2⟩ := and_e m1
  obtain ⟨n3, m3⟩ := and_e m2
  obtain ⟨n4, m4⟩ := and_e m3
  obtain ⟨n5, m5⟩ := and_e m4
  obtain ⟨n6, m6⟩ := and_e m5
  obtain ⟨n7, m7⟩ := and_e m6
  obtain ⟨n8, m8⟩ := and_e m7
  obtain ⟨n9, m9⟩ := and_e m8
  obtain ⟨n10, m10⟩ := and_e m9
  obtain ⟨n11, m11⟩ := and_e m10
  obtain ⟨n12, m12⟩ := and_e m11
  obtain ⟨n13, m13⟩ := and_e m12
  obtain ⟨n14, m14⟩ := and_e m13
  obtain ⟨n15, m15⟩ := and_e m14
  obtain ⟨n16, m16⟩ := and_e m15
  obtain ⟨w_MethodType_CONNECTION_START, ev_w_MethodType_CONNECTION_START⟩ := exa_v n0
  have E_w_MethodType_CONNECTION_START : Exa s s.heap w_MethodType_CONNECTION_START "com/example/ogmios/ogmios/codec/MethodType" := Exa.start ev_w_MethodType_CONNECTION_START n0
  have S_w_MethodType_CONNECTION_START : Sta s s.heap "com/example/ogmios/ogmios/codec/MethodType" "CONNECTION_START" "Lcom/example/ogmios/ogmios/codec/MethodType;" (.ref w_MethodType_CONNECTION_START) := Sta.start ev_w_MethodType_CONNECTION_START (Or.inr ⟨(own_w hw 2 rfl), (own_w hw 3 rfl)⟩)
  obtain ⟨w_MethodType_Peer_CLIENT, ev_w_MethodType_Peer_CLIENT⟩ := exa_v n1
  have E_w_MethodType_Peer_CLIENT : Exa s s.heap w_MethodType_Peer_CLIENT "com/example/ogmios/ogmios/codec/MethodType$Peer" := Exa.start ev_w_MethodType_Peer_CLIENT n1
  have S_w_MethodType_Peer_CLIENT : Sta s s.heap "com/example/ogmios/ogmios/codec/MethodType$Peer" "CLIENT" "Lcom/example/ogmios/ogmios/codec/MethodType$Peer;" (.ref w_MethodType_Peer_CLIENT) := Sta.start ev_w_MethodType_Peer_CLIENT (Or.inr ⟨(own_w hw 11 rfl), (own_w hw 12 rfl)⟩)
  obtain ⟨w_MethodType_Peer_SERVER, ev_w_MethodType_Peer_SERVER⟩ := exa_v n3
  have E_w_MethodType_Peer_SERVER : Exa s s.heap w_MethodType_Peer_SERVER "com/example/ogmios/ogmios/codec/MethodType$Peer" := Exa.start ev_w_MethodType_Peer_SERVER n3
  have S_w_MethodType_Peer_SERVER : Sta s s.heap "com/example/ogmios/ogmios/codec/MethodType$Peer" "SERVER" "Lcom/example/ogmios/ogmios/codec/MethodType$Peer;" (.ref w_MethodType_Peer_SERVER) := Sta.start ev_w_MethodType_Peer_SERVER (Or.inr ⟨(own_w hw 11 rfl), (own_w hw 20 rfl)⟩)
  obtain ⟨w_MethodType_Peer_BOTH, ev_w_MethodType_Peer_BOTH⟩ := exa_v n6
  have E_w_MethodType_Peer_BOTH : Exa s s.heap w_MethodType_Peer_BOTH "com/example/ogmios/ogmios/codec/MethodType$Peer" := Exa.start ev_w_MethodType_Peer_BOTH n6
  have S_w_MethodType_Peer_BOTH : Sta s s.heap "com/example/ogmios/ogmios/codec/MethodType$Peer" "BOTH" "Lcom/example/ogmios/ogmios/codec/MethodType$Peer;" (.ref w_MethodType_Peer_BOTH) := Sta.start ev_w_MethodType_Peer_BOTH (Or.inr ⟨(own_w hw 11 rfl), (own_w hw 22 rfl)⟩)
  obtain ⟨w_MethodType_BASIC_DELIVER, ev_w_MethodType_BASIC_DELIVER⟩ := exa_v n8
  have E_w_MethodType_BASIC_DELIVER : Exa s s.heap w_MethodType_BASIC_DELIVER "com/example/ogmios/ogmios/codec/MethodType" := Exa.start ev_w_MethodType_BASIC_DELIVER n8
  have S_w_MethodType_BASIC_DELIVER : Sta s s.heap "com/example/ogmios/ogmios/codec/MethodType" "BASIC_DELIVER" "Lcom/example/ogmios/ogmios/codec/MethodType;" (.ref w_MethodType_BASIC_DELIVER) := Sta.start ev_w_MethodType_BASIC_DELIVER (Or.inr ⟨(own_w hw 2 rfl), (own_w hw 24 rfl)⟩)
  obtain ⟨w_MethodType_CONNECTION_CLOSE, ev_w_MethodType_CONNECTION_CLOSE⟩ := exa_v n10
  have E_w_MethodType_CONNECTION_CLOSE : Exa s s.heap w_MethodType_CONNECTION_CLOSE "com/example/ogmios/ogmios/codec/MethodType" := Exa.start ev_w_MethodType_CONNECTION_CLOSE n10
  have S_w_MethodType_CONNECTION_CLOSE : Sta s s.heap "com/example/ogmios/ogmios/codec/MethodType" "CONNECTION_CLOSE" "Lcom/example/ogmios/ogmios/codec/MethodType;" (.ref w_MethodType_CONNECTION_CLOSE) := Sta.start ev_w_MethodType_CONNECTION_CLOSE (Or.inr ⟨(own_w hw 2 rfl), (own_w hw 26 rfl)⟩)
  obtain ⟨w_MethodType_CONNECTION_START_OK, ev_w_MethodType_CONNECTION_START_OK⟩ := exa_v n12
  have E_w_MethodType_CONNECTION_START_OK : Exa s s.heap w_MethodType_CONNECTION_START_OK "com/example/ogmios/ogmios/codec/MethodType" := Exa.start ev_w_MethodType_CONNECTION_START_OK n12
  have S_w_MethodType_CONNECTION_START_OK : Sta s s.heap "com/example/ogmios/ogmios/codec/MethodType" "CONNECTION_START_OK" "Lcom/example/ogmios/ogmios/codec/MethodType;" (.ref w_MethodType_CONNECTION_START_OK) := Sta.start ev_w_MethodType_CONNECTION_START_OK (Or.inr ⟨(own_w hw 2 rfl), (own_w hw 28 rfl)⟩)
  obtain ⟨w_MethodType_BASIC_ACK, ev_w_MethodType_BASIC_ACK⟩ := exa_v n14
  have E_w_MethodType_BASIC_ACK : Exa s s.heap w_MethodType_BASIC_ACK "com/example/ogmios/ogmios/codec/MethodType" := Exa.start ev_w_MethodType_BASIC_ACK n14
  have S_w_MethodType_BASIC_ACK : Sta s s.heap "com/example/ogmios/ogmios/codec/MethodType" "BASIC_ACK" "Lcom/example/ogmios/ogmios/codec/MethodType;" (.ref w_MethodType_BASIC_ACK) := Sta.start ev_w_MethodType_BASIC_ACK (Or.inr ⟨(own_w hw 2 rfl), (own_w hw 30 rfl)⟩)
  obtain ⟨w_MethodType_BASIC_PUBLISH, ev_w_MethodType_BASIC_PUBLISH⟩ := exa_v n16
  have E_w_MethodType_BASIC_PUBLISH : Exa s s.heap w_MethodType_BASIC_PUBLISH "com/example/ogmios/ogmios/codec/MethodType" := Exa.start ev_w_MethodType_BASIC_PUBLISH n16
  have S_w_MethodType_BASIC_PUBLISH : Sta s s.heap "com/example/ogmios/ogmios/codec/MethodType" "BASIC_PUBLISH" "Lcom/example/ogmios/ogmios/codec/MethodType;" (.ref w_MethodType_BASIC_PUBLISH) := Sta.start ev_w_MethodType_BASIC_PUBLISH (Or.inr ⟨(own_w hw 2 rfl), (own_w hw 32 rfl)⟩)
  have F_w_MethodType_CONNECTION_START_receiver : Fld s s.heap w_MethodType_CONNECTION_START "com/example/ogmios/ogmios/codec/MethodType" "receiver" "Lcom/example/ogmios/ogmios/codec/MethodType$Peer;" (.ref w_MethodType_Peer_CLIENT) := Fld.start (own_fldR ev_w_MethodType_CONNECTION_START ev_w_MethodType_Peer_CLIENT n2)
  have F_w_MethodType_Peer_CLIENT_ordinal : Fld s s.heap w_MethodType_Peer_CLIENT "java/lang/Enum" "ordinal" "I" (.int (1 : Int32)) := Fld.start (own_fldI ev_w_MethodType_Peer_CLIENT n4)
  have F_w_MethodType_Peer_SERVER_ordinal : Fld s s.heap w_MethodType_Peer_SERVER "java/lang/Enum" "ordinal" "I" (.int (0 : Int32)) := Fld.start (own_fldI ev_w_MethodType_Peer_SERVER n5)
  have F_w_MethodType_Peer_BOTH_ordinal : Fld s s.heap w_MethodType_Peer_BOTH "java/lang/Enum" "ordinal" "I" (.int (2 : Int32)) := Fld.start (own_fldI ev_w_MethodType_Peer_BOTH n7)
  have F_w_MethodType_BASIC_DELIVER_receiver : Fld s s.heap w_MethodType_BASIC_DELIVER "com/example/ogmios/ogmios/codec/MethodType" "receiver" "Lcom/example/ogmios/ogmios/codec/MethodType$Peer;" (.ref w_MethodType_Peer_CLIENT) := Fld.start (own_fldR ev_w_MethodType_BASIC_DELIVER ev_w_MethodType_Peer_CLIENT n9)
  have F_w_MethodType_CONNECTION_CLOSE_receiver : Fld s s.heap w_MethodType_CONNECTION_CLOSE "com/example/ogmios/ogmios/codec/MethodType" "receiver" "Lcom/example/ogmios/ogmios/codec/MethodType$Peer;" (.ref w_MethodType_Peer_BOTH) := Fld.start (own_fldR ev_w_MethodType_CONNECTION_CLOSE ev_w_MethodType_Peer_BOTH n11)
  have F_w_MethodType_CONNECTION_START_OK_receiver : Fld s s.heap w_MethodType_CONNECTION_START_OK "com/example/ogmios/ogmios/codec/MethodType" "receiver" "Lcom/example/ogmios/ogmios/codec/MethodType$Peer;" (.ref w_MethodType_Peer_SERVER) := Fld.start (own_fldR ev_w_MethodType_CONNECTION_START_OK ev_w_MethodType_Peer_SERVER n13)
  have F_w_MethodType_BASIC_ACK_receiver : Fld s s.heap w_MethodType_BASIC_ACK "com/example/ogmios/ogmios/codec/MethodType" "receiver" "Lcom/example/ogmios/ogmios/codec/MethodType$Peer;" (.ref w_MethodType_Peer_BOTH) := Fld.start (own_fldR ev_w_MethodType_BASIC_ACK ev_w_MethodType_Peer_BOTH n15)
  have F_w_MethodType_BASIC_PUBLISH_receiver : Fld s s.heap w_MethodType_BASIC_PUBLISH "com/example/ogmios/ogmios/codec/MethodType" "receiver" "Lcom/example/ogmios/ogmios/codec/MethodType$Peer;" (.ref w_MethodType_Peer_SERVER) := Fld.start (own_fldR ev_w_MethodType_BASIC_PUBLISH ev_w_MethodType_Peer_SERVER m16)
  obtain ⟨n, o, h1, h2, h3, _, L, rfl, ⟨rfl, N⟩, hq⟩ := rm_law l s _ hw tables_1 i0 w_MethodType_CONNECTION_START w_MethodType_CONNECTION_START_OK w_MethodType_CONNECTION_CLOSE w_MethodType_BASIC_DELIVER w_MethodType_BASIC_PUBLISH w_MethodType_BASIC_ACK w_MethodType_Peer_CLIENT w_MethodType_Peer_SERVER w_MethodType_Peer_BOTH s.heap s.heap.size (Old.start s) S_w_MethodType_CONNECTION_START S_w_MethodType_CONNECTION_START_OK S_w_MethodType_CONNECTION_CLOSE S_w_MethodType_BASIC_DELIVER S_w_MethodType_BASIC_PUBLISH S_w_MethodType_BASIC_ACK S_w_MethodType_Peer_CLIENT S_w_MethodType_Peer_SERVER S_w_MethodType_Peer_BOTH E_w_MethodType_CONNECTION_START E_w_MethodType_CONNECTION_START_OK E_w_MethodType_CONNECTION_CLOSE E_w_MethodType_BASIC_DELIVER E_w_MethodType_BASIC_PUBLISH E_w_MethodType_BASIC_ACK F_w_MethodType_CONNECTION_START_receiver F_w_MethodType_CONNECTION_START_OK_receiver F_w_MethodType_CONNECTION_CLOSE_receiver F_w_MethodType_BASIC_DELIVER_receiver F_w_MethodType_BASIC_PUBLISH_receiver F_w_MethodType_BASIC_ACK_receiver (Fld.ne F_w_MethodType_Peer_SERVER_ordinal F_w_MethodType_Peer_CLIENT_ordinal (by decide)) (Fld.ne F_w_MethodType_Peer_BOTH_ordinal F_w_MethodType_Peer_CLIENT_ordinal (by decide)) (Fld.ne F_w_MethodType_Peer_BOTH_ordinal F_w_MethodType_Peer_SERVER_ordinal (by decide)) p e ha hc hk s m _ below hf ((Spec.applies_iff_loose hf).mp happ).1 ⟨rfl, State.Warmed39.refl s, rfl⟩ trivial
  refine ⟨n, _, h1, h2, h3, hpost _ _ _ _ _ _ ⟨Cond.after_iff.mpr rfl, Cond.after_iff.mpr (eq_i res_at (Term.int_eval (1)) rfl), trivial⟩ ⟨hq.1, hq.2.1, (hq.2.2.sift fun y hy => Or.inr (N y hy)).mono (by decide) (by decide)⟩⟩
theorem main_1_1 : Claimed_1_1 := comes_1 fun _ _ _ _ _ _ h hF => ⟨h.1, hF⟩
theorem main_1_2 : Claimed_1_2 := comes_1 fun _ _ _ _ _ _ h hF => ⟨h.2.1, hF⟩
end Jvm.Pilot.@@N@@
namespace Jvm.Pilot.@@N@@
open Jvm Jvm.ClassFile Sem Op Lib Jvm.Free Jvm.Stand Jvm.Pilot.@@N@@.Jvm.D
/-! MADE BY PROGRAM (witnessworld.py) out of the Statement's table words and the real class files: 13 classes; the members and pool entries that the words name. The judged class is class 1, her method 1. -/
namespace start1
open Jvm.ClassFile
def u (s : String) : CpInfo := .utf8 (stringToUtf16 s)
/-- a pool by its gaps: so many unusable entries, then the entry; so many at the end -/
def gap : Nat → List CpInfo → List CpInfo
  | 0, r => r
  | n + 1, r => .unusable :: gap n r
def poolList (es : List (Nat × CpInfo)) (last : Nat) : List CpInfo := es.foldr (fun e r => gap e.1 (e.2 :: r)) (gap last [])
def pool (es : List (Nat × CpInfo)) (last : Nat) : Array CpInfo := ⟨poolList es last⟩
def fileOf (pool : Array CpInfo) (this : Nat) (attrs : Array Attribute := #[]) (ms : Array MethodInfo := #[]) (fl : Nat := 33) (sup : Nat := 0) (ifs : Array Nat := #[]) (fds : Array FieldInfo := #[]) : ClassFile where
  minorVersion := 0
  majorVersion := 65
  constantPool := pool
  accessFlags := fl
  thisClass := this
  superClass := sup
  interfaces := ifs
  fields := fds
  methods := ms
  attributes := attrs
def plain (name : String) (sup : Option ClassId) : Class where
  name := name
  kind := .ordinary
  loader := none
  accessFlags := 33
  super := sup
  interfaces := #[]
  cf := none
  fields := #[]
  methods := #[]
  instanceTypes := #[]
  staticTypes := #[]
  resolved := #[]
  callSites := []
  init := .initialized
  statics := none
  mirror := none

def pool0 : Array CpInfo := pool [(5, u "<init>"), (0, u "()V"), (1, .class_ 10), (1, u "java/lang/Object")] 113

def k0m0 : Method := { name := "<init>", desc := "()V", sig := { parameters := [], returnType := none }, accessFlags := 1, code := none }
/-- java/lang/Object -/
def k0 : Class := { plain "java/lang/Object" none with
  accessFlags := 33
  interfaces := #[]
  cf := some (fileOf pool0 8 #[] #[{ accessFlags := 1, nameIndex := 5, descriptorIndex := 6, attributes := #[] }] 33 0 #[] #[])
  fields := #[]
  methods := #[k0m0]
  instanceTypes := #[]
  staticTypes := #[]
  resolved := Array.replicate 124 none
  statics := none }

def pool1 : Array CpInfo := pool [(2, .class_ 4), (1, u "java/lang/Object"), (0, u "<init>"), (0, u "()V"), (0, .integer 2147483647), (0, .fieldref 9 10), (0, .class_ 11), (0, .nameAndType 12 13), (0, u "com/example/ogmios/ogmios/codec/MethodType"), (0, u "CONNECTION_START"), (0, u "Lcom/example/ogmios/ogmios/codec/MethodType;"), (0, .fieldref 9 15), (0, .nameAndType 16 13), (0, u "CONNECTION_START_OK"), (0, .fieldref 9 18), (0, .nameAndType 19 13), (0, u "CONNECTION_CLOSE"), (0, .fieldref 9 21), (0, .nameAndType 22 13), (0, u "BASIC_DELIVER"), (0, .fieldref 9 24), (0, .nameAndType 25 13), (0, u "BASIC_PUBLISH"), (0, .fieldref 9 27), (0, .nameAndType 28 13), (0, u "BASIC_ACK"), (0, .methodref 9 30), (0, .nameAndType 31 32), (0, u "isReceivedByServer"), (0, u "()Z"), (0, .methodref 9 34), (0, .nameAndType 35 36), (0, u "receiver"), (0, u "()Lcom/example/ogmios/ogmios/codec/MethodType$Peer;"), (0, .fieldref 38 39), (0, .class_ 40), (0, .nameAndType 41 42), (0, u "com/example/ogmios/ogmios/codec/MethodType$Peer"), (0, u "SERVER"), (0, u "Lcom/example/ogmios/ogmios/codec/MethodType$Peer;"), (0, .fieldref 38 44), (0, .nameAndType 45 42), (0, u "BOTH"), (0, .class_ 47), (0, u "com/example/ogmios/ogmios/codec/MethodTypeIsReceivedByServerPinLaw"), (2, u "law"), (0, u "(I)Z")] 5

def k1m0 : Method := { name := "<init>", desc := "()V", sig := { parameters := [], returnType := none }, accessFlags := 1, code := none }
def k1c1 : Code := { maxStack := 2, maxLocals := 7, code := code, exceptionTable := #[], attributes := #[] }
def k1m1 : Method := { name := "law", desc := "(I)Z", sig := { parameters := [.int], returnType := some .boolean }, accessFlags := 9, code := some k1c1 }
/-- com/example/ogmios/ogmios/codec/MethodTypeIsReceivedByServerPinLaw -/
def k1 : Class := { plain "com/example/ogmios/ogmios/codec/MethodTypeIsReceivedByServerPinLaw" (some 0) with
  accessFlags := 49
  interfaces := #[]
  cf := some (fileOf pool1 46 #[] #[{ accessFlags := 1, nameIndex := 5, descriptorIndex := 6, attributes := #[] }, { accessFlags := 9, nameIndex := 50, descriptorIndex := 51, attributes := #[] }] 49 2 #[] #[])
  fields := #[]
  methods := #[k1m0, k1m1]
  instanceTypes := #[]
  staticTypes := #[]
  resolved := Array.replicate 57 none
  statics := none }

def pool2 : Array CpInfo := pool [(1, .class_ 2), (0, u "java/lang/constant/Constable"), (0, .class_ 4), (0, u "java/lang/Object")] 6

/-- java/lang/constant/Constable -/
def k2 : Class := { plain "java/lang/constant/Constable" (some 0) with
  accessFlags := 1537
  interfaces := #[]
  cf := some (fileOf pool2 1 #[] #[] 1537 3 #[] #[])
  fields := #[]
  methods := #[]
  instanceTypes := #[]
  staticTypes := #[]
  resolved := Array.replicate 11 none
  statics := none }

def pool3 : Array CpInfo := pool [(1, .class_ 2), (0, u "java/lang/Comparable"), (0, .class_ 4), (0, u "java/lang/Object")] 7

/-- java/lang/Comparable -/
def k3 : Class := { plain "java/lang/Comparable" (some 0) with
  accessFlags := 1537
  interfaces := #[]
  cf := some (fileOf pool3 1 #[] #[] 1537 3 #[] #[])
  fields := #[]
  methods := #[]
  instanceTypes := #[]
  staticTypes := #[]
  resolved := Array.replicate 12 none
  statics := none }

def pool4 : Array CpInfo := pool [(1, .class_ 2), (0, u "java/io/Serializable"), (0, .class_ 4), (0, u "java/lang/Object")] 2

/-- java/io/Serializable -/
def k4 : Class := { plain "java/io/Serializable" (some 0) with
  accessFlags := 1537
  interfaces := #[]
  cf := some (fileOf pool4 1 #[] #[] 1537 3 #[] #[])
  fields := #[]
  methods := #[]
  instanceTypes := #[]
  staticTypes := #[]
  resolved := Array.replicate 7 none
  statics := none }

def pool5 : Array CpInfo := pool [(2, .class_ 4), (1, u "java/lang/Enum"), (0, u "name"), (0, u "Ljava/lang/String;"), (2, u "ordinal"), (0, u "I"), (1, .class_ 14), (1, u "java/lang/Object"), (4, u "hash"), (86, .class_ 108), (1, u "java/lang/Enum$EnumDesc"), (2, .class_ 112), (0, u "java/lang/constant/Constable"), (0, .class_ 114), (0, u "java/lang/Comparable"), (0, .class_ 116), (0, u "java/io/Serializable")] 87

/-- java/lang/Enum -/
def k5 : Class := { plain "java/lang/Enum" (some 0) with
  accessFlags := 1057
  interfaces := #[2, 3, 4]
  cf := some (fileOf pool5 2 #[.nestMembers #[106]] #[] 1057 12 #[111, 113, 115] #[{ accessFlags := 18, nameIndex := 5, descriptorIndex := 6, attributes := #[] }, { accessFlags := 18, nameIndex := 9, descriptorIndex := 10, attributes := #[] }, { accessFlags := 2, nameIndex := 19, descriptorIndex := 10, attributes := #[] }])
  fields := #[{ name := "name", type := (.object "java/lang/String"), accessFlags := 18, slot := 0, constantValue := 0 }, { name := "ordinal", type := .int, accessFlags := 18, slot := 1, constantValue := 0 }, { name := "hash", type := .int, accessFlags := 2, slot := 2, constantValue := 0 }]
  methods := #[]
  instanceTypes := #[(.object "java/lang/String"), .int, .int]
  staticTypes := #[]
  resolved := Array.replicate 204 none
  statics := none }

def pool6 : Array CpInfo := pool [(1, .class_ 2), (0, u "com/example/ogmios/ogmios/codec/MethodType"), (2, u "CONNECTION_START"), (0, u "Lcom/example/ogmios/ogmios/codec/MethodType;"), (2, u "CONNECTION_START_OK"), (2, u "CONNECTION_SECURE"), (2, u "CONNECTION_SECURE_OK"), (2, u "CONNECTION_TUNE"), (2, u "CONNECTION_TUNE_OK"), (2, u "CONNECTION_OPEN"), (2, u "CONNECTION_OPEN_OK"), (2, u "CONNECTION_CLOSE"), (2, u "CONNECTION_CLOSE_OK"), (2, u "CONNECTION_BLOCKED"), (2, u "CONNECTION_UNBLOCKED"), (2, u "CONNECTION_UPDATE_SECRET"), (2, u "CONNECTION_UPDATE_SECRET_OK"), (2, u "CHANNEL_OPEN"), (2, u "CHANNEL_OPEN_OK"), (2, u "CHANNEL_FLOW"), (2, u "CHANNEL_FLOW_OK"), (2, u "CHANNEL_CLOSE"), (2, u "CHANNEL_CLOSE_OK"), (2, u "EXCHANGE_DECLARE"), (2, u "EXCHANGE_DECLARE_OK"), (2, u "EXCHANGE_DELETE"), (2, u "EXCHANGE_DELETE_OK"), (2, u "EXCHANGE_BIND"), (2, u "EXCHANGE_BIND_OK"), (2, u "EXCHANGE_UNBIND"), (2, u "EXCHANGE_UNBIND_OK"), (2, u "QUEUE_DECLARE"), (2, u "QUEUE_DECLARE_OK"), (2, u "QUEUE_BIND"), (2, u "QUEUE_BIND_OK"), (2, u "QUEUE_UNBIND"), (2, u "QUEUE_UNBIND_OK"), (2, u "QUEUE_PURGE"), (2, u "QUEUE_PURGE_OK"), (2, u "QUEUE_DELETE"), (2, u "QUEUE_DELETE_OK"), (2, u "BASIC_QOS"), (2, u "BASIC_QOS_OK"), (2, u "BASIC_CONSUME"), (2, u "BASIC_CONSUME_OK"), (2, u "BASIC_CANCEL"), (2, u "BASIC_CANCEL_OK"), (2, u "BASIC_PUBLISH"), (2, u "BASIC_RETURN"), (2, u "BASIC_DELIVER"), (2, u "BASIC_GET"), (2, u "BASIC_GET_OK"), (2, u "BASIC_GET_EMPTY"), (2, u "BASIC_ACK"), (2, u "BASIC_REJECT"), (2, u "BASIC_RECOVER_ASYNC"), (2, u "BASIC_RECOVER"), (2, u "BASIC_RECOVER_OK"), (2, u "BASIC_NACK"), (2, u "TX_SELECT"), (2, u "TX_SELECT_OK"), (2, u "TX_COMMIT"), (2, u "TX_COMMIT_OK"), (2, u "TX_ROLLBACK"), (2, u "TX_ROLLBACK_OK"), (2, u "CONFIRM_SELECT"), (2, u "CONFIRM_SELECT_OK"), (2, u "$VALUES"), (0, u "[Lcom/example/ogmios/ogmios/codec/MethodType;"), (6, .class_ 208), (1, u "java/lang/Enum"), (8, u "classId"), (0, u "I"), (2, u "methodId"), (0, .fieldref 1 223), (0, .nameAndType 224 225), (0, u "receiver"), (0, u "Lcom/example/ogmios/ogmios/codec/MethodType$Peer;"), (2, u "content"), (0, u "Z"), (8, u "fields"), (0, u "Ljava/util/List;"), (30, u "fullName"), (0, u "Ljava/lang/String;"), (0, .class_ 273), (0, u "com/example/ogmios/ogmios/codec/MethodType$Field"), (5, u "BY_NUMBER"), (0, u "Ljava/util/Map;"), (17, .fieldref 299 300), (0, .class_ 301), (0, .nameAndType 302 225), (0, u "com/example/ogmios/ogmios/codec/MethodType$Peer"), (0, u "CLIENT"), (255, u "isReceivedByServer"), (0, u "()Z"), (1, u "()Lcom/example/ogmios/ogmios/codec/MethodType$Peer;")] 32

def k6c0 : Code := { maxStack := 2, maxLocals := 1, code := prog_14_method_8_code, exceptionTable := #[], attributes := #[] }
def k6m0 : Method := { name := "isReceivedByServer", desc := "()Z", sig := { parameters := [], returnType := some .boolean }, accessFlags := 1, code := some k6c0 }
def k6c1 : Code := { maxStack := 1, maxLocals := 1, code := prog_14_method_9_code, exceptionTable := #[], attributes := #[] }
def k6m1 : Method := { name := "receiver", desc := "()Lcom/example/ogmios/ogmios/codec/MethodType$Peer;", sig := { parameters := [], returnType := some (.object "com/example/ogmios/ogmios/codec/MethodType$Peer") }, accessFlags := 1, code := some k6c1 }
/-- com/example/ogmios/ogmios/codec/MethodType -/
def k6 : Class := { plain "com/example/ogmios/ogmios/codec/MethodType" (some 5) with
  accessFlags := 16433
  interfaces := #[]
  cf := some (fileOf pool6 1 #[.nestMembers #[272, 299]] #[{ accessFlags := 1, nameIndex := 558, descriptorIndex := 559, attributes := #[] }, { accessFlags := 1, nameIndex := 224, descriptorIndex := 561, attributes := #[] }] 16433 206 #[] #[{ accessFlags := 16409, nameIndex := 5, descriptorIndex := 6, attributes := #[] }, { accessFlags := 16409, nameIndex := 9, descriptorIndex := 6, attributes := #[] }, { accessFlags := 16409, nameIndex := 12, descriptorIndex := 6, attributes := #[] }, { accessFlags := 16409, nameIndex := 15, descriptorIndex := 6, attributes := #[] }, { accessFlags := 16409, nameIndex := 18, descriptorIndex := 6, attributes := #[] }, { accessFlags := 16409, nameIndex := 21, descriptorIndex := 6, attributes := #[] }, { accessFlags := 16409, nameIndex := 24, descriptorIndex := 6, attributes := #[] }, { accessFlags := 16409, nameIndex := 27, descriptorIndex := 6, attributes := #[] }, { accessFlags := 16409, nameIndex := 30, descriptorIndex := 6, attributes := #[] }, { accessFlags := 16409, nameIndex := 33, descriptorIndex := 6, attributes := #[] }, { accessFlags := 16409, nameIndex := 36, descriptorIndex := 6, attributes := #[] }, { accessFlags := 16409, nameIndex := 39, descriptorIndex := 6, attributes := #[] }, { accessFlags := 16409, nameIndex := 42, descriptorIndex := 6, attributes := #[] }, { accessFlags := 16409, nameIndex := 45, descriptorIndex := 6, attributes := #[] }, { accessFlags := 16409, nameIndex := 48, descriptorIndex := 6, attributes := #[] }, { accessFlags := 16409, nameIndex := 51, descriptorIndex := 6, attributes := #[] }, { accessFlags := 16409, nameIndex := 54, descriptorIndex := 6, attributes := #[] }, { accessFlags := 16409, nameIndex := 57, descriptorIndex := 6, attributes := #[] }, { accessFlags := 16409, nameIndex := 60, descriptorIndex := 6, attributes := #[] }, { accessFlags := 16409, nameIndex := 63, descriptorIndex := 6, attributes := #[] }, { accessFlags := 16409, nameIndex := 66, descriptorIndex := 6, attributes := #[] }, { accessFlags := 16409, nameIndex := 69, descriptorIndex := 6, attributes := #[] }, { accessFlags := 16409, nameIndex := 72, descriptorIndex := 6, attributes := #[] }, { accessFlags := 16409, nameIndex := 75, descriptorIndex := 6, attributes := #[] }, { accessFlags := 16409, nameIndex := 78, descriptorIndex := 6, attributes := #[] }, { accessFlags := 16409, nameIndex := 81, descriptorIndex := 6, attributes := #[] }, { accessFlags := 16409, nameIndex := 84, descriptorIndex := 6, attributes := #[] }, { accessFlags := 16409, nameIndex := 87, descriptorIndex := 6, attributes := #[] }, { accessFlags := 16409, nameIndex := 90, descriptorIndex := 6, attributes := #[] }, { accessFlags := 16409, nameIndex := 93, descriptorIndex := 6, attributes := #[] }, { accessFlags := 16409, nameIndex := 96, descriptorIndex := 6, attributes := #[] }, { accessFlags := 16409, nameIndex := 99, descriptorIndex := 6, attributes := #[] }, { accessFlags := 16409, nameIndex := 102, descriptorIndex := 6, attributes := #[] }, { accessFlags := 16409, nameIndex := 105, descriptorIndex := 6, attributes := #[] }, { accessFlags := 16409, nameIndex := 108, descriptorIndex := 6, attributes := #[] }, { accessFlags := 16409, nameIndex := 111, descriptorIndex := 6, attributes := #[] }, { accessFlags := 16409, nameIndex := 114, descriptorIndex := 6, attributes := #[] }, { accessFlags := 16409, nameIndex := 117, descriptorIndex := 6, attributes := #[] }, { accessFlags := 16409, nameIndex := 120, descriptorIndex := 6, attributes := #[] }, { accessFlags := 16409, nameIndex := 123, descriptorIndex := 6, attributes := #[] }, { accessFlags := 16409, nameIndex := 126, descriptorIndex := 6, attributes := #[] }, { accessFlags := 16409, nameIndex := 129, descriptorIndex := 6, attributes := #[] }, { accessFlags := 16409, nameIndex := 132, descriptorIndex := 6, attributes := #[] }, { accessFlags := 16409, nameIndex := 135, descriptorIndex := 6, attributes := #[] }, { accessFlags := 16409, nameIndex := 138, descriptorIndex := 6, attributes := #[] }, { accessFlags := 16409, nameIndex := 141, descriptorIndex := 6, attributes := #[] }, { accessFlags := 16409, nameIndex := 144, descriptorIndex := 6, attributes := #[] }, { accessFlags := 16409, nameIndex := 147, descriptorIndex := 6, attributes := #[] }, { accessFlags := 16409, nameIndex := 150, descriptorIndex := 6, attributes := #[] }, { accessFlags := 16409, nameIndex := 153, descriptorIndex := 6, attributes := #[] }, { accessFlags := 16409, nameIndex := 156, descriptorIndex := 6, attributes := #[] }, { accessFlags := 16409, nameIndex := 159, descriptorIndex := 6, attributes := #[] }, { accessFlags := 16409, nameIndex := 162, descriptorIndex := 6, attributes := #[] }, { accessFlags := 16409, nameIndex := 165, descriptorIndex := 6, attributes := #[] }, { accessFlags := 16409, nameIndex := 168, descriptorIndex := 6, attributes := #[] }, { accessFlags := 16409, nameIndex := 171, descriptorIndex := 6, attributes := #[] }, { accessFlags := 16409, nameIndex := 174, descriptorIndex := 6, attributes := #[] }, { accessFlags := 16409, nameIndex := 177, descriptorIndex := 6, attributes := #[] }, { accessFlags := 16409, nameIndex := 180, descriptorIndex := 6, attributes := #[] }, { accessFlags := 16409, nameIndex := 183, descriptorIndex := 6, attributes := #[] }, { accessFlags := 16409, nameIndex := 186, descriptorIndex := 6, attributes := #[] }, { accessFlags := 16409, nameIndex := 189, descriptorIndex := 6, attributes := #[] }, { accessFlags := 16409, nameIndex := 192, descriptorIndex := 6, attributes := #[] }, { accessFlags := 16409, nameIndex := 195, descriptorIndex := 6, attributes := #[] }, { accessFlags := 26, nameIndex := 279, descriptorIndex := 280, attributes := #[] }, { accessFlags := 18, nameIndex := 217, descriptorIndex := 218, attributes := #[] }, { accessFlags := 18, nameIndex := 221, descriptorIndex := 218, attributes := #[] }, { accessFlags := 18, nameIndex := 224, descriptorIndex := 225, attributes := #[] }, { accessFlags := 18, nameIndex := 228, descriptorIndex := 229, attributes := #[] }, { accessFlags := 18, nameIndex := 238, descriptorIndex := 239, attributes := #[] }, { accessFlags := 18, nameIndex := 270, descriptorIndex := 271, attributes := #[] }, { accessFlags := 4122, nameIndex := 198, descriptorIndex := 199, attributes := #[] }])
  fields := #[{ name := "CONNECTION_START", type := (.object "com/example/ogmios/ogmios/codec/MethodType"), accessFlags := 16409, slot := 0, constantValue := 0 }, { name := "CONNECTION_START_OK", type := (.object "com/example/ogmios/ogmios/codec/MethodType"), accessFlags := 16409, slot := 1, constantValue := 0 }, { name := "CONNECTION_SECURE", type := (.object "com/example/ogmios/ogmios/codec/MethodType"), accessFlags := 16409, slot := 2, constantValue := 0 }, { name := "CONNECTION_SECURE_OK", type := (.object "com/example/ogmios/ogmios/codec/MethodType"), accessFlags := 16409, slot := 3, constantValue := 0 }, { name := "CONNECTION_TUNE", type := (.object "com/example/ogmios/ogmios/codec/MethodType"), accessFlags := 16409, slot := 4, constantValue := 0 }, { name := "CONNECTION_TUNE_OK", type := (.object "com/example/ogmios/ogmios/codec/MethodType"), accessFlags := 16409, slot := 5, constantValue := 0 }, { name := "CONNECTION_OPEN", type := (.object "com/example/ogmios/ogmios/codec/MethodType"), accessFlags := 16409, slot := 6, constantValue := 0 }, { name := "CONNECTION_OPEN_OK", type := (.object "com/example/ogmios/ogmios/codec/MethodType"), accessFlags := 16409, slot := 7, constantValue := 0 }, { name := "CONNECTION_CLOSE", type := (.object "com/example/ogmios/ogmios/codec/MethodType"), accessFlags := 16409, slot := 8, constantValue := 0 }, { name := "CONNECTION_CLOSE_OK", type := (.object "com/example/ogmios/ogmios/codec/MethodType"), accessFlags := 16409, slot := 9, constantValue := 0 }, { name := "CONNECTION_BLOCKED", type := (.object "com/example/ogmios/ogmios/codec/MethodType"), accessFlags := 16409, slot := 10, constantValue := 0 }, { name := "CONNECTION_UNBLOCKED", type := (.object "com/example/ogmios/ogmios/codec/MethodType"), accessFlags := 16409, slot := 11, constantValue := 0 }, { name := "CONNECTION_UPDATE_SECRET", type := (.object "com/example/ogmios/ogmios/codec/MethodType"), accessFlags := 16409, slot := 12, constantValue := 0 }, { name := "CONNECTION_UPDATE_SECRET_OK", type := (.object "com/example/ogmios/ogmios/codec/MethodType"), accessFlags := 16409, slot := 13, constantValue := 0 }, { name := "CHANNEL_OPEN", type := (.object "com/example/ogmios/ogmios/codec/MethodType"), accessFlags := 16409, slot := 14, constantValue := 0 }, { name := "CHANNEL_OPEN_OK", type := (.object "com/example/ogmios/ogmios/codec/MethodType"), accessFlags := 16409, slot := 15, constantValue := 0 }, { name := "CHANNEL_FLOW", type := (.object "com/example/ogmios/ogmios/codec/MethodType"), accessFlags := 16409, slot := 16, constantValue := 0 }, { name := "CHANNEL_FLOW_OK", type := (.object "com/example/ogmios/ogmios/codec/MethodType"), accessFlags := 16409, slot := 17, constantValue := 0 }, { name := "CHANNEL_CLOSE", type := (.object "com/example/ogmios/ogmios/codec/MethodType"), accessFlags := 16409, slot := 18, constantValue := 0 }, { name := "CHANNEL_CLOSE_OK", type := (.object "com/example/ogmios/ogmios/codec/MethodType"), accessFlags := 16409, slot := 19, constantValue := 0 }, { name := "EXCHANGE_DECLARE", type := (.object "com/example/ogmios/ogmios/codec/MethodType"), accessFlags := 16409, slot := 20, constantValue := 0 }, { name := "EXCHANGE_DECLARE_OK", type := (.object "com/example/ogmios/ogmios/codec/MethodType"), accessFlags := 16409, slot := 21, constantValue := 0 }, { name := "EXCHANGE_DELETE", type := (.object "com/example/ogmios/ogmios/codec/MethodType"), accessFlags := 16409, slot := 22, constantValue := 0 }, { name := "EXCHANGE_DELETE_OK", type := (.object "com/example/ogmios/ogmios/codec/MethodType"), accessFlags := 16409, slot := 23, constantValue := 0 }, { name := "EXCHANGE_BIND", type := (.object "com/example/ogmios/ogmios/codec/MethodType"), accessFlags := 16409, slot := 24, constantValue := 0 }, { name := "EXCHANGE_BIND_OK", type := (.object "com/example/ogmios/ogmios/codec/MethodType"), accessFlags := 16409, slot := 25, constantValue := 0 }, { name := "EXCHANGE_UNBIND", type := (.object "com/example/ogmios/ogmios/codec/MethodType"), accessFlags := 16409, slot := 26, constantValue := 0 }, { name := "EXCHANGE_UNBIND_OK", type := (.object "com/example/ogmios/ogmios/codec/MethodType"), accessFlags := 16409, slot := 27, constantValue := 0 }, { name := "QUEUE_DECLARE", type := (.object "com/example/ogmios/ogmios/codec/MethodType"), accessFlags := 16409, slot := 28, constantValue := 0 }, { name := "QUEUE_DECLARE_OK", type := (.object "com/example/ogmios/ogmios/codec/MethodType"), accessFlags := 16409, slot := 29, constantValue := 0 }, { name := "QUEUE_BIND", type := (.object "com/example/ogmios/ogmios/codec/MethodType"), accessFlags := 16409, slot := 30, constantValue := 0 }, { name := "QUEUE_BIND_OK", type := (.object "com/example/ogmios/ogmios/codec/MethodType"), accessFlags := 16409, slot := 31, constantValue := 0 }, { name := "QUEUE_UNBIND", type := (.object "com/example/ogmios/ogmios/codec/MethodType"), accessFlags := 16409, slot := 32, constantValue := 0 }, { name := "QUEUE_UNBIND_OK", type := (.object "com/example/ogmios/ogmios/codec/MethodType"), accessFlags := 16409, slot := 33, constantValue := 0 }, { name := "QUEUE_PURGE", type := (.object "com/example/ogmios/ogmios/codec/MethodType"), accessFlags := 16409, slot := 34, constantValue := 0 }, { name := "QUEUE_PURGE_OK", type := (.object "com/example/ogmios/ogmios/codec/MethodType"), accessFlags := 16409, slot := 35, constantValue := 0 }, { name := "QUEUE_DELETE", type := (.object "com/example/ogmios/ogmios/codec/MethodType"), accessFlags := 16409, slot := 36, constantValue := 0 }, { name := "QUEUE_DELETE_OK", type := (.object "com/example/ogmios/ogmios/codec/MethodType"), accessFlags := 16409, slot := 37, constantValue := 0 }, { name := "BASIC_QOS", type := (.object "com/example/ogmios/ogmios/codec/MethodType"), accessFlags := 16409, slot := 38, constantValue := 0 }, { name := "BASIC_QOS_OK", type := (.object "com/example/ogmios/ogmios/codec/MethodType"), accessFlags := 16409, slot := 39, constantValue := 0 }, { name := "BASIC_CONSUME", type := (.object "com/example/ogmios/ogmios/codec/MethodType"), accessFlags := 16409, slot := 40, constantValue := 0 }, { name := "BASIC_CONSUME_OK", type := (.object "com/example/ogmios/ogmios/codec/MethodType"), accessFlags := 16409, slot := 41, constantValue := 0 }, { name := "BASIC_CANCEL", type := (.object "com/example/ogmios/ogmios/codec/MethodType"), accessFlags := 16409, slot := 42, constantValue := 0 }, { name := "BASIC_CANCEL_OK", type := (.object "com/example/ogmios/ogmios/codec/MethodType"), accessFlags := 16409, slot := 43, constantValue := 0 }, { name := "BASIC_PUBLISH", type := (.object "com/example/ogmios/ogmios/codec/MethodType"), accessFlags := 16409, slot := 44, constantValue := 0 }, { name := "BASIC_RETURN", type := (.object "com/example/ogmios/ogmios/codec/MethodType"), accessFlags := 16409, slot := 45, constantValue := 0 }, { name := "BASIC_DELIVER", type := (.object "com/example/ogmios/ogmios/codec/MethodType"), accessFlags := 16409, slot := 46, constantValue := 0 }, { name := "BASIC_GET", type := (.object "com/example/ogmios/ogmios/codec/MethodType"), accessFlags := 16409, slot := 47, constantValue := 0 }, { name := "BASIC_GET_OK", type := (.object "com/example/ogmios/ogmios/codec/MethodType"), accessFlags := 16409, slot := 48, constantValue := 0 }, { name := "BASIC_GET_EMPTY", type := (.object "com/example/ogmios/ogmios/codec/MethodType"), accessFlags := 16409, slot := 49, constantValue := 0 }, { name := "BASIC_ACK", type := (.object "com/example/ogmios/ogmios/codec/MethodType"), accessFlags := 16409, slot := 50, constantValue := 0 }, { name := "BASIC_REJECT", type := (.object "com/example/ogmios/ogmios/codec/MethodType"), accessFlags := 16409, slot := 51, constantValue := 0 }, { name := "BASIC_RECOVER_ASYNC", type := (.object "com/example/ogmios/ogmios/codec/MethodType"), accessFlags := 16409, slot := 52, constantValue := 0 }, { name := "BASIC_RECOVER", type := (.object "com/example/ogmios/ogmios/codec/MethodType"), accessFlags := 16409, slot := 53, constantValue := 0 }, { name := "BASIC_RECOVER_OK", type := (.object "com/example/ogmios/ogmios/codec/MethodType"), accessFlags := 16409, slot := 54, constantValue := 0 }, { name := "BASIC_NACK", type := (.object "com/example/ogmios/ogmios/codec/MethodType"), accessFlags := 16409, slot := 55, constantValue := 0 }, { name := "TX_SELECT", type := (.object "com/example/ogmios/ogmios/codec/MethodType"), accessFlags := 16409, slot := 56, constantValue := 0 }, { name := "TX_SELECT_OK", type := (.object "com/example/ogmios/ogmios/codec/MethodType"), accessFlags := 16409, slot := 57, constantValue := 0 }, { name := "TX_COMMIT", type := (.object "com/example/ogmios/ogmios/codec/MethodType"), accessFlags := 16409, slot := 58, constantValue := 0 }, { name := "TX_COMMIT_OK", type := (.object "com/example/ogmios/ogmios/codec/MethodType"), accessFlags := 16409, slot := 59, constantValue := 0 }, { name := "TX_ROLLBACK", type := (.object "com/example/ogmios/ogmios/codec/MethodType"), accessFlags := 16409, slot := 60, constantValue := 0 }, { name := "TX_ROLLBACK_OK", type := (.object "com/example/ogmios/ogmios/codec/MethodType"), accessFlags := 16409, slot := 61, constantValue := 0 }, { name := "CONFIRM_SELECT", type := (.object "com/example/ogmios/ogmios/codec/MethodType"), accessFlags := 16409, slot := 62, constantValue := 0 }, { name := "CONFIRM_SELECT_OK", type := (.object "com/example/ogmios/ogmios/codec/MethodType"), accessFlags := 16409, slot := 63, constantValue := 0 }, { name := "BY_NUMBER", type := (.object "java/util/Map"), accessFlags := 26, slot := 64, constantValue := 0 }, { name := "classId", type := .int, accessFlags := 18, slot := 3, constantValue := 0 }, { name := "methodId", type := .int, accessFlags := 18, slot := 4, constantValue := 0 }, { name := "receiver", type := (.object "com/example/ogmios/ogmios/codec/MethodType$Peer"), accessFlags := 18, slot := 5, constantValue := 0 }, { name := "content", type := .boolean, accessFlags := 18, slot := 6, constantValue := 0 }, { name := "fields", type := (.object "java/util/List"), accessFlags := 18, slot := 7, constantValue := 0 }, { name := "fullName", type := (.object "java/lang/String"), accessFlags := 18, slot := 8, constantValue := 0 }, { name := "$VALUES", type := (.array (.object "com/example/ogmios/ogmios/codec/MethodType")), accessFlags := 4122, slot := 65, constantValue := 0 }]
  methods := #[k6m0, k6m1]
  instanceTypes := #[(.object "java/lang/String"), .int, .int, .int, .int, (.object "com/example/ogmios/ogmios/codec/MethodType$Peer"), .boolean, (.object "java/util/List"), (.object "java/lang/String")]
  staticTypes := #[(.object "com/example/ogmios/ogmios/codec/MethodType"), (.object "com/example/ogmios/ogmios/codec/MethodType"), (.object "com/example/ogmios/ogmios/codec/MethodType"), (.object "com/example/ogmios/ogmios/codec/MethodType"), (.object "com/example/ogmios/ogmios/codec/MethodType"), (.object "com/example/ogmios/ogmios/codec/MethodType"), (.object "com/example/ogmios/ogmios/codec/MethodType"), (.object "com/example/ogmios/ogmios/codec/MethodType"), (.object "com/example/ogmios/ogmios/codec/MethodType"), (.object "com/example/ogmios/ogmios/codec/MethodType"), (.object "com/example/ogmios/ogmios/codec/MethodType"), (.object "com/example/ogmios/ogmios/codec/MethodType"), (.object "com/example/ogmios/ogmios/codec/MethodType"), (.object "com/example/ogmios/ogmios/codec/MethodType"), (.object "com/example/ogmios/ogmios/codec/MethodType"), (.object "com/example/ogmios/ogmios/codec/MethodType"), (.object "com/example/ogmios/ogmios/codec/MethodType"), (.object "com/example/ogmios/ogmios/codec/MethodType"), (.object "com/example/ogmios/ogmios/codec/MethodType"), (.object "com/example/ogmios/ogmios/codec/MethodType"), (.object "com/example/ogmios/ogmios/codec/MethodType"), (.object "com/example/ogmios/ogmios/codec/MethodType"), (.object "com/example/ogmios/ogmios/codec/MethodType"), (.object "com/example/ogmios/ogmios/codec/MethodType"), (.object "com/example/ogmios/ogmios/codec/MethodType"), (.object "com/example/ogmios/ogmios/codec/MethodType"), (.object "com/example/ogmios/ogmios/codec/MethodType"), (.object "com/example/ogmios/ogmios/codec/MethodType"), (.object "com/example/ogmios/ogmios/codec/MethodType"), (.object "com/example/ogmios/ogmios/codec/MethodType"), (.object "com/example/ogmios/ogmios/codec/MethodType"), (.object "com/example/ogmios/ogmios/codec/MethodType"), (.object "com/example/ogmios/ogmios/codec/MethodType"), (.object "com/example/ogmios/ogmios/codec/MethodType"), (.object "com/example/ogmios/ogmios/codec/MethodType"), (.object "com/example/ogmios/ogmios/codec/MethodType"), (.object "com/example/ogmios/ogmios/codec/MethodType"), (.object "com/example/ogmios/ogmios/codec/MethodType"), (.object "com/example/ogmios/ogmios/codec/MethodType"), (.object "com/example/ogmios/ogmios/codec/MethodType"), (.object "com/example/ogmios/ogmios/codec/MethodType"), (.object "com/example/ogmios/ogmios/codec/MethodType"), (.object "com/example/ogmios/ogmios/codec/MethodType"), (.object "com/example/ogmios/ogmios/codec/MethodType"), (.object "com/example/ogmios/ogmios/codec/MethodType"), (.object "com/example/ogmios/ogmios/codec/MethodType"), (.object "com/example/ogmios/ogmios/codec/MethodType"), (.object "com/example/ogmios/ogmios/codec/MethodType"), (.object "com/example/ogmios/ogmios/codec/MethodType"), (.object "com/example/ogmios/ogmios/codec/MethodType"), (.object "com/example/ogmios/ogmios/codec/MethodType"), (.object "com/example/ogmios/ogmios/codec/MethodType"), (.object "com/example/ogmios/ogmios/codec/MethodType"), (.object "com/example/ogmios/ogmios/codec/MethodType"), (.object "com/example/ogmios/ogmios/codec/MethodType"), (.object "com/example/ogmios/ogmios/codec/MethodType"), (.object "com/example/ogmios/ogmios/codec/MethodType"), (.object "com/example/ogmios/ogmios/codec/MethodType"), (.object "com/example/ogmios/ogmios/codec/MethodType"), (.object "com/example/ogmios/ogmios/codec/MethodType"), (.object "com/example/ogmios/ogmios/codec/MethodType"), (.object "com/example/ogmios/ogmios/codec/MethodType"), (.object "com/example/ogmios/ogmios/codec/MethodType"), (.object "com/example/ogmios/ogmios/codec/MethodType"), (.object "java/util/Map"), (.array (.object "com/example/ogmios/ogmios/codec/MethodType"))]
  resolved := Array.replicate 594 none
  statics := some 0 }

def pool7 : Array CpInfo := pool [(1, .class_ 2), (0, u "com/example/ogmios/ogmios/codec/MethodType$Peer"), (2, u "SERVER"), (0, u "Lcom/example/ogmios/ogmios/codec/MethodType$Peer;"), (2, u "CLIENT"), (2, u "BOTH"), (2, u "$VALUES"), (0, u "[Lcom/example/ogmios/ogmios/codec/MethodType$Peer;"), (6, .class_ 25), (1, u "java/lang/Enum"), (26, .class_ 53), (0, u "com/example/ogmios/ogmios/codec/MethodType")] 2

/-- com/example/ogmios/ogmios/codec/MethodType$Peer -/
def k7 : Class := { plain "com/example/ogmios/ogmios/codec/MethodType$Peer" (some 5) with
  accessFlags := 16433
  interfaces := #[]
  cf := some (fileOf pool7 1 #[.nestHost 52] #[] 16433 23 #[] #[{ accessFlags := 16409, nameIndex := 5, descriptorIndex := 6, attributes := #[] }, { accessFlags := 16409, nameIndex := 9, descriptorIndex := 6, attributes := #[] }, { accessFlags := 16409, nameIndex := 12, descriptorIndex := 6, attributes := #[] }, { accessFlags := 4122, nameIndex := 15, descriptorIndex := 16, attributes := #[] }])
  fields := #[{ name := "SERVER", type := (.object "com/example/ogmios/ogmios/codec/MethodType$Peer"), accessFlags := 16409, slot := 0, constantValue := 0 }, { name := "CLIENT", type := (.object "com/example/ogmios/ogmios/codec/MethodType$Peer"), accessFlags := 16409, slot := 1, constantValue := 0 }, { name := "BOTH", type := (.object "com/example/ogmios/ogmios/codec/MethodType$Peer"), accessFlags := 16409, slot := 2, constantValue := 0 }, { name := "$VALUES", type := (.array (.object "com/example/ogmios/ogmios/codec/MethodType$Peer")), accessFlags := 4122, slot := 3, constantValue := 0 }]
  methods := #[]
  instanceTypes := #[(.object "java/lang/String"), .int, .int]
  staticTypes := #[(.object "com/example/ogmios/ogmios/codec/MethodType$Peer"), (.object "com/example/ogmios/ogmios/codec/MethodType$Peer"), (.object "com/example/ogmios/ogmios/codec/MethodType$Peer"), (.array (.object "com/example/ogmios/ogmios/codec/MethodType$Peer"))]
  resolved := Array.replicate 56 none
  statics := some 1 }

def pool8 : Array CpInfo := pool [(1, u "java/lang/Cloneable"), (0, .class_ 1), (0, u "java/lang/Object"), (0, .class_ 3)] 3

/-- java/lang/Cloneable -/
def k8 : Class := { plain "java/lang/Cloneable" (some 0) with
  accessFlags := 1537
  interfaces := #[]
  cf := some (fileOf pool8 2 #[] #[] 1537 4 #[] #[])
  fields := #[]
  methods := #[]
  instanceTypes := #[]
  staticTypes := #[]
  resolved := Array.replicate 8 none
  statics := none }

/-- the primitive byte -/
def k9 : Class := { plain "byte" none with kind := .primitive 'B', accessFlags := 0x411 }
/-- [B -/
def k10 : Class := { plain "[B" (some 0) with kind := .array 9 .byte, interfaces := #[8, 4], accessFlags := 1041 }

/-- the primitive int -/
def k11 : Class := { plain "int" none with kind := .primitive 'I', accessFlags := 0x411 }
/-- [I -/
def k12 : Class := { plain "[I" (some 0) with kind := .array 11 .int, interfaces := #[8, 4], accessFlags := 1041 }

def heap : Heap := #[{ cls := 6, slots := #[.ref 2, .ref 8, .null, .null, .null, .null, .null, .null, .ref 7, .null, .null, .null, .null, .null, .null, .null, .null, .null, .null, .null, .null, .null, .null, .null, .null, .null, .null, .null, .null, .null, .null, .null, .null, .null, .null, .null, .null, .null, .null, .null, .null, .null, .null, .null, .ref 10, .null, .ref 6, .null, .null, .null, .ref 9, .null, .null, .null, .null, .null, .null, .null, .null, .null, .null, .null, .null, .null, .null, .null], vm := .statics 6 },
  { cls := 7, slots := #[.ref 4, .ref 3, .ref 5, .null], vm := .statics 7 },
  { cls := 6, slots := #[.null, .int 0, .int 0, .int 0, .int 0, .ref 3, .int 0, .null, .null], vm := .none },
  { cls := 7, slots := #[.null, .int 1, .int 0], vm := .none },
  { cls := 7, slots := #[.null, .int 0, .int 0], vm := .none },
  { cls := 7, slots := #[.null, .int 2, .int 0], vm := .none },
  { cls := 6, slots := #[.null, .int 0, .int 0, .int 0, .int 0, .ref 3, .int 0, .null, .null], vm := .none },
  { cls := 6, slots := #[.null, .int 0, .int 0, .int 0, .int 0, .ref 5, .int 0, .null, .null], vm := .none },
  { cls := 6, slots := #[.null, .int 0, .int 0, .int 0, .int 0, .ref 4, .int 0, .null, .null], vm := .none },
  { cls := 6, slots := #[.null, .int 0, .int 0, .int 0, .int 0, .ref 5, .int 0, .null, .null], vm := .none },
  { cls := 6, slots := #[.null, .int 0, .int 0, .int 0, .int 0, .ref 4, .int 0, .null, .null], vm := .none }]
def classes : Array Class := #[k0, k1, k2, k3, k4, k5, k6, k7, k8, k9, k10, k11, k12]
def interned : List (Array UInt16 × Addr) := []
def slotsUsed : Nat := 133
def theMethod : MethodId := ⟨1, 1⟩
def args0 : Array Value := #[.int 5]
def aboutOver (below : List Frame) : State where
  vm := { classes := classes, interned := interned.toArray }
  heap := heap
  slotsUsed := slotsUsed
  threads := #[{ frames := .invoking theMethod args0 :: below }]
def below0 : List Frame := [.native { method := ⟨0, 0⟩, args := #[] }]
def about1 : State := aboutOver below0
def p0 : Program := .bare "" "" ""
def e0 : Env := launch0.env 0 0 0
theorem w_frames : about1.frames = Frame.invoking theMethod args0 :: below0 := rfl
set_option maxRecDepth 65536 in
theorem w_args : argsFit about1.vm theMethod args0 = true := by decide +kernel
set_option maxRecDepth 65536 in
theorem w_heap : heapFits about1 = true := by decide +kernel
set_option maxRecDepth 65536 in
theorem w_runnable : about1.curStatus? = some .runnable := by decide +kernel
set_option maxRecDepth 65536 in
theorem w_alone : about1.alone = true := by decide +kernel
set_option maxRecDepth 65536 in
theorem w_named : about1.methodNamed? x = some theMethod := by decide +kernel
set_option maxRecDepth 65536 in
theorem w_hears : about1.hears theMethod below0 = true := by decide +kernel
set_option maxRecDepth 65536 in
theorem w_ripe : about1.ripe theMethod args0 below0 = true := by decide +kernel
theorem w_running : about1.status = .running := rfl
set_option maxRecDepth 65536 in
theorem w_room : about1.hasRoom e0.platform room_1 = true :=
  launch0.hasRoom_least _ room_1 (by decide +kernel) (by decide +kernel) (by decide +kernel) (by decide +kernel) (by decide +kernel) (by decide +kernel)
theorem allAtoms_all (ts : List Jvm.Cond) (a : Array Jvm.Value) (st : Jvm.State) : (allAtoms ts).before a st = ts.all (fun c => c.before a st) := by
  induction ts with
  | nil => rfl
  | cons c t ih =>
    show (Jvm.Cond.and c (allAtoms t)).before a st = _
    rw [Jvm.Cond.before_and, ih, List.all_cons]
def words1 : List Jvm.Cond := Jvm.Cond.code x code maxLocals ret :: tables_1
/-- a 'code' word, met by the world's own term for the bytes: nothing is compared byte by byte -/
theorem code_word {y : MethodName} {bytes : ByteArray} {mx : Nat} {rt : Option FieldType} {a : Array Value} {s : State} {m : MethodId} {meth : Method} {c : Code} (h1 : s.methodNamed? y = some m) (h2 : s.vm.method? m = some meth) (h3 : meth.code = some c) (h4 : c.code = bytes)
    (h5 : (c.maxLocals == mx && c.exceptionTable.isEmpty && decide (c.maxStack ≤ mostOperands) && decide (meth.sig.returnType = rt) && !meth.locks && decide (parseMethodDescriptor y.desc = some meth.sig)) = true) : (Jvm.Cond.code y bytes mx rt).before a s = true := by
  simp only [Bool.and_eq_true, beq_iff_eq, Bool.not_eq_true', decide_eq_true_eq] at h5
  obtain ⟨⟨⟨⟨⟨g1, g2⟩, g3⟩, g4⟩, g5⟩, g6⟩ := h5
  simp [Cond.before, Cond.holds, Cond.value, h1, h2, h3, h4, g1, g2, g3, g4, g5, g6]
def isCode : Jvm.Cond → Bool
  | .code _ _ _ _ => true
  | _ => false
theorem all_split {L : List Jvm.Cond} {P : Jvm.Cond → Bool} (h1 : L.all (fun c => isCode c || P c) = true) (h2 : ∀ c ∈ L.filter isCode, P c = true) : L.all P = true := by
  refine List.all_eq_true.mpr fun c hc => ?_
  have h := List.all_eq_true.mp h1 c hc
  rcases Bool.eq_false_or_eq_true (isCode c) with hi | hi
  · exact h2 c (List.mem_filter.mpr ⟨hc, hi⟩)
  · simpa [hi] using h
set_option maxRecDepth 65536 in
theorem w_c0 : (Jvm.Cond.code x code maxLocals ret).before args0 about1 = true := code_word (m := ⟨1, 1⟩) (meth := k1m1) (c := k1c1) (by decide +kernel) rfl rfl rfl (by decide +kernel)
set_option maxRecDepth 65536 in
theorem w_c1 : (Jvm.Cond.code ({ cls := "com/example/ogmios/ogmios/codec/MethodType", name := "isReceivedByServer", desc := "()Z" } : Jvm.MethodName) prog_14_method_8_code (1 : Nat) (Option.some Jvm.ClassFile.FieldType.boolean)).before args0 about1 = true := code_word (m := ⟨6, 0⟩) (meth := k6m0) (c := k6c0) (by decide +kernel) rfl rfl rfl (by decide +kernel)
set_option maxRecDepth 65536 in
theorem w_c2 : (Jvm.Cond.code ({ cls := "com/example/ogmios/ogmios/codec/MethodType", name := "receiver", desc := "()Lcom/example/ogmios/ogmios/codec/MethodType$Peer;" } : Jvm.MethodName) prog_14_method_9_code (1 : Nat) (Option.some (Jvm.ClassFile.FieldType.object "com/example/ogmios/ogmios/codec/MethodType$Peer"))).before args0 about1 = true := code_word (m := ⟨6, 1⟩) (meth := k6m1) (c := k6c1) (by decide +kernel) rfl rfl rfl (by decide +kernel)
def codes1 : List Jvm.Cond := [Jvm.Cond.code x code maxLocals ret, Jvm.Cond.code ({ cls := "com/example/ogmios/ogmios/codec/MethodType", name := "isReceivedByServer", desc := "()Z" } : Jvm.MethodName) prog_14_method_8_code (1 : Nat) (Option.some Jvm.ClassFile.FieldType.boolean), Jvm.Cond.code ({ cls := "com/example/ogmios/ogmios/codec/MethodType", name := "receiver", desc := "()Lcom/example/ogmios/ogmios/codec/MethodType$Peer;" } : Jvm.MethodName) prog_14_method_9_code (1 : Nat) (Option.some (Jvm.ClassFile.FieldType.object "com/example/ogmios/ogmios/codec/MethodType$Peer"))]
set_option maxRecDepth 65536 in
theorem codes_eq : words1.filter isCode = codes1 := rfl
theorem w_codes : ∀ c ∈ words1.filter isCode, c.before args0 about1 = true := by
  rw [codes_eq]
  intro c hc
  simp only [codes1, List.mem_cons, List.not_mem_nil, or_false] at hc
  rcases hc with rfl | rfl | rfl
  · exact w_c0
  · exact w_c1
  · exact w_c2
set_option maxRecDepth 65536 in
theorem w_t1 : (words1.take 24).all (fun c => isCode c || c.before args0 about1) = true := by decide +kernel
set_option maxRecDepth 65536 in
theorem w_t2 : (words1.drop 24).all (fun c => isCode c || c.before args0 about1) = true := by decide +kernel
theorem w_tables : (allAtoms (Jvm.Cond.code x code maxLocals ret :: tables_1)).before args0 about1 = true := by
  rw [allAtoms_all]
  show words1.all (fun c => c.before args0 about1) = true
  refine all_split ?_ w_codes
  rw [← List.take_append_drop 24 words1, List.all_append, w_t1, w_t2]
  rfl
set_option maxRecDepth 65536 in
theorem w_case : (Jvm.Cond.and given_1 narrow_1).before args0 about1 = true := by decide +kernel
theorem w_applies : (headSpec (Jvm.Cond.code x code maxLocals ret :: tables_1) room_1).applies x e0.platform about1 = true :=
  (Spec.applies_iff w_frames).mpr ⟨w_running, w_runnable, w_alone, w_named, w_hears, w_ripe, w_room, w_tables⟩
theorem atStart : AtStart classFile x code maxLocals ret World_1 tables_1 room_1 Calls_1 rest_1 Pre_1 launch0 p0 e0 about1 theMethod args0 below0 :=
  ⟨lists_1, trivial, launch0.admits_env _ _ _, launch0.least_env, fairChoices_fair.cas, fairChoices_fair.clock, w_frames, w_args, w_heap, w_applies, trivial, trivial, w_case⟩
end start1
theorem witness_1 : WitnessClaimed_1 := ⟨start1.p0, start1.e0, start1.about1, start1.theMethod, start1.args0, start1.below0, start1.atStart⟩
end Jvm.Pilot.@@N@@
